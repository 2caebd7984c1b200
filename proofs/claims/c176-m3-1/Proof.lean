import JvmDerived
import JvmDerived.Pilot.@@N@@Statement
import JvmDerived.Pilot.@@N@@Code
set_option linter.unusedVariables false
set_option linter.unusedSimpArgs false
namespace Jvm.RoadKit
open Sem ClassFile Op Lib Jvm.Stand Jvm.Free Jvm.LawKit
section New
variable {p : Program} {l : Launch} {e : Env} {R : Room} {s : State} {m : MethodId} {args : Array Value} {below : List Frame} {meth : Method} {c : Code} {T : State} {locs : List Loc} {cells slots : Nat}
theorem retI (X : Stand p l e R s m args below meth c T locs cells slots) (hx : p.tables.exec = Jvm.exec) {pc : Nat} {Ls : Array Slot} {z : Int32} {rest : List Value} (hret : meth.sig.returnType = some .int) (hd : decode c.code pc = .ok (.ireturn, 1)) {fs : List Frame}
    (hl : ∀ (f : JFrame) (acts : List Action), f.method = m → f.locked = none → f.entered = [] → (doReturn e (T.setTop f) acts (some (.int z))).1 = T.setFrames fs) : Steps p.tables e below (T.setTop (mkF m pc Ls (.int z :: rest))) (T.setFrames fs) := by
  have hm' : T.vm.method? m = some meth := X.method'
  have hn : narrow .int (.int z) = .int z := rfl
  show Steps p.tables e below (T.setTop { method := m, pc := pc, locals := Ls, stack := _ :: rest, locked := none }) _
  jvm_step X.here [X.here.top, hx, hd, hm', hret, hn]
  first | (intro acts; rw [hl _ acts rfl rfl rfl]) | rw [hl _ _ rfl rfl rfl]
  exact Steps.refl _
theorem retJ (X : Stand p l e R s m args below meth c T locs cells slots) (hx : p.tables.exec = Jvm.exec) {pc : Nat} {Ls : Array Slot} {z : Int64} {rest : List Value} (hret : meth.sig.returnType = some .long) (hd : decode c.code pc = .ok (.lreturn, 1)) {fs : List Frame}
    (hl : ∀ (f : JFrame) (acts : List Action), f.method = m → f.locked = none → f.entered = [] → (doReturn e (T.setTop f) acts (some (.long z))).1 = T.setFrames fs) : Steps p.tables e below (T.setTop (mkF m pc Ls (.long z :: rest))) (T.setFrames fs) := by
  have hm' : T.vm.method? m = some meth := X.method'
  have hn : narrow .long (.long z) = .long z := rfl
  show Steps p.tables e below (T.setTop { method := m, pc := pc, locals := Ls, stack := _ :: rest, locked := none }) _
  jvm_step X.here [X.here.top, hx, hd, hm', hret, hn]
  first | (intro acts; rw [hl _ acts rfl rfl rfl]) | rw [hl _ _ rfl rfl rfl]
  exact Steps.refl _
end New
end Jvm.RoadKit
namespace Jvm.Pilot.@@N@@
open Jvm Jvm.ClassFile Sem Op Lib Jvm.Free Jvm.Stand Jvm.LawKit Jvm.RoadKit Bundle Jvm.Pilot.@@N@@.Jvm.D
def own_f (x : Int64) : Nat → Int64
  | 0 => 1
  | 1 => x
  | n + 2 => own_f x (n + 1) * x
theorem own_fs (x : Int64) : ∀ i : Nat, own_f x i * x = own_f x (i + 1)
  | 0 => Int64.one_mul x
  | n + 1 => rfl
def own_exact (w : Int64) (y : Int64) : Prop := (w * y).toInt = w.toInt * y.toInt ∧ ¬ w = (-9223372036854775808 : Int64)
theorem own_bmod {n : Int} (h : n.natAbs ≤ 4611686018427387904) : n.bmod (2 ^ 64) = n := by
  rw [Int.bmod_def]; omega
theorem own_pow {X : Int64} {D : Nat} (hb : ∀ j, j ≤ D → (X.toInt ^ j).natAbs ≤ 4611686018427387904) : ∀ j, j ≤ D → (own_f X j).toInt = X.toInt ^ j
  | 0, _ => by
    rw [Int.pow_zero]
    show (1 : Int64).toInt = 1
    decide
  | 1, _ => by rw [Int.pow_succ, Int.pow_zero, Int.one_mul]; rfl
  | n + 2, h => by
    have ih := own_pow hb (n + 1) (by omega)
    have hn := hb (n + 2) h
    show (own_f X (n + 1) * X).toInt = _
    rw [Int64.toInt_mul, ih, ← Int.pow_succ]
    exact own_bmod hn
theorem own_ok {X : Int64} {D : Nat} (hb : ∀ j, j ≤ D → (X.toInt ^ j).natAbs ≤ 4611686018427387904) : ∀ j, j < D → own_exact (own_f X j) X := fun j hj => by
  have h1 := own_pow hb j (by omega)
  have h2 := own_pow hb (j + 1) (by omega)
  refine ⟨?_, fun e => ?_⟩
  · rw [own_fs, h2, h1, Int.pow_succ]
  · have h3 := hb j (by omega)
    rw [← h1, e] at h3
    revert h3
    decide
theorem own_pb {z : Int} {B K D j : Nat} (hz : z.natAbs ≤ B) (hB : 1 ≤ B) (hK : B ^ D ≤ K) (hj : j ≤ D) : (z ^ j).natAbs ≤ K := by
  rw [Int.natAbs_pow]
  exact Nat.le_trans (Nat.pow_le_pow_left hz j) (Nat.le_trans (Nat.pow_le_pow_right hB hj) hK)
theorem own_small (f : Int32) : ∀ j, j ≤ 2 → ((f.toInt64).toInt ^ j).natAbs ≤ 4611686018427387904 := fun j hj =>
  own_pb (B := 2147483648) (D := 2) (by rw [c_i2l]; have := rng32 f; omega) (by decide) (by decide) hj
theorem own_big (f : Int32) : ∀ j, j ≤ 15 → (((f % (17 : Int32)).toInt64).toInt ^ j).natAbs ≤ 4611686018427387904 := fun j hj =>
  own_pb (B := 16) (D := 15) (by
    rw [c_i2l]
    have h := c_irem f 17 17 (by decide)
    rcases Int.lt_or_le f.toInt 0 with q | q
    · have := h.2 q; omega
    · have := h.1 q; omega) (by decide) (by decide) hj
theorem own_lt {x y : Int32} : x < y ↔ x.toInt < y.toInt := Int32.lt_iff_toInt_lt
theorem own_i0 : (0 : Int32).toInt = 0 := by decide
theorem own_i1 : (1 : Int32).toInt = 1 := by decide
theorem own_nat {x : Int32} {k : Nat} (h : x.toInt = (k : Int)) : x.toNatClampNeg = k := by
  have := nat_of (j := x) (by rw [own_lt, own_i0]; omega)
  omega
theorem own_inb {cl : Cell} {N : Nat} {x : Int32} {k : Nat} (S : cl.slots.size = N) (h : x.toInt = (k : Int)) (hk : k < N) : ¬ (x < 0 ∨ cl.slots.size ≤ x.toNatClampNeg) := by
  rw [S, own_nat h, own_lt, own_i0]
  omega
theorem own_add1 (x : Int32) (h1 : -100 ≤ x.toInt) (h2 : x.toInt ≤ 100) : (x + (1 : Int32)).toInt = x.toInt + 1 := by
  have h := c_iadd x 1
  have r := rng32 (x + 1)
  have i1 := own_i1
  omega
theorem own_sub1 (x : Int32) (h1 : -100 ≤ x.toInt) (h2 : x.toInt ≤ 100) : (x - (1 : Int32)).toInt = x.toInt - 1 := by
  have h := c_isub x 1
  have r := rng32 (x - 1)
  have i1 := own_i1
  omega
theorem own_D (x : Int32) : ∃ D : Nat, D ≤ 15 ∧ (x &&& (15 : Int32)).toInt = (D : Int) := by
  have h := c_mask x 15 4 (by decide) (by decide)
  exact ⟨(x.toInt % 16).toNat, by omega, by omega⟩
/-- an array by its values -/
def own_A (Z : State) (h : Heap) (a : Addr) (ty : FieldType) (N : Nat) (f : Nat → Value) : Prop := ∃ cl : Cell, Arr Z h a cl ty ∧ cl.slots.size = N ∧ ∀ j, j < N → cl.slots[j]? = some (f j)
theorem own_ofV {Z : State} {h : Heap} {a : Addr} {k : ClassId} {ty : FieldType} {z : Int32} {vs : List Value} {d : Value} (V : Arv Z h a k ty z vs d) : own_A Z h a ty z.toNatClampNeg (fun j => vs.getD j d) := by
  obtain ⟨cl, Ar, -, S, -, H, -⟩ := V
  exact ⟨cl, Ar, S, fun j hj => H j (by rw [S]; exact hj)⟩
theorem own_congr {Z : State} {h : Heap} {a : Addr} {ty : FieldType} {N : Nat} {f g : Nat → Value} (A : own_A Z h a ty N f) (q : ∀ j, j < N → f j = g j) : own_A Z h a ty N g := by
  obtain ⟨cl, Ar, S, H⟩ := A
  exact ⟨cl, Ar, S, fun j hj => by rw [← q j hj]; exact H j hj⟩
theorem own_set {Z : State} {h h' : Heap} {a : Addr} {ty : FieldType} {N : Nat} {f : Nat → Value} {k k' : Nat} {v : Value} (A : own_A Z h a ty N f) (W : Wr h h' a k' v) (hk : k' = k) : own_A Z h' a ty N (fun j => if j = k then v else f j) := by
  subst hk
  obtain ⟨cl, Ar, S, H⟩ := A
  refine ⟨cl.setSlot k' v, Ar.same W, by rw [sz_set]; exact S, fun j hj => ?_⟩
  by_cases u : k' = j
  · subst u
    simp [Cell.setSlot, S, hj]
  · have u' : ¬ j = k' := fun e => u e.symm
    have := H j hj
    simp only [Cell.setSlot, if_neg u']
    rw [Array.getElem?_setIfInBounds_ne u]
    exact this
def own_vis (Z : State) (h : Heap) (a : Addr) (x : Int32) (w : Int64) : Prop := ∃ cl : Cell, Arr Z h a cl .long ∧ ¬ (x < 0 ∨ cl.slots.size ≤ x.toNatClampNeg) ∧ cl.slots[x.toNatClampNeg]? = some (.long w)
theorem own_hok {Z : State} {h : Heap} {a : Addr} {D : Nat} {f : Nat → Int64} {p2 : Int32} (hp2 : p2.toInt = (D : Int)) (V : own_A Z h a .long (D + 1) (fun j => .long (f j))) (i : Nat) (x : Int32) (hx : x.toInt = (i : Int)) : p2 < x ∨ own_vis Z h a x (f i) := by
  by_cases q : p2 < x
  · exact Or.inl q
  · rw [own_lt] at q
    obtain ⟨cl, Ar, S, H⟩ := V
    refine Or.inr ⟨cl, Ar, own_inb S hx (by omega), ?_⟩
    rw [own_nat hx]
    exact H i (by omega)
def own_abs (x : Int64) : Int64 := if x < 0 then -x else x
theorem own_div {x y : Int64} (h : own_exact x y) (hy : ¬ y = 0) : (x * y) / y = x := by
  apply Int64.toInt_inj.mp
  have hy' : y.toInt ≠ 0 := fun e => hy (Int64.toInt_inj.mp (e.trans (by decide)))
  rw [Int64.toInt_div, h.1, Int.mul_tdiv_cancel _ hy']
  have r := rng64 x
  rw [Int.bmod_def]
  omega
theorem d5_0 : decode jdk_29_method_61_code 0 = .ok (.lload_n 0, 1) := by decide +kernel
theorem d5_1 : decode jdk_29_method_61_code 1 = .ok (.lconst 0, 1) := by decide +kernel
theorem d5_2 : decode jdk_29_method_61_code 2 = .ok (.lcmp, 1) := by decide +kernel
theorem d5_3 : decode jdk_29_method_61_code 3 = .ok (.ifCond .ge 8, 3) := by decide +kernel
theorem d5_11 : decode jdk_29_method_61_code 11 = .ok (.lload_n 0, 1) := by decide +kernel
theorem d5_12 : decode jdk_29_method_61_code 12 = .ok (.lreturn, 1) := by decide +kernel
theorem ef_5 (m : MethodId) (x0 : Int64) : entryFrame m #[(.long x0)] 2 = mkF m 0 #[.val (.long x0), .second] [] := by first | (simp [entryFrame, mkF, argsToLocals, Value.category]; done) | rfl
def Q5 (Z : State) (q1 : Int64) (h0 : Heap) (n0 : Nat) (v : Option Value) (h : Heap) (L : List Loc) : Prop := v = some (.long (own_abs q1)) ∧ Fr n0 L ∧ h = h0
set_option maxRecDepth 65536 in
set_option maxHeartbeats 40000000 in
theorem rm5_t (l : Launch) (Z : State) (a0 : Array Value) (hw : ∀ d ∈ tables_1, d.before a0 Z = true) (ws : List Jvm.Cond) (q1 : Int64) (h0 : Heap) (n0 : Nat) (Z0 : n0 ≤ h0.size) (hc3 : ¬ ((lcmpW q1 (0 : Int64)) < (0 : Int32))) :
    MetFree l (⟨"java/lang/Math", "abs", "(J)J"⟩ : MethodName) (head1 (Jvm.Cond.code (⟨"java/lang/Math", "abs", "(J)J"⟩ : MethodName) jdk_29_method_61_code 2 (some .long) :: ws) ({ frames := 0, cells := 0, slots := 0, locals := 0 } : Room)) (fun a U => a = #[(.long q1)] ∧ Z.Warmed39 U.vm ∧ U.heap = h0) (fun _ _ _ _ _ => True) (fun _ U o U' => ∃ v L, o = .returned v ∧ Q5 Z q1 h0 n0 v U'.heap L ∧ FrameEnd U o U' L ({ frames := 0, cells := 0, slots := 0, locals := 0 } : Room).cells ({ frames := 0, cells := 0, slots := 0, locals := 0 } : Room).slots) := by
  refine MetFree.of_bodySF (Jvm.Free.JP.mathPlain rfl (by decide +kernel)) hisR ?_
  intro p e s m args below meth c s₁ Bd hml0 hP hK
  obtain ⟨rfl, hZ, hh⟩ := hP
  have hx := Bd.exec
  have hby := Bd.bytes
  have hml : c.maxLocals = 2 := hml0
  have hown : s.vm.findClass "java/lang/Math" = some m.cls := findClass_of_methodNamed Bd.named
  have hnm := (name_of_methodNamed Bd.named Bd.method).1
  have X0 : Stand p l e ({ frames := 0, cells := 0, slots := 0, locals := 0 } : Room) s m #[(.long q1)] below meth c s₁ [] 0 0 := Stand.of_body Bd
  have e0 : s₁.heap = h0 := by rw [← hh, Bd.state]; rfl
  have N0 := Fr.nil n0
  have pre0 : ∀ t, Steps p.tables e below (s₁.setTop (mkF m 0 #[.val (.long q1), .second] [])) t → Steps p.tables e below (s₁.setTop (entryFrame m #[(.long q1)] 2)) t := fun t k => castTop (ef_5 m q1) k
  obtain ⟨fs, hr, hrun, hended, hW, hsame⟩ := X0.leave (v := some (.long q1)) (fun h => by rw [Bd.returns] at h; cases h)
  refine ⟨_, _, pre0 _ ?_, hrun, hended, _, _, rfl, ?_, ⟨_, rfl⟩, hW, hsame.mono (by decide) (by decide)⟩
  · show Steps p.tables e below (s₁.setTop (mkF m 0 #[.val (.long q1), .second] [])) _
    refine XS.lloadN X0.here hx rfl (hb hby d5_0) rfl ?_
    show Steps p.tables e below (s₁.setTop (mkF m 1 #[.val (.long q1), .second] [(.long q1)])) _
    refine XS.lconst X0.here hx rfl (hb hby d5_1) ?_
    show Steps p.tables e below (s₁.setTop (mkF m 2 #[.val (.long q1), .second] [(.long (0 : Int64)), (.long q1)])) _
    refine XS.lcmp X0.here hx rfl (hb hby d5_2) rfl ?_
    show Steps p.tables e below (s₁.setTop (mkF m 3 #[.val (.long q1), .second] [(.int (lcmpW q1 (0 : Int64)))])) _
    refine XS.ifYes X0.here hx rfl (pc0 := 3) (pc' := 11) rfl (hb hby d5_3) rfl ((if0 _ _).trans (flt hc3).2.1) (by decide) (by decide) ?_
    show Steps p.tables e below (s₁.setTop (mkF m 11 #[.val (.long q1), .second] [])) _
    refine XS.lloadN X0.here hx rfl (hb hby d5_11) rfl ?_
    show Steps p.tables e below (s₁.setTop (mkF m 12 #[.val (.long q1), .second] [(.long q1)])) _
    exact retJ X0 hx Bd.returns (hb hby d5_12) hr
  · show Q5 Z q1 h0 n0 _ s₁.heap _
    rw [e0]
    exact ⟨by rw [own_abs, if_neg (fun h => hc3 ((lw_lt _ _).mpr h))], N0, rfl⟩
theorem d5_6 : decode jdk_29_method_61_code 6 = .ok (.lload_n 0, 1) := by decide +kernel
theorem d5_7 : decode jdk_29_method_61_code 7 = .ok (.lneg, 1) := by decide +kernel
theorem d5_8 : decode jdk_29_method_61_code 8 = .ok (.goto 4, 3) := by decide +kernel
set_option maxRecDepth 65536 in
set_option maxHeartbeats 40000000 in
theorem rm5_f (l : Launch) (Z : State) (a0 : Array Value) (hw : ∀ d ∈ tables_1, d.before a0 Z = true) (ws : List Jvm.Cond) (q1 : Int64) (h0 : Heap) (n0 : Nat) (Z0 : n0 ≤ h0.size) (hc3 : (lcmpW q1 (0 : Int64)) < (0 : Int32)) :
    MetFree l (⟨"java/lang/Math", "abs", "(J)J"⟩ : MethodName) (head1 (Jvm.Cond.code (⟨"java/lang/Math", "abs", "(J)J"⟩ : MethodName) jdk_29_method_61_code 2 (some .long) :: ws) ({ frames := 0, cells := 0, slots := 0, locals := 0 } : Room)) (fun a U => a = #[(.long q1)] ∧ Z.Warmed39 U.vm ∧ U.heap = h0) (fun _ _ _ _ _ => True) (fun _ U o U' => ∃ v L, o = .returned v ∧ Q5 Z q1 h0 n0 v U'.heap L ∧ FrameEnd U o U' L ({ frames := 0, cells := 0, slots := 0, locals := 0 } : Room).cells ({ frames := 0, cells := 0, slots := 0, locals := 0 } : Room).slots) := by
  refine MetFree.of_bodySF (Jvm.Free.JP.mathPlain rfl (by decide +kernel)) hisR ?_
  intro p e s m args below meth c s₁ Bd hml0 hP hK
  obtain ⟨rfl, hZ, hh⟩ := hP
  have hx := Bd.exec
  have hby := Bd.bytes
  have hml : c.maxLocals = 2 := hml0
  have hown : s.vm.findClass "java/lang/Math" = some m.cls := findClass_of_methodNamed Bd.named
  have hnm := (name_of_methodNamed Bd.named Bd.method).1
  have X0 : Stand p l e ({ frames := 0, cells := 0, slots := 0, locals := 0 } : Room) s m #[(.long q1)] below meth c s₁ [] 0 0 := Stand.of_body Bd
  have e0 : s₁.heap = h0 := by rw [← hh, Bd.state]; rfl
  have N0 := Fr.nil n0
  have pre0 : ∀ t, Steps p.tables e below (s₁.setTop (mkF m 0 #[.val (.long q1), .second] [])) t → Steps p.tables e below (s₁.setTop (entryFrame m #[(.long q1)] 2)) t := fun t k => castTop (ef_5 m q1) k
  obtain ⟨fs, hr, hrun, hended, hW, hsame⟩ := X0.leave (v := some (.long (-q1))) (fun h => by rw [Bd.returns] at h; cases h)
  refine ⟨_, _, pre0 _ ?_, hrun, hended, _, _, rfl, ?_, ⟨_, rfl⟩, hW, hsame.mono (by decide) (by decide)⟩
  · show Steps p.tables e below (s₁.setTop (mkF m 0 #[.val (.long q1), .second] [])) _
    refine XS.lloadN X0.here hx rfl (hb hby d5_0) rfl ?_
    show Steps p.tables e below (s₁.setTop (mkF m 1 #[.val (.long q1), .second] [(.long q1)])) _
    refine XS.lconst X0.here hx rfl (hb hby d5_1) ?_
    show Steps p.tables e below (s₁.setTop (mkF m 2 #[.val (.long q1), .second] [(.long (0 : Int64)), (.long q1)])) _
    refine XS.lcmp X0.here hx rfl (hb hby d5_2) rfl ?_
    show Steps p.tables e below (s₁.setTop (mkF m 3 #[.val (.long q1), .second] [(.int (lcmpW q1 (0 : Int64)))])) _
    refine XS.ifNo X0.here hx rfl (hb hby d5_3) rfl ((if0 _ _).trans (tlt hc3).2.1) ?_
    show Steps p.tables e below (s₁.setTop (mkF m 6 #[.val (.long q1), .second] [])) _
    refine XS.lloadN X0.here hx rfl (hb hby d5_6) rfl ?_
    show Steps p.tables e below (s₁.setTop (mkF m 7 #[.val (.long q1), .second] [(.long q1)])) _
    refine XS.lneg X0.here hx rfl (hb hby d5_7) rfl ?_
    show Steps p.tables e below (s₁.setTop (mkF m 8 #[.val (.long q1), .second] [(.long (-q1))])) _
    refine XS.goto X0.here hx rfl (pc0 := 8) (pc' := 12) rfl (hb hby d5_8) (by decide) (by decide) ?_
    show Steps p.tables e below (s₁.setTop (mkF m 12 #[.val (.long q1), .second] [(.long (-q1))])) _
    exact retJ X0 hx Bd.returns (hb hby d5_12) hr
  · show Q5 Z q1 h0 n0 _ s₁.heap _
    rw [e0]
    exact ⟨by rw [own_abs, if_pos ((lw_lt _ _).mp hc3)], N0, rfl⟩
set_option maxRecDepth 65536 in
set_option maxHeartbeats 40000000 in
theorem rm5 (l : Launch) (Z : State) (a0 : Array Value) (hw : ∀ d ∈ tables_1, d.before a0 Z = true) (ws : List Jvm.Cond) (q1 : Int64) (h0 : Heap) (n0 : Nat) (Z0 : n0 ≤ h0.size) :
    MetFree l (⟨"java/lang/Math", "abs", "(J)J"⟩ : MethodName) (head1 (Jvm.Cond.code (⟨"java/lang/Math", "abs", "(J)J"⟩ : MethodName) jdk_29_method_61_code 2 (some .long) :: ws) ({ frames := 0, cells := 0, slots := 0, locals := 0 } : Room)) (fun a U => a = #[(.long q1)] ∧ Z.Warmed39 U.vm ∧ U.heap = h0) (fun _ _ _ _ _ => True) (fun _ U o U' => ∃ v L, o = .returned v ∧ Q5 Z q1 h0 n0 v U'.heap L ∧ FrameEnd U o U' L ({ frames := 0, cells := 0, slots := 0, locals := 0 } : Room).cells ({ frames := 0, cells := 0, slots := 0, locals := 0 } : Room).slots) := by
  by_cases c1 : (lcmpW q1 (0 : Int64)) < (0 : Int32)
  · exact rm5_f l Z a0 hw ws q1 h0 n0 Z0 c1
  · exact rm5_t l Z a0 hw ws q1 h0 n0 Z0 c1
theorem d4_0 : decode jdk_29_method_30_code 0 = .ok (.lload_n 0, 1) := by decide +kernel
theorem d4_1 : decode jdk_29_method_30_code 1 = .ok (.lload_n 2, 1) := by decide +kernel
theorem d4_2 : decode jdk_29_method_30_code 2 = .ok (.lmul, 1) := by decide +kernel
theorem d4_3 : decode jdk_29_method_30_code 3 = .ok (.lstore 4, 2) := by decide +kernel
theorem d4_5 : decode jdk_29_method_30_code 5 = .ok (.lload_n 0, 1) := by decide +kernel
theorem d4_6 : decode jdk_29_method_30_code 6 = .ok (.invokestatic 122, 3) := by decide +kernel
theorem d4_9 : decode jdk_29_method_30_code 9 = .ok (.lstore 6, 2) := by decide +kernel
theorem d4_11 : decode jdk_29_method_30_code 11 = .ok (.lload_n 2, 1) := by decide +kernel
theorem d4_12 : decode jdk_29_method_30_code 12 = .ok (.invokestatic 122, 3) := by decide +kernel
theorem d4_15 : decode jdk_29_method_30_code 15 = .ok (.lstore 8, 2) := by decide +kernel
theorem d4_17 : decode jdk_29_method_30_code 17 = .ok (.lload 6, 2) := by decide +kernel
theorem d4_19 : decode jdk_29_method_30_code 19 = .ok (.lload 8, 2) := by decide +kernel
theorem d4_21 : decode jdk_29_method_30_code 21 = .ok (.lor, 1) := by decide +kernel
theorem d4_22 : decode jdk_29_method_30_code 22 = .ok (.bipush 31, 2) := by decide +kernel
theorem d4_24 : decode jdk_29_method_30_code 24 = .ok (.lushr, 1) := by decide +kernel
theorem d4_25 : decode jdk_29_method_30_code 25 = .ok (.lconst 0, 1) := by decide +kernel
theorem d4_26 : decode jdk_29_method_30_code 26 = .ok (.lcmp, 1) := by decide +kernel
theorem d4_27 : decode jdk_29_method_30_code 27 = .ok (.ifCond .eq 44, 3) := by decide +kernel
theorem d4_71 : decode jdk_29_method_30_code 71 = .ok (.lload 4, 2) := by decide +kernel
theorem d4_73 : decode jdk_29_method_30_code 73 = .ok (.lreturn, 1) := by decide +kernel
theorem pd_4_4 : parseMethodDescriptor "(J)J" = some ⟨[.long], some .long⟩ := by decide +kernel
theorem ef_4 (m : MethodId) (x0 : Int64) (x1 : Int64) : entryFrame m #[(.long x0), (.long x1)] 10 = mkF m 0 #[.val (.long x0), .second, .val (.long x1), .second, .unset, .unset, .unset, .unset, .unset, .unset] [] := by first | (simp [entryFrame, mkF, argsToLocals, Value.category]; done) | rfl
def Q4 (Z : State) (q1 : Int64) (q2 : Int64) (h0 : Heap) (n0 : Nat) (v : Option Value) (h : Heap) (L : List Loc) : Prop := v = some (.long (q1 * q2)) ∧ Fr n0 L ∧ h = h0
set_option maxRecDepth 65536 in
set_option maxHeartbeats 40000000 in
theorem rm4_t (l : Launch) (Z : State) (a0 : Array Value) (hw : ∀ d ∈ tables_1, d.before a0 Z = true) (ws : List Jvm.Cond) (q1 : Int64) (q2 : Int64) (h0 : Heap) (n0 : Nat) (Z0 : n0 ≤ h0.size) (hc27 : (lcmpW ((((own_abs q1) ||| (own_abs q2)).toUInt64 >>> ((31 : Int32) &&& 0x3f).toInt64.toUInt64).toInt64) (0 : Int64)) = (0 : Int32)) :
    MetFree l (⟨"java/lang/Math", "multiplyExact", "(JJ)J"⟩ : MethodName) (head1 (Jvm.Cond.code (⟨"java/lang/Math", "multiplyExact", "(JJ)J"⟩ : MethodName) jdk_29_method_30_code 10 (some .long) :: ws) ({ frames := 1, cells := 0, slots := 0, locals := 13 } : Room)) (fun a U => a = #[(.long q1), (.long q2)] ∧ Z.Warmed39 U.vm ∧ U.heap = h0) (fun _ _ _ _ _ => True) (fun _ U o U' => ∃ v L, o = .returned v ∧ Q4 Z q1 q2 h0 n0 v U'.heap L ∧ FrameEnd U o U' L ({ frames := 1, cells := 0, slots := 0, locals := 13 } : Room).cells ({ frames := 1, cells := 0, slots := 0, locals := 13 } : Room).slots) := by
  refine MetFree.of_bodySF (Jvm.Free.JP.mathPlain rfl (by decide +kernel)) hisR ?_
  intro p e s m args below meth c s₁ Bd hml0 hP hK
  obtain ⟨rfl, hZ, hh⟩ := hP
  have hx := Bd.exec
  have hby := Bd.bytes
  have hml : c.maxLocals = 10 := hml0
  have hown : s.vm.findClass "java/lang/Math" = some m.cls := findClass_of_methodNamed Bd.named
  have hnm := (name_of_methodNamed Bd.named Bd.method).1
  have X0 : Stand p l e ({ frames := 1, cells := 0, slots := 0, locals := 13 } : Room) s m #[(.long q1), (.long q2)] below meth c s₁ [] 0 0 := Stand.of_body Bd
  have e0 : s₁.heap = h0 := by rw [← hh, Bd.state]; rfl
  have N0 := Fr.nil n0
  have pre0 : ∀ t, Steps p.tables e below (s₁.setTop (mkF m 0 #[.val (.long q1), .second, .val (.long q2), .second, .unset, .unset, .unset, .unset, .unset, .unset] [])) t → Steps p.tables e below (s₁.setTop (entryFrame m #[(.long q1), (.long q2)] 10)) t := fun t k => castTop (ef_4 m q1 q2) k
  obtain ⟨_, _, ⟨T3, L3, k3, n3⟩, -, X3, ⟨Lc3, hQ3, l3, y3, z3⟩, st3⟩ := Jvm.LawKit.callS X0 hx (y := (⟨"java/lang/Math", "abs", "(J)J"⟩ : MethodName)) hown (mvT hZ (hw _ (List.mem_of_getElem? (i := 16) rfl))) (mvT hZ (hw _ (List.mem_of_getElem? (i := 17) rfl))) (mvT hZ (hw _ (List.mem_of_getElem? (i := 11) rfl))) (mvT hZ (hw _ (List.mem_of_getElem? (i := 18) rfl))) (by decide) (backOf (W := 0) (rm5 l Z a0 hw [] q1 h0 n0 Z0) hZ (hw _ (List.mem_of_getElem? (i := 18) rfl)) (hw _ (List.mem_of_getElem? (i := 11) rfl)) (by decide) (by decide)) (g := (mkF m 6 #[.val (.long q1), .second, .val (.long q2), .second, .val (.long (q1 * q2)), .second, .unset, .unset, .unset, .unset] [(.long q1)])) rfl (by rw [hml]; rfl) (argsL := [(.long q1)]) (rest := []) (lenOf pd_4_4 rfl) rfl (by show 2 * 0 + _ ≤ _; exact Nat.le_of_eq rfl) (hb hby d4_6) (fun _ _ => ⟨rfl, e0, (by decide : 0 + 0 ≤ _), (by decide : 0 + 0 ≤ _)⟩)
  dsimp only [Pt.U, Pt.locs, Pt.cells, Pt.slots] at X3 l3 y3 z3 st3 hQ3
  subst l3 y3 z3
  obtain ⟨rfl, N3q, e3q⟩ := hQ3
  have N3 := Fr.app N0 N3q
  obtain ⟨_, _, ⟨T4, L4, k4, n4⟩, -, X4, ⟨Lc4, hQ4, l4, y4, z4⟩, st4⟩ := Jvm.LawKit.callS X3 hx (y := (⟨"java/lang/Math", "abs", "(J)J"⟩ : MethodName)) hown (mvT hZ (hw _ (List.mem_of_getElem? (i := 16) rfl))) (mvT hZ (hw _ (List.mem_of_getElem? (i := 17) rfl))) (mvT hZ (hw _ (List.mem_of_getElem? (i := 11) rfl))) (mvT hZ (hw _ (List.mem_of_getElem? (i := 18) rfl))) (by decide) (backOf (W := 0) (rm5 l Z a0 hw [] q2 T3.heap n0 (by rw [e3q]; exact Z0)) hZ (hw _ (List.mem_of_getElem? (i := 18) rfl)) (hw _ (List.mem_of_getElem? (i := 11) rfl)) (by decide) (by decide)) (g := (mkF m 12 #[.val (.long q1), .second, .val (.long q2), .second, .val (.long (q1 * q2)), .second, .val (.long (own_abs q1)), .second, .unset, .unset] [(.long q2)])) rfl (by rw [hml]; rfl) (argsL := [(.long q2)]) (rest := []) (lenOf pd_4_4 rfl) rfl (by show 2 * 0 + _ ≤ _; exact Nat.le_of_eq rfl) (hb hby d4_12) (fun _ _ => ⟨rfl, rfl, (by decide : 0 + 0 ≤ _), (by decide : 0 + 0 ≤ _)⟩)
  dsimp only [Pt.U, Pt.locs, Pt.cells, Pt.slots] at X4 l4 y4 z4 st4 hQ4
  subst l4 y4 z4
  obtain ⟨rfl, N4q, e4q⟩ := hQ4
  have N4 := Fr.app N3 N4q
  obtain ⟨fs, hr, hrun, hended, hW, hsame⟩ := X4.leave (v := some (.long (q1 * q2))) (fun h => by rw [Bd.returns] at h; cases h)
  refine ⟨_, _, pre0 _ ?_, hrun, hended, _, _, rfl, ?_, ⟨_, rfl⟩, hW, hsame.mono (by decide) (by decide)⟩
  · show Steps p.tables e below (s₁.setTop (mkF m 0 #[.val (.long q1), .second, .val (.long q2), .second, .unset, .unset, .unset, .unset, .unset, .unset] [])) _
    refine XS.lloadN X0.here hx rfl (hb hby d4_0) rfl ?_
    show Steps p.tables e below (s₁.setTop (mkF m 1 #[.val (.long q1), .second, .val (.long q2), .second, .unset, .unset, .unset, .unset, .unset, .unset] [(.long q1)])) _
    refine XS.lloadN X0.here hx rfl (hb hby d4_1) rfl ?_
    show Steps p.tables e below (s₁.setTop (mkF m 2 #[.val (.long q1), .second, .val (.long q2), .second, .unset, .unset, .unset, .unset, .unset, .unset] [(.long q2), (.long q1)])) _
    refine XS.lmul X0.here hx rfl (hb hby d4_2) rfl ?_
    show Steps p.tables e below (s₁.setTop (mkF m 3 #[.val (.long q1), .second, .val (.long q2), .second, .unset, .unset, .unset, .unset, .unset, .unset] [(.long (q1 * q2))])) _
    refine XS.lstore X0.here hx rfl (hb hby d4_3) rfl (l' := #[.val (.long q1), .second, .val (.long q2), .second, .val (.long (q1 * q2)), .second, .unset, .unset, .unset, .unset]) rfl ?_
    show Steps p.tables e below (s₁.setTop (mkF m 5 #[.val (.long q1), .second, .val (.long q2), .second, .val (.long (q1 * q2)), .second, .unset, .unset, .unset, .unset] [])) _
    refine XS.lloadN X0.here hx rfl (hb hby d4_5) rfl ?_
    show Steps p.tables e below (s₁.setTop (mkF m 6 #[.val (.long q1), .second, .val (.long q2), .second, .val (.long (q1 * q2)), .second, .unset, .unset, .unset, .unset] [(.long q1)])) _
    refine st3 _ ?_
    show Steps p.tables e below (T3.setTop (mkF m 9 #[.val (.long q1), .second, .val (.long q2), .second, .val (.long (q1 * q2)), .second, .unset, .unset, .unset, .unset] [(.long (own_abs q1))])) _
    refine XS.lstore X3.here hx rfl (hb hby d4_9) rfl (l' := #[.val (.long q1), .second, .val (.long q2), .second, .val (.long (q1 * q2)), .second, .val (.long (own_abs q1)), .second, .unset, .unset]) rfl ?_
    show Steps p.tables e below (T3.setTop (mkF m 11 #[.val (.long q1), .second, .val (.long q2), .second, .val (.long (q1 * q2)), .second, .val (.long (own_abs q1)), .second, .unset, .unset] [])) _
    refine XS.lloadN X3.here hx rfl (hb hby d4_11) rfl ?_
    show Steps p.tables e below (T3.setTop (mkF m 12 #[.val (.long q1), .second, .val (.long q2), .second, .val (.long (q1 * q2)), .second, .val (.long (own_abs q1)), .second, .unset, .unset] [(.long q2)])) _
    refine st4 _ ?_
    show Steps p.tables e below (T4.setTop (mkF m 15 #[.val (.long q1), .second, .val (.long q2), .second, .val (.long (q1 * q2)), .second, .val (.long (own_abs q1)), .second, .unset, .unset] [(.long (own_abs q2))])) _
    refine XS.lstore X4.here hx rfl (hb hby d4_15) rfl (l' := #[.val (.long q1), .second, .val (.long q2), .second, .val (.long (q1 * q2)), .second, .val (.long (own_abs q1)), .second, .val (.long (own_abs q2)), .second]) rfl ?_
    show Steps p.tables e below (T4.setTop (mkF m 17 #[.val (.long q1), .second, .val (.long q2), .second, .val (.long (q1 * q2)), .second, .val (.long (own_abs q1)), .second, .val (.long (own_abs q2)), .second] [])) _
    refine XS.lload X4.here hx rfl (hb hby d4_17) rfl ?_
    show Steps p.tables e below (T4.setTop (mkF m 19 #[.val (.long q1), .second, .val (.long q2), .second, .val (.long (q1 * q2)), .second, .val (.long (own_abs q1)), .second, .val (.long (own_abs q2)), .second] [(.long (own_abs q1))])) _
    refine XS.lload X4.here hx rfl (hb hby d4_19) rfl ?_
    show Steps p.tables e below (T4.setTop (mkF m 21 #[.val (.long q1), .second, .val (.long q2), .second, .val (.long (q1 * q2)), .second, .val (.long (own_abs q1)), .second, .val (.long (own_abs q2)), .second] [(.long (own_abs q2)), (.long (own_abs q1))])) _
    refine XS.lor X4.here hx rfl (hb hby d4_21) rfl ?_
    show Steps p.tables e below (T4.setTop (mkF m 22 #[.val (.long q1), .second, .val (.long q2), .second, .val (.long (q1 * q2)), .second, .val (.long (own_abs q1)), .second, .val (.long (own_abs q2)), .second] [(.long ((own_abs q1) ||| (own_abs q2)))])) _
    refine XS.bipush X4.here hx rfl (hb hby d4_22) ?_
    show Steps p.tables e below (T4.setTop (mkF m 24 #[.val (.long q1), .second, .val (.long q2), .second, .val (.long (q1 * q2)), .second, .val (.long (own_abs q1)), .second, .val (.long (own_abs q2)), .second] [(.int (31 : Int32)), (.long ((own_abs q1) ||| (own_abs q2)))])) _
    refine XS.lushr X4.here hx rfl (hb hby d4_24) rfl ?_
    show Steps p.tables e below (T4.setTop (mkF m 25 #[.val (.long q1), .second, .val (.long q2), .second, .val (.long (q1 * q2)), .second, .val (.long (own_abs q1)), .second, .val (.long (own_abs q2)), .second] [(.long ((((own_abs q1) ||| (own_abs q2)).toUInt64 >>> ((31 : Int32) &&& 0x3f).toInt64.toUInt64).toInt64))])) _
    refine XS.lconst X4.here hx rfl (hb hby d4_25) ?_
    show Steps p.tables e below (T4.setTop (mkF m 26 #[.val (.long q1), .second, .val (.long q2), .second, .val (.long (q1 * q2)), .second, .val (.long (own_abs q1)), .second, .val (.long (own_abs q2)), .second] [(.long (0 : Int64)), (.long ((((own_abs q1) ||| (own_abs q2)).toUInt64 >>> ((31 : Int32) &&& 0x3f).toInt64.toUInt64).toInt64))])) _
    refine XS.lcmp X4.here hx rfl (hb hby d4_26) rfl ?_
    show Steps p.tables e below (T4.setTop (mkF m 27 #[.val (.long q1), .second, .val (.long q2), .second, .val (.long (q1 * q2)), .second, .val (.long (own_abs q1)), .second, .val (.long (own_abs q2)), .second] [(.int (lcmpW ((((own_abs q1) ||| (own_abs q2)).toUInt64 >>> ((31 : Int32) &&& 0x3f).toInt64.toUInt64).toInt64) (0 : Int64)))])) _
    refine XS.ifYes X4.here hx rfl (pc0 := 27) (pc' := 71) rfl (hb hby d4_27) rfl ((if0 _ _).trans (teq (hc27 : (lcmpW ((((own_abs q1) ||| (own_abs q2)).toUInt64 >>> ((31 : Int32) &&& 0x3f).toInt64.toUInt64).toInt64) (0 : Int64)) = (0 : Int32))).1) (by decide) (by decide) ?_
    show Steps p.tables e below (T4.setTop (mkF m 71 #[.val (.long q1), .second, .val (.long q2), .second, .val (.long (q1 * q2)), .second, .val (.long (own_abs q1)), .second, .val (.long (own_abs q2)), .second] [])) _
    refine XS.lload X4.here hx rfl (hb hby d4_71) rfl ?_
    show Steps p.tables e below (T4.setTop (mkF m 73 #[.val (.long q1), .second, .val (.long q2), .second, .val (.long (q1 * q2)), .second, .val (.long (own_abs q1)), .second, .val (.long (own_abs q2)), .second] [(.long (q1 * q2))])) _
    exact retJ X4 hx Bd.returns (hb hby d4_73) hr
  · show Q4 Z q1 q2 h0 n0 _ T4.heap _
    exact ⟨rfl, N4, e4q.trans e3q⟩
theorem d4_30 : decode jdk_29_method_30_code 30 = .ok (.lload_n 2, 1) := by decide +kernel
theorem d4_31 : decode jdk_29_method_30_code 31 = .ok (.lconst 0, 1) := by decide +kernel
theorem d4_32 : decode jdk_29_method_30_code 32 = .ok (.lcmp, 1) := by decide +kernel
theorem d4_33 : decode jdk_29_method_30_code 33 = .ok (.ifCond .eq 12, 3) := by decide +kernel
theorem d4_45 : decode jdk_29_method_30_code 45 = .ok (.lload_n 0, 1) := by decide +kernel
theorem d4_46 : decode jdk_29_method_30_code 46 = .ok (.ldc2_w 128, 3) := by decide +kernel
theorem d4_49 : decode jdk_29_method_30_code 49 = .ok (.lcmp, 1) := by decide +kernel
theorem d4_50 : decode jdk_29_method_30_code 50 = .ok (.ifCond .ne 21, 3) := by decide +kernel
set_option maxRecDepth 65536 in
set_option maxHeartbeats 40000000 in
theorem rm4_ftt (l : Launch) (Z : State) (a0 : Array Value) (hw : ∀ d ∈ tables_1, d.before a0 Z = true) (ws : List Jvm.Cond) (q1 : Int64) (q2 : Int64) (h0 : Heap) (n0 : Nat) (Z0 : n0 ≤ h0.size) (hc27 : ¬ ((lcmpW ((((own_abs q1) ||| (own_abs q2)).toUInt64 >>> ((31 : Int32) &&& 0x3f).toInt64.toUInt64).toInt64) (0 : Int64)) = (0 : Int32))) (hc33 : (lcmpW q2 (0 : Int64)) = (0 : Int32)) (hc50 : ¬ ((lcmpW q1 (-9223372036854775808 : Int64)) = (0 : Int32))) :
    MetFree l (⟨"java/lang/Math", "multiplyExact", "(JJ)J"⟩ : MethodName) (head1 (Jvm.Cond.code (⟨"java/lang/Math", "multiplyExact", "(JJ)J"⟩ : MethodName) jdk_29_method_30_code 10 (some .long) :: ws) ({ frames := 1, cells := 0, slots := 0, locals := 13 } : Room)) (fun a U => a = #[(.long q1), (.long q2)] ∧ Z.Warmed39 U.vm ∧ U.heap = h0) (fun _ _ _ _ _ => True) (fun _ U o U' => ∃ v L, o = .returned v ∧ Q4 Z q1 q2 h0 n0 v U'.heap L ∧ FrameEnd U o U' L ({ frames := 1, cells := 0, slots := 0, locals := 13 } : Room).cells ({ frames := 1, cells := 0, slots := 0, locals := 13 } : Room).slots) := by
  refine MetFree.of_bodySF (Jvm.Free.JP.mathPlain rfl (by decide +kernel)) hisR ?_
  intro p e s m args below meth c s₁ Bd hml0 hP hK
  obtain ⟨rfl, hZ, hh⟩ := hP
  have hx := Bd.exec
  have hby := Bd.bytes
  have hml : c.maxLocals = 10 := hml0
  have hown : s.vm.findClass "java/lang/Math" = some m.cls := findClass_of_methodNamed Bd.named
  have hnm := (name_of_methodNamed Bd.named Bd.method).1
  have X0 : Stand p l e ({ frames := 1, cells := 0, slots := 0, locals := 13 } : Room) s m #[(.long q1), (.long q2)] below meth c s₁ [] 0 0 := Stand.of_body Bd
  have e0 : s₁.heap = h0 := by rw [← hh, Bd.state]; rfl
  have N0 := Fr.nil n0
  have pre0 : ∀ t, Steps p.tables e below (s₁.setTop (mkF m 0 #[.val (.long q1), .second, .val (.long q2), .second, .unset, .unset, .unset, .unset, .unset, .unset] [])) t → Steps p.tables e below (s₁.setTop (entryFrame m #[(.long q1), (.long q2)] 10)) t := fun t k => castTop (ef_4 m q1 q2) k
  obtain ⟨_, _, ⟨T3, L3, k3, n3⟩, -, X3, ⟨Lc3, hQ3, l3, y3, z3⟩, st3⟩ := Jvm.LawKit.callS X0 hx (y := (⟨"java/lang/Math", "abs", "(J)J"⟩ : MethodName)) hown (mvT hZ (hw _ (List.mem_of_getElem? (i := 16) rfl))) (mvT hZ (hw _ (List.mem_of_getElem? (i := 17) rfl))) (mvT hZ (hw _ (List.mem_of_getElem? (i := 11) rfl))) (mvT hZ (hw _ (List.mem_of_getElem? (i := 18) rfl))) (by decide) (backOf (W := 0) (rm5 l Z a0 hw [] q1 h0 n0 Z0) hZ (hw _ (List.mem_of_getElem? (i := 18) rfl)) (hw _ (List.mem_of_getElem? (i := 11) rfl)) (by decide) (by decide)) (g := (mkF m 6 #[.val (.long q1), .second, .val (.long q2), .second, .val (.long (q1 * q2)), .second, .unset, .unset, .unset, .unset] [(.long q1)])) rfl (by rw [hml]; rfl) (argsL := [(.long q1)]) (rest := []) (lenOf pd_4_4 rfl) rfl (by show 2 * 0 + _ ≤ _; exact Nat.le_of_eq rfl) (hb hby d4_6) (fun _ _ => ⟨rfl, e0, (by decide : 0 + 0 ≤ _), (by decide : 0 + 0 ≤ _)⟩)
  dsimp only [Pt.U, Pt.locs, Pt.cells, Pt.slots] at X3 l3 y3 z3 st3 hQ3
  subst l3 y3 z3
  obtain ⟨rfl, N3q, e3q⟩ := hQ3
  have N3 := Fr.app N0 N3q
  obtain ⟨_, _, ⟨T4, L4, k4, n4⟩, -, X4, ⟨Lc4, hQ4, l4, y4, z4⟩, st4⟩ := Jvm.LawKit.callS X3 hx (y := (⟨"java/lang/Math", "abs", "(J)J"⟩ : MethodName)) hown (mvT hZ (hw _ (List.mem_of_getElem? (i := 16) rfl))) (mvT hZ (hw _ (List.mem_of_getElem? (i := 17) rfl))) (mvT hZ (hw _ (List.mem_of_getElem? (i := 11) rfl))) (mvT hZ (hw _ (List.mem_of_getElem? (i := 18) rfl))) (by decide) (backOf (W := 0) (rm5 l Z a0 hw [] q2 T3.heap n0 (by rw [e3q]; exact Z0)) hZ (hw _ (List.mem_of_getElem? (i := 18) rfl)) (hw _ (List.mem_of_getElem? (i := 11) rfl)) (by decide) (by decide)) (g := (mkF m 12 #[.val (.long q1), .second, .val (.long q2), .second, .val (.long (q1 * q2)), .second, .val (.long (own_abs q1)), .second, .unset, .unset] [(.long q2)])) rfl (by rw [hml]; rfl) (argsL := [(.long q2)]) (rest := []) (lenOf pd_4_4 rfl) rfl (by show 2 * 0 + _ ≤ _; exact Nat.le_of_eq rfl) (hb hby d4_12) (fun _ _ => ⟨rfl, rfl, (by decide : 0 + 0 ≤ _), (by decide : 0 + 0 ≤ _)⟩)
  dsimp only [Pt.U, Pt.locs, Pt.cells, Pt.slots] at X4 l4 y4 z4 st4 hQ4
  subst l4 y4 z4
  obtain ⟨rfl, N4q, e4q⟩ := hQ4
  have N4 := Fr.app N3 N4q
  obtain ⟨fs, hr, hrun, hended, hW, hsame⟩ := X4.leave (v := some (.long (q1 * q2))) (fun h => by rw [Bd.returns] at h; cases h)
  refine ⟨_, _, pre0 _ ?_, hrun, hended, _, _, rfl, ?_, ⟨_, rfl⟩, hW, hsame.mono (by decide) (by decide)⟩
  · show Steps p.tables e below (s₁.setTop (mkF m 0 #[.val (.long q1), .second, .val (.long q2), .second, .unset, .unset, .unset, .unset, .unset, .unset] [])) _
    refine XS.lloadN X0.here hx rfl (hb hby d4_0) rfl ?_
    show Steps p.tables e below (s₁.setTop (mkF m 1 #[.val (.long q1), .second, .val (.long q2), .second, .unset, .unset, .unset, .unset, .unset, .unset] [(.long q1)])) _
    refine XS.lloadN X0.here hx rfl (hb hby d4_1) rfl ?_
    show Steps p.tables e below (s₁.setTop (mkF m 2 #[.val (.long q1), .second, .val (.long q2), .second, .unset, .unset, .unset, .unset, .unset, .unset] [(.long q2), (.long q1)])) _
    refine XS.lmul X0.here hx rfl (hb hby d4_2) rfl ?_
    show Steps p.tables e below (s₁.setTop (mkF m 3 #[.val (.long q1), .second, .val (.long q2), .second, .unset, .unset, .unset, .unset, .unset, .unset] [(.long (q1 * q2))])) _
    refine XS.lstore X0.here hx rfl (hb hby d4_3) rfl (l' := #[.val (.long q1), .second, .val (.long q2), .second, .val (.long (q1 * q2)), .second, .unset, .unset, .unset, .unset]) rfl ?_
    show Steps p.tables e below (s₁.setTop (mkF m 5 #[.val (.long q1), .second, .val (.long q2), .second, .val (.long (q1 * q2)), .second, .unset, .unset, .unset, .unset] [])) _
    refine XS.lloadN X0.here hx rfl (hb hby d4_5) rfl ?_
    show Steps p.tables e below (s₁.setTop (mkF m 6 #[.val (.long q1), .second, .val (.long q2), .second, .val (.long (q1 * q2)), .second, .unset, .unset, .unset, .unset] [(.long q1)])) _
    refine st3 _ ?_
    show Steps p.tables e below (T3.setTop (mkF m 9 #[.val (.long q1), .second, .val (.long q2), .second, .val (.long (q1 * q2)), .second, .unset, .unset, .unset, .unset] [(.long (own_abs q1))])) _
    refine XS.lstore X3.here hx rfl (hb hby d4_9) rfl (l' := #[.val (.long q1), .second, .val (.long q2), .second, .val (.long (q1 * q2)), .second, .val (.long (own_abs q1)), .second, .unset, .unset]) rfl ?_
    show Steps p.tables e below (T3.setTop (mkF m 11 #[.val (.long q1), .second, .val (.long q2), .second, .val (.long (q1 * q2)), .second, .val (.long (own_abs q1)), .second, .unset, .unset] [])) _
    refine XS.lloadN X3.here hx rfl (hb hby d4_11) rfl ?_
    show Steps p.tables e below (T3.setTop (mkF m 12 #[.val (.long q1), .second, .val (.long q2), .second, .val (.long (q1 * q2)), .second, .val (.long (own_abs q1)), .second, .unset, .unset] [(.long q2)])) _
    refine st4 _ ?_
    show Steps p.tables e below (T4.setTop (mkF m 15 #[.val (.long q1), .second, .val (.long q2), .second, .val (.long (q1 * q2)), .second, .val (.long (own_abs q1)), .second, .unset, .unset] [(.long (own_abs q2))])) _
    refine XS.lstore X4.here hx rfl (hb hby d4_15) rfl (l' := #[.val (.long q1), .second, .val (.long q2), .second, .val (.long (q1 * q2)), .second, .val (.long (own_abs q1)), .second, .val (.long (own_abs q2)), .second]) rfl ?_
    show Steps p.tables e below (T4.setTop (mkF m 17 #[.val (.long q1), .second, .val (.long q2), .second, .val (.long (q1 * q2)), .second, .val (.long (own_abs q1)), .second, .val (.long (own_abs q2)), .second] [])) _
    refine XS.lload X4.here hx rfl (hb hby d4_17) rfl ?_
    show Steps p.tables e below (T4.setTop (mkF m 19 #[.val (.long q1), .second, .val (.long q2), .second, .val (.long (q1 * q2)), .second, .val (.long (own_abs q1)), .second, .val (.long (own_abs q2)), .second] [(.long (own_abs q1))])) _
    refine XS.lload X4.here hx rfl (hb hby d4_19) rfl ?_
    show Steps p.tables e below (T4.setTop (mkF m 21 #[.val (.long q1), .second, .val (.long q2), .second, .val (.long (q1 * q2)), .second, .val (.long (own_abs q1)), .second, .val (.long (own_abs q2)), .second] [(.long (own_abs q2)), (.long (own_abs q1))])) _
    refine XS.lor X4.here hx rfl (hb hby d4_21) rfl ?_
    show Steps p.tables e below (T4.setTop (mkF m 22 #[.val (.long q1), .second, .val (.long q2), .second, .val (.long (q1 * q2)), .second, .val (.long (own_abs q1)), .second, .val (.long (own_abs q2)), .second] [(.long ((own_abs q1) ||| (own_abs q2)))])) _
    refine XS.bipush X4.here hx rfl (hb hby d4_22) ?_
    show Steps p.tables e below (T4.setTop (mkF m 24 #[.val (.long q1), .second, .val (.long q2), .second, .val (.long (q1 * q2)), .second, .val (.long (own_abs q1)), .second, .val (.long (own_abs q2)), .second] [(.int (31 : Int32)), (.long ((own_abs q1) ||| (own_abs q2)))])) _
    refine XS.lushr X4.here hx rfl (hb hby d4_24) rfl ?_
    show Steps p.tables e below (T4.setTop (mkF m 25 #[.val (.long q1), .second, .val (.long q2), .second, .val (.long (q1 * q2)), .second, .val (.long (own_abs q1)), .second, .val (.long (own_abs q2)), .second] [(.long ((((own_abs q1) ||| (own_abs q2)).toUInt64 >>> ((31 : Int32) &&& 0x3f).toInt64.toUInt64).toInt64))])) _
    refine XS.lconst X4.here hx rfl (hb hby d4_25) ?_
    show Steps p.tables e below (T4.setTop (mkF m 26 #[.val (.long q1), .second, .val (.long q2), .second, .val (.long (q1 * q2)), .second, .val (.long (own_abs q1)), .second, .val (.long (own_abs q2)), .second] [(.long (0 : Int64)), (.long ((((own_abs q1) ||| (own_abs q2)).toUInt64 >>> ((31 : Int32) &&& 0x3f).toInt64.toUInt64).toInt64))])) _
    refine XS.lcmp X4.here hx rfl (hb hby d4_26) rfl ?_
    show Steps p.tables e below (T4.setTop (mkF m 27 #[.val (.long q1), .second, .val (.long q2), .second, .val (.long (q1 * q2)), .second, .val (.long (own_abs q1)), .second, .val (.long (own_abs q2)), .second] [(.int (lcmpW ((((own_abs q1) ||| (own_abs q2)).toUInt64 >>> ((31 : Int32) &&& 0x3f).toInt64.toUInt64).toInt64) (0 : Int64)))])) _
    refine XS.ifNo X4.here hx rfl (hb hby d4_27) rfl ((if0 _ _).trans (feq (hc27 : ¬ ((lcmpW ((((own_abs q1) ||| (own_abs q2)).toUInt64 >>> ((31 : Int32) &&& 0x3f).toInt64.toUInt64).toInt64) (0 : Int64)) = (0 : Int32)))).1) ?_
    show Steps p.tables e below (T4.setTop (mkF m 30 #[.val (.long q1), .second, .val (.long q2), .second, .val (.long (q1 * q2)), .second, .val (.long (own_abs q1)), .second, .val (.long (own_abs q2)), .second] [])) _
    refine XS.lloadN X4.here hx rfl (hb hby d4_30) rfl ?_
    show Steps p.tables e below (T4.setTop (mkF m 31 #[.val (.long q1), .second, .val (.long q2), .second, .val (.long (q1 * q2)), .second, .val (.long (own_abs q1)), .second, .val (.long (own_abs q2)), .second] [(.long q2)])) _
    refine XS.lconst X4.here hx rfl (hb hby d4_31) ?_
    show Steps p.tables e below (T4.setTop (mkF m 32 #[.val (.long q1), .second, .val (.long q2), .second, .val (.long (q1 * q2)), .second, .val (.long (own_abs q1)), .second, .val (.long (own_abs q2)), .second] [(.long (0 : Int64)), (.long q2)])) _
    refine XS.lcmp X4.here hx rfl (hb hby d4_32) rfl ?_
    show Steps p.tables e below (T4.setTop (mkF m 33 #[.val (.long q1), .second, .val (.long q2), .second, .val (.long (q1 * q2)), .second, .val (.long (own_abs q1)), .second, .val (.long (own_abs q2)), .second] [(.int (lcmpW q2 (0 : Int64)))])) _
    refine XS.ifYes X4.here hx rfl (pc0 := 33) (pc' := 45) rfl (hb hby d4_33) rfl ((if0 _ _).trans (teq hc33).1) (by decide) (by decide) ?_
    show Steps p.tables e below (T4.setTop (mkF m 45 #[.val (.long q1), .second, .val (.long q2), .second, .val (.long (q1 * q2)), .second, .val (.long (own_abs q1)), .second, .val (.long (own_abs q2)), .second] [])) _
    refine XS.lloadN X4.here hx rfl (hb hby d4_45) rfl ?_
    show Steps p.tables e below (T4.setTop (mkF m 46 #[.val (.long q1), .second, .val (.long q2), .second, .val (.long (q1 * q2)), .second, .val (.long (own_abs q1)), .second, .val (.long (own_abs q2)), .second] [(.long q1)])) _
    refine X4.ldc2Long hx hown (mvT hZ (hw _ (List.mem_of_getElem? (i := 19) rfl))) (g := (mkF m 46 #[.val (.long q1), .second, .val (.long q2), .second, .val (.long (q1 * q2)), .second, .val (.long (own_abs q1)), .second, .val (.long (own_abs q2)), .second] [(.long q1)])) rfl (hb hby d4_46) _ ?_
    show Steps p.tables e below (T4.setTop (mkF m 49 #[.val (.long q1), .second, .val (.long q2), .second, .val (.long (q1 * q2)), .second, .val (.long (own_abs q1)), .second, .val (.long (own_abs q2)), .second] [(.long (-9223372036854775808 : Int64)), (.long q1)])) _
    refine XS.lcmp X4.here hx rfl (hb hby d4_49) rfl ?_
    show Steps p.tables e below (T4.setTop (mkF m 50 #[.val (.long q1), .second, .val (.long q2), .second, .val (.long (q1 * q2)), .second, .val (.long (own_abs q1)), .second, .val (.long (own_abs q2)), .second] [(.int (lcmpW q1 (-9223372036854775808 : Int64)))])) _
    refine XS.ifYes X4.here hx rfl (pc0 := 50) (pc' := 71) rfl (hb hby d4_50) rfl ((if0 _ _).trans (feq hc50).2) (by decide) (by decide) ?_
    show Steps p.tables e below (T4.setTop (mkF m 71 #[.val (.long q1), .second, .val (.long q2), .second, .val (.long (q1 * q2)), .second, .val (.long (own_abs q1)), .second, .val (.long (own_abs q2)), .second] [])) _
    refine XS.lload X4.here hx rfl (hb hby d4_71) rfl ?_
    show Steps p.tables e below (T4.setTop (mkF m 73 #[.val (.long q1), .second, .val (.long q2), .second, .val (.long (q1 * q2)), .second, .val (.long (own_abs q1)), .second, .val (.long (own_abs q2)), .second] [(.long (q1 * q2))])) _
    exact retJ X4 hx Bd.returns (hb hby d4_73) hr
  · show Q4 Z q1 q2 h0 n0 _ T4.heap _
    exact ⟨rfl, N4, e4q.trans e3q⟩
theorem d4_36 : decode jdk_29_method_30_code 36 = .ok (.lload 4, 2) := by decide +kernel
theorem d4_38 : decode jdk_29_method_30_code 38 = .ok (.lload_n 2, 1) := by decide +kernel
theorem d4_39 : decode jdk_29_method_30_code 39 = .ok (.ldiv, 1) := by decide +kernel
theorem d4_40 : decode jdk_29_method_30_code 40 = .ok (.lload_n 0, 1) := by decide +kernel
theorem d4_41 : decode jdk_29_method_30_code 41 = .ok (.lcmp, 1) := by decide +kernel
theorem d4_42 : decode jdk_29_method_30_code 42 = .ok (.ifCond .ne 19, 3) := by decide +kernel
set_option maxRecDepth 65536 in
set_option maxHeartbeats 40000000 in
theorem rm4_ffft (l : Launch) (Z : State) (a0 : Array Value) (hw : ∀ d ∈ tables_1, d.before a0 Z = true) (ws : List Jvm.Cond) (q1 : Int64) (q2 : Int64) (h0 : Heap) (n0 : Nat) (Z0 : n0 ≤ h0.size) (hc27 : ¬ ((lcmpW ((((own_abs q1) ||| (own_abs q2)).toUInt64 >>> ((31 : Int32) &&& 0x3f).toInt64.toUInt64).toInt64) (0 : Int64)) = (0 : Int32))) (hc33 : ¬ ((lcmpW q2 (0 : Int64)) = (0 : Int32))) (hnz39 : ¬ (q2 = (0 : Int64))) (hc42 : (lcmpW ((q1 * q2) / q2) q1) = (0 : Int32)) (hc50 : ¬ ((lcmpW q1 (-9223372036854775808 : Int64)) = (0 : Int32))) :
    MetFree l (⟨"java/lang/Math", "multiplyExact", "(JJ)J"⟩ : MethodName) (head1 (Jvm.Cond.code (⟨"java/lang/Math", "multiplyExact", "(JJ)J"⟩ : MethodName) jdk_29_method_30_code 10 (some .long) :: ws) ({ frames := 1, cells := 0, slots := 0, locals := 13 } : Room)) (fun a U => a = #[(.long q1), (.long q2)] ∧ Z.Warmed39 U.vm ∧ U.heap = h0) (fun _ _ _ _ _ => True) (fun _ U o U' => ∃ v L, o = .returned v ∧ Q4 Z q1 q2 h0 n0 v U'.heap L ∧ FrameEnd U o U' L ({ frames := 1, cells := 0, slots := 0, locals := 13 } : Room).cells ({ frames := 1, cells := 0, slots := 0, locals := 13 } : Room).slots) := by
  refine MetFree.of_bodySF (Jvm.Free.JP.mathPlain rfl (by decide +kernel)) hisR ?_
  intro p e s m args below meth c s₁ Bd hml0 hP hK
  obtain ⟨rfl, hZ, hh⟩ := hP
  have hx := Bd.exec
  have hby := Bd.bytes
  have hml : c.maxLocals = 10 := hml0
  have hown : s.vm.findClass "java/lang/Math" = some m.cls := findClass_of_methodNamed Bd.named
  have hnm := (name_of_methodNamed Bd.named Bd.method).1
  have X0 : Stand p l e ({ frames := 1, cells := 0, slots := 0, locals := 13 } : Room) s m #[(.long q1), (.long q2)] below meth c s₁ [] 0 0 := Stand.of_body Bd
  have e0 : s₁.heap = h0 := by rw [← hh, Bd.state]; rfl
  have N0 := Fr.nil n0
  have pre0 : ∀ t, Steps p.tables e below (s₁.setTop (mkF m 0 #[.val (.long q1), .second, .val (.long q2), .second, .unset, .unset, .unset, .unset, .unset, .unset] [])) t → Steps p.tables e below (s₁.setTop (entryFrame m #[(.long q1), (.long q2)] 10)) t := fun t k => castTop (ef_4 m q1 q2) k
  obtain ⟨_, _, ⟨T3, L3, k3, n3⟩, -, X3, ⟨Lc3, hQ3, l3, y3, z3⟩, st3⟩ := Jvm.LawKit.callS X0 hx (y := (⟨"java/lang/Math", "abs", "(J)J"⟩ : MethodName)) hown (mvT hZ (hw _ (List.mem_of_getElem? (i := 16) rfl))) (mvT hZ (hw _ (List.mem_of_getElem? (i := 17) rfl))) (mvT hZ (hw _ (List.mem_of_getElem? (i := 11) rfl))) (mvT hZ (hw _ (List.mem_of_getElem? (i := 18) rfl))) (by decide) (backOf (W := 0) (rm5 l Z a0 hw [] q1 h0 n0 Z0) hZ (hw _ (List.mem_of_getElem? (i := 18) rfl)) (hw _ (List.mem_of_getElem? (i := 11) rfl)) (by decide) (by decide)) (g := (mkF m 6 #[.val (.long q1), .second, .val (.long q2), .second, .val (.long (q1 * q2)), .second, .unset, .unset, .unset, .unset] [(.long q1)])) rfl (by rw [hml]; rfl) (argsL := [(.long q1)]) (rest := []) (lenOf pd_4_4 rfl) rfl (by show 2 * 0 + _ ≤ _; exact Nat.le_of_eq rfl) (hb hby d4_6) (fun _ _ => ⟨rfl, e0, (by decide : 0 + 0 ≤ _), (by decide : 0 + 0 ≤ _)⟩)
  dsimp only [Pt.U, Pt.locs, Pt.cells, Pt.slots] at X3 l3 y3 z3 st3 hQ3
  subst l3 y3 z3
  obtain ⟨rfl, N3q, e3q⟩ := hQ3
  have N3 := Fr.app N0 N3q
  obtain ⟨_, _, ⟨T4, L4, k4, n4⟩, -, X4, ⟨Lc4, hQ4, l4, y4, z4⟩, st4⟩ := Jvm.LawKit.callS X3 hx (y := (⟨"java/lang/Math", "abs", "(J)J"⟩ : MethodName)) hown (mvT hZ (hw _ (List.mem_of_getElem? (i := 16) rfl))) (mvT hZ (hw _ (List.mem_of_getElem? (i := 17) rfl))) (mvT hZ (hw _ (List.mem_of_getElem? (i := 11) rfl))) (mvT hZ (hw _ (List.mem_of_getElem? (i := 18) rfl))) (by decide) (backOf (W := 0) (rm5 l Z a0 hw [] q2 T3.heap n0 (by rw [e3q]; exact Z0)) hZ (hw _ (List.mem_of_getElem? (i := 18) rfl)) (hw _ (List.mem_of_getElem? (i := 11) rfl)) (by decide) (by decide)) (g := (mkF m 12 #[.val (.long q1), .second, .val (.long q2), .second, .val (.long (q1 * q2)), .second, .val (.long (own_abs q1)), .second, .unset, .unset] [(.long q2)])) rfl (by rw [hml]; rfl) (argsL := [(.long q2)]) (rest := []) (lenOf pd_4_4 rfl) rfl (by show 2 * 0 + _ ≤ _; exact Nat.le_of_eq rfl) (hb hby d4_12) (fun _ _ => ⟨rfl, rfl, (by decide : 0 + 0 ≤ _), (by decide : 0 + 0 ≤ _)⟩)
  dsimp only [Pt.U, Pt.locs, Pt.cells, Pt.slots] at X4 l4 y4 z4 st4 hQ4
  subst l4 y4 z4
  obtain ⟨rfl, N4q, e4q⟩ := hQ4
  have N4 := Fr.app N3 N4q
  obtain ⟨fs, hr, hrun, hended, hW, hsame⟩ := X4.leave (v := some (.long (q1 * q2))) (fun h => by rw [Bd.returns] at h; cases h)
  refine ⟨_, _, pre0 _ ?_, hrun, hended, _, _, rfl, ?_, ⟨_, rfl⟩, hW, hsame.mono (by decide) (by decide)⟩
  · show Steps p.tables e below (s₁.setTop (mkF m 0 #[.val (.long q1), .second, .val (.long q2), .second, .unset, .unset, .unset, .unset, .unset, .unset] [])) _
    refine XS.lloadN X0.here hx rfl (hb hby d4_0) rfl ?_
    show Steps p.tables e below (s₁.setTop (mkF m 1 #[.val (.long q1), .second, .val (.long q2), .second, .unset, .unset, .unset, .unset, .unset, .unset] [(.long q1)])) _
    refine XS.lloadN X0.here hx rfl (hb hby d4_1) rfl ?_
    show Steps p.tables e below (s₁.setTop (mkF m 2 #[.val (.long q1), .second, .val (.long q2), .second, .unset, .unset, .unset, .unset, .unset, .unset] [(.long q2), (.long q1)])) _
    refine XS.lmul X0.here hx rfl (hb hby d4_2) rfl ?_
    show Steps p.tables e below (s₁.setTop (mkF m 3 #[.val (.long q1), .second, .val (.long q2), .second, .unset, .unset, .unset, .unset, .unset, .unset] [(.long (q1 * q2))])) _
    refine XS.lstore X0.here hx rfl (hb hby d4_3) rfl (l' := #[.val (.long q1), .second, .val (.long q2), .second, .val (.long (q1 * q2)), .second, .unset, .unset, .unset, .unset]) rfl ?_
    show Steps p.tables e below (s₁.setTop (mkF m 5 #[.val (.long q1), .second, .val (.long q2), .second, .val (.long (q1 * q2)), .second, .unset, .unset, .unset, .unset] [])) _
    refine XS.lloadN X0.here hx rfl (hb hby d4_5) rfl ?_
    show Steps p.tables e below (s₁.setTop (mkF m 6 #[.val (.long q1), .second, .val (.long q2), .second, .val (.long (q1 * q2)), .second, .unset, .unset, .unset, .unset] [(.long q1)])) _
    refine st3 _ ?_
    show Steps p.tables e below (T3.setTop (mkF m 9 #[.val (.long q1), .second, .val (.long q2), .second, .val (.long (q1 * q2)), .second, .unset, .unset, .unset, .unset] [(.long (own_abs q1))])) _
    refine XS.lstore X3.here hx rfl (hb hby d4_9) rfl (l' := #[.val (.long q1), .second, .val (.long q2), .second, .val (.long (q1 * q2)), .second, .val (.long (own_abs q1)), .second, .unset, .unset]) rfl ?_
    show Steps p.tables e below (T3.setTop (mkF m 11 #[.val (.long q1), .second, .val (.long q2), .second, .val (.long (q1 * q2)), .second, .val (.long (own_abs q1)), .second, .unset, .unset] [])) _
    refine XS.lloadN X3.here hx rfl (hb hby d4_11) rfl ?_
    show Steps p.tables e below (T3.setTop (mkF m 12 #[.val (.long q1), .second, .val (.long q2), .second, .val (.long (q1 * q2)), .second, .val (.long (own_abs q1)), .second, .unset, .unset] [(.long q2)])) _
    refine st4 _ ?_
    show Steps p.tables e below (T4.setTop (mkF m 15 #[.val (.long q1), .second, .val (.long q2), .second, .val (.long (q1 * q2)), .second, .val (.long (own_abs q1)), .second, .unset, .unset] [(.long (own_abs q2))])) _
    refine XS.lstore X4.here hx rfl (hb hby d4_15) rfl (l' := #[.val (.long q1), .second, .val (.long q2), .second, .val (.long (q1 * q2)), .second, .val (.long (own_abs q1)), .second, .val (.long (own_abs q2)), .second]) rfl ?_
    show Steps p.tables e below (T4.setTop (mkF m 17 #[.val (.long q1), .second, .val (.long q2), .second, .val (.long (q1 * q2)), .second, .val (.long (own_abs q1)), .second, .val (.long (own_abs q2)), .second] [])) _
    refine XS.lload X4.here hx rfl (hb hby d4_17) rfl ?_
    show Steps p.tables e below (T4.setTop (mkF m 19 #[.val (.long q1), .second, .val (.long q2), .second, .val (.long (q1 * q2)), .second, .val (.long (own_abs q1)), .second, .val (.long (own_abs q2)), .second] [(.long (own_abs q1))])) _
    refine XS.lload X4.here hx rfl (hb hby d4_19) rfl ?_
    show Steps p.tables e below (T4.setTop (mkF m 21 #[.val (.long q1), .second, .val (.long q2), .second, .val (.long (q1 * q2)), .second, .val (.long (own_abs q1)), .second, .val (.long (own_abs q2)), .second] [(.long (own_abs q2)), (.long (own_abs q1))])) _
    refine XS.lor X4.here hx rfl (hb hby d4_21) rfl ?_
    show Steps p.tables e below (T4.setTop (mkF m 22 #[.val (.long q1), .second, .val (.long q2), .second, .val (.long (q1 * q2)), .second, .val (.long (own_abs q1)), .second, .val (.long (own_abs q2)), .second] [(.long ((own_abs q1) ||| (own_abs q2)))])) _
    refine XS.bipush X4.here hx rfl (hb hby d4_22) ?_
    show Steps p.tables e below (T4.setTop (mkF m 24 #[.val (.long q1), .second, .val (.long q2), .second, .val (.long (q1 * q2)), .second, .val (.long (own_abs q1)), .second, .val (.long (own_abs q2)), .second] [(.int (31 : Int32)), (.long ((own_abs q1) ||| (own_abs q2)))])) _
    refine XS.lushr X4.here hx rfl (hb hby d4_24) rfl ?_
    show Steps p.tables e below (T4.setTop (mkF m 25 #[.val (.long q1), .second, .val (.long q2), .second, .val (.long (q1 * q2)), .second, .val (.long (own_abs q1)), .second, .val (.long (own_abs q2)), .second] [(.long ((((own_abs q1) ||| (own_abs q2)).toUInt64 >>> ((31 : Int32) &&& 0x3f).toInt64.toUInt64).toInt64))])) _
    refine XS.lconst X4.here hx rfl (hb hby d4_25) ?_
    show Steps p.tables e below (T4.setTop (mkF m 26 #[.val (.long q1), .second, .val (.long q2), .second, .val (.long (q1 * q2)), .second, .val (.long (own_abs q1)), .second, .val (.long (own_abs q2)), .second] [(.long (0 : Int64)), (.long ((((own_abs q1) ||| (own_abs q2)).toUInt64 >>> ((31 : Int32) &&& 0x3f).toInt64.toUInt64).toInt64))])) _
    refine XS.lcmp X4.here hx rfl (hb hby d4_26) rfl ?_
    show Steps p.tables e below (T4.setTop (mkF m 27 #[.val (.long q1), .second, .val (.long q2), .second, .val (.long (q1 * q2)), .second, .val (.long (own_abs q1)), .second, .val (.long (own_abs q2)), .second] [(.int (lcmpW ((((own_abs q1) ||| (own_abs q2)).toUInt64 >>> ((31 : Int32) &&& 0x3f).toInt64.toUInt64).toInt64) (0 : Int64)))])) _
    refine XS.ifNo X4.here hx rfl (hb hby d4_27) rfl ((if0 _ _).trans (feq (hc27 : ¬ ((lcmpW ((((own_abs q1) ||| (own_abs q2)).toUInt64 >>> ((31 : Int32) &&& 0x3f).toInt64.toUInt64).toInt64) (0 : Int64)) = (0 : Int32)))).1) ?_
    show Steps p.tables e below (T4.setTop (mkF m 30 #[.val (.long q1), .second, .val (.long q2), .second, .val (.long (q1 * q2)), .second, .val (.long (own_abs q1)), .second, .val (.long (own_abs q2)), .second] [])) _
    refine XS.lloadN X4.here hx rfl (hb hby d4_30) rfl ?_
    show Steps p.tables e below (T4.setTop (mkF m 31 #[.val (.long q1), .second, .val (.long q2), .second, .val (.long (q1 * q2)), .second, .val (.long (own_abs q1)), .second, .val (.long (own_abs q2)), .second] [(.long q2)])) _
    refine XS.lconst X4.here hx rfl (hb hby d4_31) ?_
    show Steps p.tables e below (T4.setTop (mkF m 32 #[.val (.long q1), .second, .val (.long q2), .second, .val (.long (q1 * q2)), .second, .val (.long (own_abs q1)), .second, .val (.long (own_abs q2)), .second] [(.long (0 : Int64)), (.long q2)])) _
    refine XS.lcmp X4.here hx rfl (hb hby d4_32) rfl ?_
    show Steps p.tables e below (T4.setTop (mkF m 33 #[.val (.long q1), .second, .val (.long q2), .second, .val (.long (q1 * q2)), .second, .val (.long (own_abs q1)), .second, .val (.long (own_abs q2)), .second] [(.int (lcmpW q2 (0 : Int64)))])) _
    refine XS.ifNo X4.here hx rfl (hb hby d4_33) rfl ((if0 _ _).trans (feq hc33).1) ?_
    show Steps p.tables e below (T4.setTop (mkF m 36 #[.val (.long q1), .second, .val (.long q2), .second, .val (.long (q1 * q2)), .second, .val (.long (own_abs q1)), .second, .val (.long (own_abs q2)), .second] [])) _
    refine XS.lload X4.here hx rfl (hb hby d4_36) rfl ?_
    show Steps p.tables e below (T4.setTop (mkF m 38 #[.val (.long q1), .second, .val (.long q2), .second, .val (.long (q1 * q2)), .second, .val (.long (own_abs q1)), .second, .val (.long (own_abs q2)), .second] [(.long (q1 * q2))])) _
    refine XS.lloadN X4.here hx rfl (hb hby d4_38) rfl ?_
    show Steps p.tables e below (T4.setTop (mkF m 39 #[.val (.long q1), .second, .val (.long q2), .second, .val (.long (q1 * q2)), .second, .val (.long (own_abs q1)), .second, .val (.long (own_abs q2)), .second] [(.long q2), (.long (q1 * q2))])) _
    refine XS.ldiv X4.here hx rfl (hb hby d4_39) rfl hnz39 ?_
    show Steps p.tables e below (T4.setTop (mkF m 40 #[.val (.long q1), .second, .val (.long q2), .second, .val (.long (q1 * q2)), .second, .val (.long (own_abs q1)), .second, .val (.long (own_abs q2)), .second] [(.long ((q1 * q2) / q2))])) _
    refine XS.lloadN X4.here hx rfl (hb hby d4_40) rfl ?_
    show Steps p.tables e below (T4.setTop (mkF m 41 #[.val (.long q1), .second, .val (.long q2), .second, .val (.long (q1 * q2)), .second, .val (.long (own_abs q1)), .second, .val (.long (own_abs q2)), .second] [(.long q1), (.long ((q1 * q2) / q2))])) _
    refine XS.lcmp X4.here hx rfl (hb hby d4_41) rfl ?_
    show Steps p.tables e below (T4.setTop (mkF m 42 #[.val (.long q1), .second, .val (.long q2), .second, .val (.long (q1 * q2)), .second, .val (.long (own_abs q1)), .second, .val (.long (own_abs q2)), .second] [(.int (lcmpW ((q1 * q2) / q2) q1))])) _
    refine XS.ifNo X4.here hx rfl (hb hby d4_42) rfl ((if0 _ _).trans (teq hc42).2) ?_
    show Steps p.tables e below (T4.setTop (mkF m 45 #[.val (.long q1), .second, .val (.long q2), .second, .val (.long (q1 * q2)), .second, .val (.long (own_abs q1)), .second, .val (.long (own_abs q2)), .second] [])) _
    refine XS.lloadN X4.here hx rfl (hb hby d4_45) rfl ?_
    show Steps p.tables e below (T4.setTop (mkF m 46 #[.val (.long q1), .second, .val (.long q2), .second, .val (.long (q1 * q2)), .second, .val (.long (own_abs q1)), .second, .val (.long (own_abs q2)), .second] [(.long q1)])) _
    refine X4.ldc2Long hx hown (mvT hZ (hw _ (List.mem_of_getElem? (i := 19) rfl))) (g := (mkF m 46 #[.val (.long q1), .second, .val (.long q2), .second, .val (.long (q1 * q2)), .second, .val (.long (own_abs q1)), .second, .val (.long (own_abs q2)), .second] [(.long q1)])) rfl (hb hby d4_46) _ ?_
    show Steps p.tables e below (T4.setTop (mkF m 49 #[.val (.long q1), .second, .val (.long q2), .second, .val (.long (q1 * q2)), .second, .val (.long (own_abs q1)), .second, .val (.long (own_abs q2)), .second] [(.long (-9223372036854775808 : Int64)), (.long q1)])) _
    refine XS.lcmp X4.here hx rfl (hb hby d4_49) rfl ?_
    show Steps p.tables e below (T4.setTop (mkF m 50 #[.val (.long q1), .second, .val (.long q2), .second, .val (.long (q1 * q2)), .second, .val (.long (own_abs q1)), .second, .val (.long (own_abs q2)), .second] [(.int (lcmpW q1 (-9223372036854775808 : Int64)))])) _
    refine XS.ifYes X4.here hx rfl (pc0 := 50) (pc' := 71) rfl (hb hby d4_50) rfl ((if0 _ _).trans (feq hc50).2) (by decide) (by decide) ?_
    show Steps p.tables e below (T4.setTop (mkF m 71 #[.val (.long q1), .second, .val (.long q2), .second, .val (.long (q1 * q2)), .second, .val (.long (own_abs q1)), .second, .val (.long (own_abs q2)), .second] [])) _
    refine XS.lload X4.here hx rfl (hb hby d4_71) rfl ?_
    show Steps p.tables e below (T4.setTop (mkF m 73 #[.val (.long q1), .second, .val (.long q2), .second, .val (.long (q1 * q2)), .second, .val (.long (own_abs q1)), .second, .val (.long (own_abs q2)), .second] [(.long (q1 * q2))])) _
    exact retJ X4 hx Bd.returns (hb hby d4_73) hr
  · show Q4 Z q1 q2 h0 n0 _ T4.heap _
    exact ⟨rfl, N4, e4q.trans e3q⟩
set_option maxRecDepth 65536 in
set_option maxHeartbeats 40000000 in
theorem rm4 (l : Launch) (Z : State) (a0 : Array Value) (hw : ∀ d ∈ tables_1, d.before a0 Z = true) (ws : List Jvm.Cond) (q1 : Int64) (q2 : Int64) (h0 : Heap) (n0 : Nat) (Z0 : n0 ≤ h0.size) (hex : own_exact q1 q2) :
    MetFree l (⟨"java/lang/Math", "multiplyExact", "(JJ)J"⟩ : MethodName) (head1 (Jvm.Cond.code (⟨"java/lang/Math", "multiplyExact", "(JJ)J"⟩ : MethodName) jdk_29_method_30_code 10 (some .long) :: ws) ({ frames := 1, cells := 0, slots := 0, locals := 13 } : Room)) (fun a U => a = #[(.long q1), (.long q2)] ∧ Z.Warmed39 U.vm ∧ U.heap = h0) (fun _ _ _ _ _ => True) (fun _ U o U' => ∃ v L, o = .returned v ∧ Q4 Z q1 q2 h0 n0 v U'.heap L ∧ FrameEnd U o U' L ({ frames := 1, cells := 0, slots := 0, locals := 13 } : Room).cells ({ frames := 1, cells := 0, slots := 0, locals := 13 } : Room).slots) := by
  by_cases c1 : (lcmpW ((((own_abs q1) ||| (own_abs q2)).toUInt64 >>> ((31 : Int32) &&& 0x3f).toInt64.toUInt64).toInt64) (0 : Int64)) = (0 : Int32)
  · exact rm4_t l Z a0 hw ws q1 q2 h0 n0 Z0 c1
  · have c4 : ¬ ((lcmpW q1 (-9223372036854775808 : Int64)) = (0 : Int32)) := fun h => hex.2 ((lw_eq _ _).mp h)
    by_cases c2 : (lcmpW q2 (0 : Int64)) = (0 : Int32)
    · exact rm4_ftt l Z a0 hw ws q1 q2 h0 n0 Z0 c1 c2 c4
    · have hy : ¬ (q2 = (0 : Int64)) := fun h => c2 ((lw_eq _ _).mpr h)
      exact rm4_ffft l Z a0 hw ws q1 q2 h0 n0 Z0 c1 c2 hy ((lw_eq _ _).mpr (own_div hex hy)) c4
theorem d3_0 : decode jdk_29_method_29_code 0 = .ok (.lload_n 0, 1) := by decide +kernel
theorem d3_1 : decode jdk_29_method_29_code 1 = .ok (.iload_n 2, 1) := by decide +kernel
theorem d3_2 : decode jdk_29_method_29_code 2 = .ok (.i2l, 1) := by decide +kernel
theorem d3_3 : decode jdk_29_method_29_code 3 = .ok (.invokestatic 118, 3) := by decide +kernel
theorem d3_6 : decode jdk_29_method_29_code 6 = .ok (.lreturn, 1) := by decide +kernel
theorem pd_3_3 : parseMethodDescriptor "(JJ)J" = some ⟨[.long, .long], some .long⟩ := by decide +kernel
theorem ef_3 (m : MethodId) (x0 : Int64) (x1 : Int32) : entryFrame m #[(.long x0), (.int x1)] 3 = mkF m 0 #[.val (.long x0), .second, .val (.int x1)] [] := by first | (simp [entryFrame, mkF, argsToLocals, Value.category]; done) | rfl
def Q3 (Z : State) (q1 : Int64) (p2 : Int32) (h0 : Heap) (n0 : Nat) (v : Option Value) (h : Heap) (L : List Loc) : Prop := v = some (.long (q1 * p2.toInt64)) ∧ Fr n0 L ∧ h = h0
set_option maxRecDepth 65536 in
set_option maxHeartbeats 40000000 in
theorem rm3 (l : Launch) (Z : State) (a0 : Array Value) (hw : ∀ d ∈ tables_1, d.before a0 Z = true) (ws : List Jvm.Cond) (q1 : Int64) (p2 : Int32) (h0 : Heap) (n0 : Nat) (Z0 : n0 ≤ h0.size) (hex : own_exact q1 p2.toInt64) :
    MetFree l (⟨"java/lang/Math", "multiplyExact", "(JI)J"⟩ : MethodName) (head1 (Jvm.Cond.code (⟨"java/lang/Math", "multiplyExact", "(JI)J"⟩ : MethodName) jdk_29_method_29_code 3 (some .long) :: ws) ({ frames := 2, cells := 0, slots := 0, locals := 34 } : Room)) (fun a U => a = #[(.long q1), (.int p2)] ∧ Z.Warmed39 U.vm ∧ U.heap = h0) (fun _ _ _ _ _ => True) (fun _ U o U' => ∃ v L, o = .returned v ∧ Q3 Z q1 p2 h0 n0 v U'.heap L ∧ FrameEnd U o U' L ({ frames := 2, cells := 0, slots := 0, locals := 34 } : Room).cells ({ frames := 2, cells := 0, slots := 0, locals := 34 } : Room).slots) := by
  refine MetFree.of_bodySF (Jvm.Free.JP.mathPlain rfl (by decide +kernel)) hisR ?_
  intro p e s m args below meth c s₁ Bd hml0 hP hK
  obtain ⟨rfl, hZ, hh⟩ := hP
  have hx := Bd.exec
  have hby := Bd.bytes
  have hml : c.maxLocals = 3 := hml0
  have hown : s.vm.findClass "java/lang/Math" = some m.cls := findClass_of_methodNamed Bd.named
  have hnm := (name_of_methodNamed Bd.named Bd.method).1
  have X0 : Stand p l e ({ frames := 2, cells := 0, slots := 0, locals := 34 } : Room) s m #[(.long q1), (.int p2)] below meth c s₁ [] 0 0 := Stand.of_body Bd
  have e0 : s₁.heap = h0 := by rw [← hh, Bd.state]; rfl
  have N0 := Fr.nil n0
  have pre0 : ∀ t, Steps p.tables e below (s₁.setTop (mkF m 0 #[.val (.long q1), .second, .val (.int p2)] [])) t → Steps p.tables e below (s₁.setTop (entryFrame m #[(.long q1), (.int p2)] 3)) t := fun t k => castTop (ef_3 m q1 p2) k
  obtain ⟨_, _, ⟨T3, L3, k3, n3⟩, -, X3, ⟨Lc3, hQ3, l3, y3, z3⟩, st3⟩ := Jvm.LawKit.callS X0 hx (y := (⟨"java/lang/Math", "multiplyExact", "(JJ)J"⟩ : MethodName)) hown (mvT hZ (hw _ (List.mem_of_getElem? (i := 13) rfl))) (mvT hZ (hw _ (List.mem_of_getElem? (i := 14) rfl))) (mvT hZ (hw _ (List.mem_of_getElem? (i := 11) rfl))) (mvT hZ (hw _ (List.mem_of_getElem? (i := 15) rfl))) (by decide) (backOf (W := 0) (rm4 l Z a0 hw [] q1 (p2.toInt64) h0 n0 Z0 hex) hZ (hw _ (List.mem_of_getElem? (i := 15) rfl)) (hw _ (List.mem_of_getElem? (i := 11) rfl)) (by decide) (by decide)) (g := (mkF m 3 #[.val (.long q1), .second, .val (.int p2)] [(.long (p2.toInt64)), (.long q1)])) rfl (by rw [hml]; rfl) (argsL := [(.long q1), (.long (p2.toInt64))]) (rest := []) (lenOf pd_3_3 rfl) rfl (by show 2 * 0 + _ ≤ _; exact Nat.le_of_eq rfl) (hb hby d3_3) (fun _ _ => ⟨rfl, e0, (by decide : 0 + 0 ≤ _), (by decide : 0 + 0 ≤ _)⟩)
  dsimp only [Pt.U, Pt.locs, Pt.cells, Pt.slots] at X3 l3 y3 z3 st3 hQ3
  subst l3 y3 z3
  obtain ⟨rfl, N3q, e3q⟩ := hQ3
  have N3 := Fr.app N0 N3q
  obtain ⟨fs, hr, hrun, hended, hW, hsame⟩ := X3.leave (v := some (.long (q1 * p2.toInt64))) (fun h => by rw [Bd.returns] at h; cases h)
  refine ⟨_, _, pre0 _ ?_, hrun, hended, _, _, rfl, ?_, ⟨_, rfl⟩, hW, hsame.mono (by decide) (by decide)⟩
  · show Steps p.tables e below (s₁.setTop (mkF m 0 #[.val (.long q1), .second, .val (.int p2)] [])) _
    refine XS.lloadN X0.here hx rfl (hb hby d3_0) rfl ?_
    show Steps p.tables e below (s₁.setTop (mkF m 1 #[.val (.long q1), .second, .val (.int p2)] [(.long q1)])) _
    refine XS.iloadN X0.here hx rfl (hb hby d3_1) rfl ?_
    show Steps p.tables e below (s₁.setTop (mkF m 2 #[.val (.long q1), .second, .val (.int p2)] [(.int p2), (.long q1)])) _
    refine XS.i2l X0.here hx rfl (hb hby d3_2) rfl ?_
    show Steps p.tables e below (s₁.setTop (mkF m 3 #[.val (.long q1), .second, .val (.int p2)] [(.long (p2.toInt64)), (.long q1)])) _
    refine st3 _ ?_
    show Steps p.tables e below (T3.setTop (mkF m 6 #[.val (.long q1), .second, .val (.int p2)] [(.long (q1 * p2.toInt64))])) _
    exact retJ X3 hx Bd.returns (hb hby d3_6) hr
  · show Q3 Z q1 p2 h0 n0 _ T3.heap _
    exact ⟨rfl, N3, e3q⟩
theorem d2_0 : decode method_2_code 0 = .ok (.iload_n 2, 1) := by decide +kernel
theorem d2_1 : decode method_2_code 1 = .ok (.iload_n 1, 1) := by decide +kernel
theorem d2_2 : decode method_2_code 2 = .ok (.if_icmp .gt 11, 3) := by decide +kernel
theorem d2_13 : decode method_2_code 13 = .ok (.iconst 1, 1) := by decide +kernel
theorem d2_14 : decode method_2_code 14 = .ok (.goto 4, 3) := by decide +kernel
theorem d2_18 : decode method_2_code 18 = .ok (.ireturn, 1) := by decide +kernel
theorem pn_2 : plainName "facedown/CombinationsUpToPinLaw" = true := by first | (simp [plainName, overriddenIn]; done) | decide +kernel
theorem ef_2 (m : MethodId) (x0 : Addr) (x1 : Int32) (x2 : Int32) (x3 : Int64) : entryFrame m #[(.ref x0), (.int x1), (.int x2), (.long x3)] 5 = mkF m 0 #[.val (.ref x0), .val (.int x1), .val (.int x2), .val (.long x3), .second] [] := by first | (simp [entryFrame, mkF, argsToLocals, Value.category]; done) | rfl
def Q2 (Z : State) (a1 : Addr) (p2 : Int32) (p3 : Int32) (q4 : Int64) (h0 : Heap) (n0 : Nat) (v : Option Value) (h : Heap) (L : List Loc) : Prop := v = some (.int (1 : Int32)) ∧ Fr n0 L ∧ h = h0
set_option maxRecDepth 65536 in
set_option maxHeartbeats 40000000 in
theorem rm2_t (l : Launch) (Z : State) (a0 : Array Value) (hw : ∀ d ∈ tables_1, d.before a0 Z = true) (ws : List Jvm.Cond) (a1 : Addr) (p2 : Int32) (p3 : Int32) (q4 : Int64) (h0 : Heap) (n0 : Nat) (Z0 : n0 ≤ h0.size) (hc2 : p2 < p3) :
    MetFree l (⟨"facedown/CombinationsUpToPinLaw", "ok", "([JIIJ)Z"⟩ : MethodName) (head1 (Jvm.Cond.code (⟨"facedown/CombinationsUpToPinLaw", "ok", "([JIIJ)Z"⟩ : MethodName) method_2_code 5 (some .boolean) :: ws) ({ frames := 0, cells := 0, slots := 0, locals := 0 } : Room)) (fun a U => a = #[(.ref a1), (.int p2), (.int p3), (.long q4)] ∧ Z.Warmed39 U.vm ∧ U.heap = h0) (fun _ _ _ _ _ => True) (fun _ U o U' => ∃ v L, o = .returned v ∧ Q2 Z a1 p2 p3 q4 h0 n0 v U'.heap L ∧ FrameEnd U o U' L ({ frames := 0, cells := 0, slots := 0, locals := 0 } : Room).cells ({ frames := 0, cells := 0, slots := 0, locals := 0 } : Room).slots) := by
  refine MetFree.of_bodySF (plainFor_of_name pn_2) hisR ?_
  intro p e s m args below meth c s₁ Bd hml0 hP hK
  obtain ⟨rfl, hZ, hh⟩ := hP
  have hx := Bd.exec
  have hby := Bd.bytes
  have hml : c.maxLocals = 5 := hml0
  have hown : s.vm.findClass "facedown/CombinationsUpToPinLaw" = some m.cls := findClass_of_methodNamed Bd.named
  have hnm := (name_of_methodNamed Bd.named Bd.method).1
  have X0 : Stand p l e ({ frames := 0, cells := 0, slots := 0, locals := 0 } : Room) s m #[(.ref a1), (.int p2), (.int p3), (.long q4)] below meth c s₁ [] 0 0 := Stand.of_body Bd
  have e0 : s₁.heap = h0 := by rw [← hh, Bd.state]; rfl
  have N0 := Fr.nil n0
  have pre0 : ∀ t, Steps p.tables e below (s₁.setTop (mkF m 0 #[.val (.ref a1), .val (.int p2), .val (.int p3), .val (.long q4), .second] [])) t → Steps p.tables e below (s₁.setTop (entryFrame m #[(.ref a1), (.int p2), (.int p3), (.long q4)] 5)) t := fun t k => castTop (ef_2 m a1 p2 p3 q4) k
  obtain ⟨fs, hr, hrun, hended, hW, hsame⟩ := X0.leave (v := some (.int (1 : Int32))) (fun h => by rw [Bd.returns] at h; cases h)
  refine ⟨_, _, pre0 _ ?_, hrun, hended, _, _, rfl, ?_, ⟨_, rfl⟩, hW, hsame.mono (by decide) (by decide)⟩
  · show Steps p.tables e below (s₁.setTop (mkF m 0 #[.val (.ref a1), .val (.int p2), .val (.int p3), .val (.long q4), .second] [])) _
    refine XS.iloadN X0.here hx rfl (hb hby d2_0) rfl ?_
    show Steps p.tables e below (s₁.setTop (mkF m 1 #[.val (.ref a1), .val (.int p2), .val (.int p3), .val (.long q4), .second] [(.int p3)])) _
    refine XS.iloadN X0.here hx rfl (hb hby d2_1) rfl ?_
    show Steps p.tables e below (s₁.setTop (mkF m 2 #[.val (.ref a1), .val (.int p2), .val (.int p3), .val (.long q4), .second] [(.int p2), (.int p3)])) _
    refine XS.icmpYes X0.here hx rfl (pc0 := 2) (pc' := 13) rfl (hb hby d2_2) rfl (tlt hc2).2.2.1 (by decide) (by decide) ?_
    show Steps p.tables e below (s₁.setTop (mkF m 13 #[.val (.ref a1), .val (.int p2), .val (.int p3), .val (.long q4), .second] [])) _
    refine XS.iconst X0.here hx rfl (hb hby d2_13) ?_
    show Steps p.tables e below (s₁.setTop (mkF m 14 #[.val (.ref a1), .val (.int p2), .val (.int p3), .val (.long q4), .second] [(.int (1 : Int32))])) _
    refine XS.goto X0.here hx rfl (pc0 := 14) (pc' := 18) rfl (hb hby d2_14) (by decide) (by decide) ?_
    show Steps p.tables e below (s₁.setTop (mkF m 18 #[.val (.ref a1), .val (.int p2), .val (.int p3), .val (.long q4), .second] [(.int (1 : Int32))])) _
    exact retN X0 hx (t := .boolean) Bd.returns (by simp) (hb hby d2_18) hr
  · show Q2 Z a1 p2 p3 q4 h0 n0 _ s₁.heap _
    rw [e0]
    exact ⟨rfl, N0, rfl⟩
theorem d2_5 : decode method_2_code 5 = .ok (.aload_n 0, 1) := by decide +kernel
theorem d2_6 : decode method_2_code 6 = .ok (.iload_n 2, 1) := by decide +kernel
theorem d2_7 : decode method_2_code 7 = .ok (.laload, 1) := by decide +kernel
theorem d2_8 : decode method_2_code 8 = .ok (.lload_n 3, 1) := by decide +kernel
theorem d2_9 : decode method_2_code 9 = .ok (.lcmp, 1) := by decide +kernel
theorem d2_10 : decode method_2_code 10 = .ok (.ifCond .ne 7, 3) := by decide +kernel
set_option maxRecDepth 65536 in
set_option maxHeartbeats 40000000 in
theorem rm2_f (l : Launch) (Z : State) (a0 : Array Value) (hw : ∀ d ∈ tables_1, d.before a0 Z = true) (ws : List Jvm.Cond) (a1 : Addr) (p2 : Int32) (p3 : Int32) (q4 : Int64) (w5 : Int64) (cl_a1 : Cell) (h0 : Heap) (n0 : Nat) (Z0 : n0 ≤ h0.size) (Ar_a1 : Arr Z h0 a1 cl_a1 .long) (hin7 : ¬ (p3 < 0 ∨ cl_a1.slots.size ≤ (p3).toNatClampNeg)) (hat7 : cl_a1.slots[(p3).toNatClampNeg]? = some (.long w5)) (hc2 : ¬ (p2 < p3)) (hc10 : (lcmpW w5 q4) = (0 : Int32)) :
    MetFree l (⟨"facedown/CombinationsUpToPinLaw", "ok", "([JIIJ)Z"⟩ : MethodName) (head1 (Jvm.Cond.code (⟨"facedown/CombinationsUpToPinLaw", "ok", "([JIIJ)Z"⟩ : MethodName) method_2_code 5 (some .boolean) :: ws) ({ frames := 0, cells := 0, slots := 0, locals := 0 } : Room)) (fun a U => a = #[(.ref a1), (.int p2), (.int p3), (.long q4)] ∧ Z.Warmed39 U.vm ∧ U.heap = h0) (fun _ _ _ _ _ => True) (fun _ U o U' => ∃ v L, o = .returned v ∧ Q2 Z a1 p2 p3 q4 h0 n0 v U'.heap L ∧ FrameEnd U o U' L ({ frames := 0, cells := 0, slots := 0, locals := 0 } : Room).cells ({ frames := 0, cells := 0, slots := 0, locals := 0 } : Room).slots) := by
  refine MetFree.of_bodySF (plainFor_of_name pn_2) hisR ?_
  intro p e s m args below meth c s₁ Bd hml0 hP hK
  obtain ⟨rfl, hZ, hh⟩ := hP
  have hx := Bd.exec
  have hby := Bd.bytes
  have hml : c.maxLocals = 5 := hml0
  have hown : s.vm.findClass "facedown/CombinationsUpToPinLaw" = some m.cls := findClass_of_methodNamed Bd.named
  have hnm := (name_of_methodNamed Bd.named Bd.method).1
  have X0 : Stand p l e ({ frames := 0, cells := 0, slots := 0, locals := 0 } : Room) s m #[(.ref a1), (.int p2), (.int p3), (.long q4)] below meth c s₁ [] 0 0 := Stand.of_body Bd
  have e0 : s₁.heap = h0 := by rw [← hh, Bd.state]; rfl
  have N0 := Fr.nil n0
  have pre0 : ∀ t, Steps p.tables e below (s₁.setTop (mkF m 0 #[.val (.ref a1), .val (.int p2), .val (.int p3), .val (.long q4), .second] [])) t → Steps p.tables e below (s₁.setTop (entryFrame m #[(.ref a1), (.int p2), (.int p3), (.long q4)] 5)) t := fun t k => castTop (ef_2 m a1 p2 p3 q4) k
  obtain ⟨fs, hr, hrun, hended, hW, hsame⟩ := X0.leave (v := some (.int (1 : Int32))) (fun h => by rw [Bd.returns] at h; cases h)
  refine ⟨_, _, pre0 _ ?_, hrun, hended, _, _, rfl, ?_, ⟨_, rfl⟩, hW, hsame.mono (by decide) (by decide)⟩
  · show Steps p.tables e below (s₁.setTop (mkF m 0 #[.val (.ref a1), .val (.int p2), .val (.int p3), .val (.long q4), .second] [])) _
    refine XS.iloadN X0.here hx rfl (hb hby d2_0) rfl ?_
    show Steps p.tables e below (s₁.setTop (mkF m 1 #[.val (.ref a1), .val (.int p2), .val (.int p3), .val (.long q4), .second] [(.int p3)])) _
    refine XS.iloadN X0.here hx rfl (hb hby d2_1) rfl ?_
    show Steps p.tables e below (s₁.setTop (mkF m 2 #[.val (.ref a1), .val (.int p2), .val (.int p3), .val (.long q4), .second] [(.int p2), (.int p3)])) _
    refine XS.icmpNo X0.here hx rfl (hb hby d2_2) rfl (flt hc2).2.2.1 ?_
    show Steps p.tables e below (s₁.setTop (mkF m 5 #[.val (.ref a1), .val (.int p2), .val (.int p3), .val (.long q4), .second] [])) _
    refine XS.aloadN X0.here hx rfl (hb hby d2_5) rfl rfl ?_
    show Steps p.tables e below (s₁.setTop (mkF m 6 #[.val (.ref a1), .val (.int p2), .val (.int p3), .val (.long q4), .second] [(.ref a1)])) _
    refine XS.iloadN X0.here hx rfl (hb hby d2_6) rfl ?_
    show Steps p.tables e below (s₁.setTop (mkF m 7 #[.val (.ref a1), .val (.int p2), .val (.int p3), .val (.long q4), .second] [(.int p3), (.ref a1)])) _
    refine X0.laload hx (j := p3) (v := (.long w5)) (by rw [e0]; exact Ar_a1.1) (State.isArrayOf_alike hZ.alike Ar_a1.2.1) Ar_a1.2.2 hin7 hat7 (g := (mkF m 7 #[.val (.ref a1), .val (.int p2), .val (.int p3), .val (.long q4), .second] [(.int p3), (.ref a1)])) rfl rfl (hb hby d2_7) _ ?_
    show Steps p.tables e below (s₁.setTop (mkF m 8 #[.val (.ref a1), .val (.int p2), .val (.int p3), .val (.long q4), .second] [(.long w5)])) _
    refine XS.lloadN X0.here hx rfl (hb hby d2_8) rfl ?_
    show Steps p.tables e below (s₁.setTop (mkF m 9 #[.val (.ref a1), .val (.int p2), .val (.int p3), .val (.long q4), .second] [(.long q4), (.long w5)])) _
    refine XS.lcmp X0.here hx rfl (hb hby d2_9) rfl ?_
    show Steps p.tables e below (s₁.setTop (mkF m 10 #[.val (.ref a1), .val (.int p2), .val (.int p3), .val (.long q4), .second] [(.int (lcmpW w5 q4))])) _
    refine XS.ifNo X0.here hx rfl (hb hby d2_10) rfl ((if0 _ _).trans (teq hc10).2) ?_
    show Steps p.tables e below (s₁.setTop (mkF m 13 #[.val (.ref a1), .val (.int p2), .val (.int p3), .val (.long q4), .second] [])) _
    refine XS.iconst X0.here hx rfl (hb hby d2_13) ?_
    show Steps p.tables e below (s₁.setTop (mkF m 14 #[.val (.ref a1), .val (.int p2), .val (.int p3), .val (.long q4), .second] [(.int (1 : Int32))])) _
    refine XS.goto X0.here hx rfl (pc0 := 14) (pc' := 18) rfl (hb hby d2_14) (by decide) (by decide) ?_
    show Steps p.tables e below (s₁.setTop (mkF m 18 #[.val (.ref a1), .val (.int p2), .val (.int p3), .val (.long q4), .second] [(.int (1 : Int32))])) _
    exact retN X0 hx (t := .boolean) Bd.returns (by simp) (hb hby d2_18) hr
  · show Q2 Z a1 p2 p3 q4 h0 n0 _ s₁.heap _
    rw [e0]
    exact ⟨rfl, N0, rfl⟩
set_option maxRecDepth 65536 in
set_option maxHeartbeats 40000000 in
theorem rm2 (l : Launch) (Z : State) (a0 : Array Value) (hw : ∀ d ∈ tables_1, d.before a0 Z = true) (ws : List Jvm.Cond) (a1 : Addr) (p2 : Int32) (p3 : Int32) (q4 : Int64) (h0 : Heap) (n0 : Nat) (Z0 : n0 ≤ h0.size) (hok : p2 < p3 ∨ own_vis Z h0 a1 p3 q4) :
    MetFree l (⟨"facedown/CombinationsUpToPinLaw", "ok", "([JIIJ)Z"⟩ : MethodName) (head1 (Jvm.Cond.code (⟨"facedown/CombinationsUpToPinLaw", "ok", "([JIIJ)Z"⟩ : MethodName) method_2_code 5 (some .boolean) :: ws) ({ frames := 0, cells := 0, slots := 0, locals := 0 } : Room)) (fun a U => a = #[(.ref a1), (.int p2), (.int p3), (.long q4)] ∧ Z.Warmed39 U.vm ∧ U.heap = h0) (fun _ _ _ _ _ => True) (fun _ U o U' => ∃ v L, o = .returned v ∧ Q2 Z a1 p2 p3 q4 h0 n0 v U'.heap L ∧ FrameEnd U o U' L ({ frames := 0, cells := 0, slots := 0, locals := 0 } : Room).cells ({ frames := 0, cells := 0, slots := 0, locals := 0 } : Room).slots) := by
  by_cases c1 : p2 < p3
  · exact rm2_t l Z a0 hw ws a1 p2 p3 q4 h0 n0 Z0 c1
  · rcases hok with q | ⟨cl, Ar, hin, hat⟩
    · exact absurd q c1
    · exact rm2_f l Z a0 hw ws a1 p2 p3 q4 q4 cl h0 n0 Z0 Ar hin hat c1 ((lw_eq _ _).mpr rfl)
theorem d1_12 : decode prog_5_method_4_code 12 = .ok (.iload_n 3, 1) := by decide +kernel
theorem d1_13 : decode prog_5_method_4_code 13 = .ok (.iload_n 1, 1) := by decide +kernel
theorem d1_14 : decode prog_5_method_4_code 14 = .ok (.if_icmp .gt 21, 3) := by decide +kernel
theorem d1_17 : decode prog_5_method_4_code 17 = .ok (.aload_n 2, 1) := by decide +kernel
theorem d1_18 : decode prog_5_method_4_code 18 = .ok (.iload_n 3, 1) := by decide +kernel
theorem d1_19 : decode prog_5_method_4_code 19 = .ok (.aload_n 2, 1) := by decide +kernel
theorem d1_20 : decode prog_5_method_4_code 20 = .ok (.iload_n 3, 1) := by decide +kernel
theorem d1_21 : decode prog_5_method_4_code 21 = .ok (.iconst 1, 1) := by decide +kernel
theorem d1_22 : decode prog_5_method_4_code 22 = .ok (.isub, 1) := by decide +kernel
theorem d1_23 : decode prog_5_method_4_code 23 = .ok (.laload, 1) := by decide +kernel
theorem d1_24 : decode prog_5_method_4_code 24 = .ok (.iload_n 0, 1) := by decide +kernel
theorem d1_25 : decode prog_5_method_4_code 25 = .ok (.invokestatic 7, 3) := by decide +kernel
theorem d1_28 : decode prog_5_method_4_code 28 = .ok (.lastore, 1) := by decide +kernel
theorem d1_29 : decode prog_5_method_4_code 29 = .ok (.iinc 3 1, 3) := by decide +kernel
theorem d1_32 : decode prog_5_method_4_code 32 = .ok (.goto (-20), 3) := by decide +kernel
theorem pd_1_2 : parseMethodDescriptor "(JI)J" = some ⟨[.long, .int], some .long⟩ := by decide +kernel
set_option maxRecDepth 65536 in
set_option maxHeartbeats 40000000 in
theorem tn1_turn {p : Program} {l : Launch} {e : Env} {s : State} {m : MethodId} {args : Array Value} {below : List Frame} {meth : Method} {c : Code} {T0 : State} {locs : List Loc} {Z : State} {a0 : Array Value} {h0 : Heap} (i0 : Int32) (i1 : Int32) (o2 : Addr) (i3 : Int32) (w3 : Int64) (cl_o2 : Cell)
    (X0 : Stand p l e ({ frames := 3, cells := 1, slots := 16, locals := 50 } : Room) s m args below meth c T0 locs 1 16) (hx : p.tables.exec = Jvm.exec) (hZ : Z.Warmed39 s.vm) (hw : ∀ d ∈ tables_1, d.before a0 Z = true) (hby : c.code = prog_5_method_4_code) (hml : c.maxLocals = 4) (hown : s.vm.findClass "facedown/Combinations" = some m.cls) (e0 : T0.heap = h0) (n0 : Nat) (Z0 : n0 ≤ h0.size) (N0 : Fr n0 locs) (Ar_o2 : Arr Z h0 o2 cl_o2 .long) (hin23 : ¬ ((i3 - (1 : Int32)) < 0 ∨ cl_o2.slots.size ≤ ((i3 - (1 : Int32))).toNatClampNeg)) (hat23 : cl_o2.slots[((i3 - (1 : Int32))).toNatClampNeg]? = some (.long w3)) (hin28 : ¬ (i3 < 0 ∨ cl_o2.slots.size ≤ (i3).toNatClampNeg)) (g_o2 : n0 ≤ o2) (hc14 : ¬ (i1 < i3)) (hex : own_exact w3 i0.toInt64) :
    ∃ (T' : State) (h' : Heap) (locs' : List Loc), Stand p l e ({ frames := 3, cells := 1, slots := 16, locals := 50 } : Room) s m args below meth c T' locs' 1 16 ∧ Fr n0 locs' ∧ T'.heap = h' ∧ Wr h0 h' o2 (i3).toNatClampNeg (.long (w3 * i0.toInt64)) ∧
      ∀ target, Steps p.tables e below (T'.setTop (mkF m 12 #[.val (.int i0), .val (.int i1), .val (.ref o2), .val (.int (i3 + (1 : Int32)))] [])) target → Steps p.tables e below (T0.setTop (mkF m 12 #[.val (.int i0), .val (.int i1), .val (.ref o2), .val (.int i3)] [])) target := by
  obtain ⟨_, _, ⟨T4, L4, k4, n4⟩, -, X4, ⟨Lc4, hQ4, l4, y4, z4⟩, st4⟩ := Jvm.LawKit.callS X0 hx (y := (⟨"java/lang/Math", "multiplyExact", "(JI)J"⟩ : MethodName)) hown (mvT hZ (hw _ (List.mem_of_getElem? (i := 9) rfl))) (mvT hZ (hw _ (List.mem_of_getElem? (i := 10) rfl))) (mvT hZ (hw _ (List.mem_of_getElem? (i := 11) rfl))) (mvT hZ (hw _ (List.mem_of_getElem? (i := 12) rfl))) (by decide) (backOf (W := 2) (rm3 l Z a0 hw [] w3 i0 h0 n0 Z0 hex) hZ (hw _ (List.mem_of_getElem? (i := 12) rfl)) (hw _ (List.mem_of_getElem? (i := 11) rfl)) (by decide) (by decide)) (g := (mkF m 25 #[.val (.int i0), .val (.int i1), .val (.ref o2), .val (.int i3)] [(.int i0), (.long w3), (.int i3), (.ref o2)])) rfl (by rw [hml]; rfl) (argsL := [(.long w3), (.int i0)]) (rest := [(.int i3), (.ref o2)]) (lenOf pd_1_2 rfl) rfl (by show 2 * 0 + _ ≤ _; exact Nat.le_of_eq rfl) (hb hby d1_25) (fun _ _ => ⟨rfl, e0, (by decide : 1 + 0 ≤ _), (by decide : 16 + 0 ≤ _)⟩)
  dsimp only [Pt.U, Pt.locs, Pt.cells, Pt.slots] at X4 l4 y4 z4 st4 hQ4
  subst l4 y4 z4
  obtain ⟨rfl, N4q, e4q⟩ := hQ4
  have N4 := Fr.app N0 N4q
  obtain ⟨T5, h5, X5, e5, W5, st5⟩ := stJ X4 hx hZ e4q Ar_o2 (j := i3) hin28 (g := (mkF m 28 #[.val (.int i0), .val (.int i1), .val (.ref o2), .val (.int i3)] [(.long (w3 * i0.toInt64)), (.int i3), (.ref o2)])) rfl rfl (hb hby d1_28)
  have N5 := Fr.snoc X5 N4 g_o2
  refine ⟨T5, h5, _, X5, N5, e5, W5, fun target kt => ?_⟩
  show Steps p.tables e below (T0.setTop (mkF m 12 #[.val (.int i0), .val (.int i1), .val (.ref o2), .val (.int i3)] [])) _
  refine XS.iloadN X0.here hx rfl (hb hby d1_12) rfl ?_
  show Steps p.tables e below (T0.setTop (mkF m 13 #[.val (.int i0), .val (.int i1), .val (.ref o2), .val (.int i3)] [(.int i3)])) _
  refine XS.iloadN X0.here hx rfl (hb hby d1_13) rfl ?_
  show Steps p.tables e below (T0.setTop (mkF m 14 #[.val (.int i0), .val (.int i1), .val (.ref o2), .val (.int i3)] [(.int i1), (.int i3)])) _
  refine XS.icmpNo X0.here hx rfl (hb hby d1_14) rfl (flt hc14).2.2.1 ?_
  show Steps p.tables e below (T0.setTop (mkF m 17 #[.val (.int i0), .val (.int i1), .val (.ref o2), .val (.int i3)] [])) _
  refine XS.aloadN X0.here hx rfl (hb hby d1_17) rfl rfl ?_
  show Steps p.tables e below (T0.setTop (mkF m 18 #[.val (.int i0), .val (.int i1), .val (.ref o2), .val (.int i3)] [(.ref o2)])) _
  refine XS.iloadN X0.here hx rfl (hb hby d1_18) rfl ?_
  show Steps p.tables e below (T0.setTop (mkF m 19 #[.val (.int i0), .val (.int i1), .val (.ref o2), .val (.int i3)] [(.int i3), (.ref o2)])) _
  refine XS.aloadN X0.here hx rfl (hb hby d1_19) rfl rfl ?_
  show Steps p.tables e below (T0.setTop (mkF m 20 #[.val (.int i0), .val (.int i1), .val (.ref o2), .val (.int i3)] [(.ref o2), (.int i3), (.ref o2)])) _
  refine XS.iloadN X0.here hx rfl (hb hby d1_20) rfl ?_
  show Steps p.tables e below (T0.setTop (mkF m 21 #[.val (.int i0), .val (.int i1), .val (.ref o2), .val (.int i3)] [(.int i3), (.ref o2), (.int i3), (.ref o2)])) _
  refine XS.iconst X0.here hx rfl (hb hby d1_21) ?_
  show Steps p.tables e below (T0.setTop (mkF m 22 #[.val (.int i0), .val (.int i1), .val (.ref o2), .val (.int i3)] [(.int (1 : Int32)), (.int i3), (.ref o2), (.int i3), (.ref o2)])) _
  refine XS.isub X0.here hx rfl (hb hby d1_22) rfl ?_
  show Steps p.tables e below (T0.setTop (mkF m 23 #[.val (.int i0), .val (.int i1), .val (.ref o2), .val (.int i3)] [(.int (i3 - (1 : Int32))), (.ref o2), (.int i3), (.ref o2)])) _
  refine X0.laload hx (j := (i3 - (1 : Int32))) (v := (.long w3)) (by rw [e0]; exact Ar_o2.1) (State.isArrayOf_alike hZ.alike Ar_o2.2.1) Ar_o2.2.2 hin23 hat23 (g := (mkF m 23 #[.val (.int i0), .val (.int i1), .val (.ref o2), .val (.int i3)] [(.int (i3 - (1 : Int32))), (.ref o2), (.int i3), (.ref o2)])) rfl rfl (hb hby d1_23) _ ?_
  show Steps p.tables e below (T0.setTop (mkF m 24 #[.val (.int i0), .val (.int i1), .val (.ref o2), .val (.int i3)] [(.long w3), (.int i3), (.ref o2)])) _
  refine XS.iloadN X0.here hx rfl (hb hby d1_24) rfl ?_
  show Steps p.tables e below (T0.setTop (mkF m 25 #[.val (.int i0), .val (.int i1), .val (.ref o2), .val (.int i3)] [(.int i0), (.long w3), (.int i3), (.ref o2)])) _
  refine st4 _ ?_
  show Steps p.tables e below (T4.setTop (mkF m 28 #[.val (.int i0), .val (.int i1), .val (.ref o2), .val (.int i3)] [(.long (w3 * i0.toInt64)), (.int i3), (.ref o2)])) _
  refine st5 _ ?_
  show Steps p.tables e below (T5.setTop (mkF m 29 #[.val (.int i0), .val (.int i1), .val (.ref o2), .val (.int i3)] [])) _
  refine XS.iinc X5.here hx rfl (hb hby d1_29) rfl (l' := #[.val (.int i0), .val (.int i1), .val (.ref o2), .val (.int (i3 + (1 : Int32)))]) rfl ?_
  show Steps p.tables e below (T5.setTop (mkF m 32 #[.val (.int i0), .val (.int i1), .val (.ref o2), .val (.int (i3 + (1 : Int32)))] [])) _
  refine XS.goto X5.here hx rfl (pc0 := 32) (pc' := 12) rfl (hb hby d1_32) (by decide) (by decide) ?_
  exact kt
set_option maxRecDepth 65536 in
set_option maxHeartbeats 40000000 in
theorem tn1_end {p : Program} {l : Launch} {e : Env} {s : State} {m : MethodId} {args : Array Value} {below : List Frame} {meth : Method} {c : Code} {T0 : State} {locs : List Loc} {Z : State} {a0 : Array Value} {h0 : Heap} (s0 : Slot) (i1 : Int32) (s2 : Slot) (i3 : Int32)
    (X0 : Stand p l e ({ frames := 3, cells := 1, slots := 16, locals := 50 } : Room) s m args below meth c T0 locs 1 16) (hx : p.tables.exec = Jvm.exec) (hZ : Z.Warmed39 s.vm) (hw : ∀ d ∈ tables_1, d.before a0 Z = true) (hby : c.code = prog_5_method_4_code) (hml : c.maxLocals = 4) (hown : s.vm.findClass "facedown/Combinations" = some m.cls) (e0 : T0.heap = h0) (n0 : Nat) (Z0 : n0 ≤ h0.size) (N0 : Fr n0 locs) (hc14 : i1 < i3) :
    ∃ (T' : State) (locs' : List Loc), Stand p l e ({ frames := 3, cells := 1, slots := 16, locals := 50 } : Room) s m args below meth c T' locs' 1 16 ∧ Fr n0 locs' ∧ T'.heap = h0 ∧
      ∀ target, Steps p.tables e below (T'.setTop (mkF m 35 #[s0, .val (.int i1), s2, .val (.int i3)] [])) target → Steps p.tables e below (T0.setTop (mkF m 12 #[s0, .val (.int i1), s2, .val (.int i3)] [])) target := by
  refine ⟨T0, _, X0, N0, e0, fun target kt => ?_⟩
  show Steps p.tables e below (T0.setTop (mkF m 12 #[s0, .val (.int i1), s2, .val (.int i3)] [])) _
  refine XS.iloadN X0.here hx rfl (hb hby d1_12) rfl ?_
  show Steps p.tables e below (T0.setTop (mkF m 13 #[s0, .val (.int i1), s2, .val (.int i3)] [(.int i3)])) _
  refine XS.iloadN X0.here hx rfl (hb hby d1_13) rfl ?_
  show Steps p.tables e below (T0.setTop (mkF m 14 #[s0, .val (.int i1), s2, .val (.int i3)] [(.int i1), (.int i3)])) _
  refine XS.icmpYes X0.here hx rfl (pc0 := 14) (pc' := 35) rfl (hb hby d1_14) rfl (tlt hc14).2.2.1 (by decide) (by decide) ?_
  exact kt
theorem loop1 {p : Program} {l : Launch} {e : Env} {s : State} {m : MethodId} {args : Array Value} {below : List Frame} {meth : Method} {c : Code} {Z : State} {a0 : Array Value} (i0 i1 : Int32) (o2 : Addr) (D : Nat) (hD : D ≤ 15) (hi1 : i1.toInt = (D : Int)) (hok : ∀ j, j < D → own_exact (own_f i0.toInt64 j) i0.toInt64) (hx : p.tables.exec = Jvm.exec) (hZ : Z.Warmed39 s.vm) (hw : ∀ d ∈ tables_1, d.before a0 Z = true) (hby : c.code = prog_5_method_4_code) (hml : c.maxLocals = 4) (hown : s.vm.findClass "facedown/Combinations" = some m.cls) (n0 : Nat) (g_o2 : n0 ≤ o2) :
    ∀ (k i : Nat) (i3 : Int32) (T0 : State) (h0 : Heap) (locs : List Loc), i + k = D + 1 → 1 ≤ i → i3.toInt = (i : Int) → Stand p l e ({ frames := 3, cells := 1, slots := 16, locals := 50 } : Room) s m args below meth c T0 locs 1 16 → Fr n0 locs → T0.heap = h0 → n0 ≤ h0.size → own_A Z h0 o2 .long (D + 1) (fun j => .long (if j < i then own_f i0.toInt64 j else 0)) →
      ∃ (T' : State) (h' : Heap) (locs' : List Loc) (z : Int32), Stand p l e ({ frames := 3, cells := 1, slots := 16, locals := 50 } : Room) s m args below meth c T' locs' 1 16 ∧ Fr n0 locs' ∧ T'.heap = h' ∧ n0 ≤ h'.size ∧ own_A Z h' o2 .long (D + 1) (fun j => .long (own_f i0.toInt64 j)) ∧
        ∀ target, Steps p.tables e below (T'.setTop (mkF m 35 #[.val (.int i0), .val (.int i1), .val (.ref o2), .val (.int z)] [])) target → Steps p.tables e below (T0.setTop (mkF m 12 #[.val (.int i0), .val (.int i1), .val (.ref o2), .val (.int i3)] [])) target := by
  intro k
  induction k with
  | zero =>
    intro i i3 T0 h0 locs hi hi0 hi3 X0 N0 e0 Z0 V
    have hlt : i1 < i3 := by rw [own_lt]; omega
    obtain ⟨T1, L1, X1, N1, e1, st1⟩ := tn1_end (.val (.int i0)) i1 (.val (.ref o2)) i3 X0 hx hZ hw hby hml hown e0 n0 Z0 N0 hlt
    exact ⟨T1, h0, L1, i3, X1, N1, e1, Z0, own_congr V (fun j hj => by rw [if_pos (by omega)]), st1⟩
  | succ k ih =>
    intro i i3 T0 h0 locs hi hi0 hi3 X0 N0 e0 Z0 V
    have hge : ¬ i1 < i3 := by rw [own_lt]; omega
    obtain ⟨cl, Ar, S, H⟩ := V
    obtain ⟨i', rfl⟩ : ∃ i' : Nat, i = i' + 1 := ⟨i - 1, by omega⟩
    have hs : (i3 - (1 : Int32)).toInt = (i' : Int) := by rw [own_sub1 i3 (by omega) (by omega)]; omega
    have ha : (i3 + (1 : Int32)).toInt = ((i' + 1 + 1 : Nat) : Int) := by rw [own_add1 i3 (by omega) (by omega)]; omega
    have hat : cl.slots[(i3 - (1 : Int32)).toNatClampNeg]? = some (.long (own_f i0.toInt64 i')) := by
      rw [own_nat hs, H i' (by omega)]
      show some (Value.long (if i' < i' + 1 then own_f i0.toInt64 i' else 0)) = _
      rw [if_pos (by omega)]
    obtain ⟨T1, h1, L1, X1, N1, e1, W1, st1⟩ := tn1_turn i0 i1 o2 i3 (own_f i0.toInt64 i') cl X0 hx hZ hw hby hml hown e0 n0 Z0 N0 Ar (own_inb S hs (by omega)) hat (own_inb S hi3 (by omega)) g_o2 hge (hok i' (by omega))
    have V1 := own_set ⟨cl, Ar, S, H⟩ W1 (own_nat hi3)
    have Z1 : n0 ≤ h1.size := Nat.le_trans Z0 (Keep.of_wr W1).1
    obtain ⟨T', h', L', z, X', N', e', Z', V', st'⟩ := ih (i' + 1 + 1) (i3 + (1 : Int32)) T1 h1 L1 (by omega) (by omega) ha X1 N1 e1 Z1 (own_congr V1 (fun j hj => by
      by_cases u : j = i' + 1
      · subst u
        rw [if_pos rfl, if_pos (by omega), own_fs]
      · by_cases u2 : j < i' + 1
        · rw [if_neg u, if_pos u2, if_pos (by omega)]
        · rw [if_neg u, if_neg u2, if_neg (by omega)]))
    exact ⟨T', h', L', z, X', N', e', Z', V', fun target h => st1 target (st' target h)⟩
theorem d1_0 : decode prog_5_method_4_code 0 = .ok (.iload_n 1, 1) := by decide +kernel
theorem d1_1 : decode prog_5_method_4_code 1 = .ok (.iconst 1, 1) := by decide +kernel
theorem d1_2 : decode prog_5_method_4_code 2 = .ok (.iadd, 1) := by decide +kernel
theorem d1_3 : decode prog_5_method_4_code 3 = .ok (.newarray .long, 2) := by decide +kernel
theorem d1_5 : decode prog_5_method_4_code 5 = .ok (.astore_n 2, 1) := by decide +kernel
theorem d1_6 : decode prog_5_method_4_code 6 = .ok (.aload_n 2, 1) := by decide +kernel
theorem d1_7 : decode prog_5_method_4_code 7 = .ok (.iconst 0, 1) := by decide +kernel
theorem d1_8 : decode prog_5_method_4_code 8 = .ok (.lconst 1, 1) := by decide +kernel
theorem d1_9 : decode prog_5_method_4_code 9 = .ok (.lastore, 1) := by decide +kernel
theorem d1_10 : decode prog_5_method_4_code 10 = .ok (.iconst 1, 1) := by decide +kernel
theorem d1_11 : decode prog_5_method_4_code 11 = .ok (.istore_n 3, 1) := by decide +kernel
theorem d1_35 : decode prog_5_method_4_code 35 = .ok (.aload_n 2, 1) := by decide +kernel
theorem d1_36 : decode prog_5_method_4_code 36 = .ok (.areturn, 1) := by decide +kernel
theorem pn_1 : plainName "facedown/Combinations" = true := by first | (simp [plainName, overriddenIn]; done) | decide +kernel
theorem ef_1 (m : MethodId) (x0 : Int32) (x1 : Int32) : entryFrame m #[(.int x0), (.int x1)] 4 = mkF m 0 #[.val (.int x0), .val (.int x1), .unset, .unset] [] := by first | (simp [entryFrame, mkF, argsToLocals, Value.category]; done) | rfl
def Q1 (Z : State) (p1 : Int32) (p2 : Int32) (D : Nat) (h0 : Heap) (n0 : Nat) (v : Option Value) (h : Heap) (L : List Loc) : Prop := v = some (.ref h0.size) ∧ Fr n0 L ∧ n0 ≤ h.size ∧ own_A Z h h0.size .long (D + 1) (fun j => .long (own_f p1.toInt64 j))
set_option maxRecDepth 65536 in
set_option maxHeartbeats 40000000 in
theorem rm1 (l : Launch) (Z : State) (a0 : Array Value) (hw : ∀ d ∈ tables_1, d.before a0 Z = true) (ws : List Jvm.Cond) (p1 : Int32) (p2 : Int32) (D : Nat) (h0 : Heap) (n0 : Nat) (Z0 : n0 ≤ h0.size) (hD : D ≤ 15) (hp2 : p2.toInt = (D : Int)) (hok : ∀ j, j < D → own_exact (own_f p1.toInt64 j) p1.toInt64) :
    MetFree l (⟨"facedown/Combinations", "upTo", "(II)[J"⟩ : MethodName) (head1 (Jvm.Cond.code (⟨"facedown/Combinations", "upTo", "(II)[J"⟩ : MethodName) prog_5_method_4_code 4 (some (.array .long)) :: ws) ({ frames := 3, cells := 1, slots := 16, locals := 50 } : Room)) (fun a U => a = #[(.int p1), (.int p2)] ∧ Z.Warmed39 U.vm ∧ U.heap = h0) (fun _ _ _ _ _ => True) (fun _ U o U' => ∃ v L, o = .returned v ∧ Q1 Z p1 p2 D h0 n0 v U'.heap L ∧ FrameEnd U o U' L ({ frames := 3, cells := 1, slots := 16, locals := 50 } : Room).cells ({ frames := 3, cells := 1, slots := 16, locals := 50 } : Room).slots) := by
  refine MetFree.of_bodySF (plainFor_of_name pn_1) hisR ?_
  intro p e s m args below meth c s₁ Bd hml0 hP hK
  obtain ⟨rfl, hZ, hh⟩ := hP
  have hx := Bd.exec
  have hby := Bd.bytes
  have hml : c.maxLocals = 4 := hml0
  have hown : s.vm.findClass "facedown/Combinations" = some m.cls := findClass_of_methodNamed Bd.named
  have hnm := (name_of_methodNamed Bd.named Bd.method).1
  have X0 : Stand p l e ({ frames := 3, cells := 1, slots := 16, locals := 50 } : Room) s m #[(.int p1), (.int p2)] below meth c s₁ [] 0 0 := Stand.of_body Bd
  have e0 : s₁.heap = h0 := by rw [← hh, Bd.state]; rfl
  have N0 := Fr.nil n0
  have pre0 : ∀ t, Steps p.tables e below (s₁.setTop (mkF m 0 #[.val (.int p1), .val (.int p2), .unset, .unset] [])) t → Steps p.tables e below (s₁.setTop (entryFrame m #[(.int p1), (.int p2)] 4)) t := fun t k => castTop (ef_1 m p1 p2) k
  have ha : (p2 + (1 : Int32)).toInt = ((D + 1 : Nat) : Int) := by rw [own_add1 p2 (by omega) (by omega)]; omega
  have hN : (p2 + (1 : Int32)).toNatClampNeg = D + 1 := own_nat ha
  have hn : ¬ (p2 + (1 : Int32)) < 0 := by rw [own_lt, own_i0]; omega
  obtain ⟨T3, h3, k3, X3, e3, E3, A3, st3⟩ := newP X0 hx hZ (hw _ (List.mem_of_getElem? (i := 4) rfl)) e0 (g := (mkF m 3 #[.val (.int p1), .val (.int p2), .unset, .unset] [(.int (p2 + (1 : Int32)))])) rfl (hb hby d1_3) rfl hn (cap := 16) (by rw [hN]; omega) (by decide) (by decide) (by decide)
  obtain ⟨b3, g3⟩ : ∃ z, z = h0.size := ⟨_, rfl⟩
  rw [← g3] at A3 st3
  have V3 : own_A Z h3 b3 .long (D + 1) (fun _ => .long (0 : Int64)) := by
    have V := own_ofV (Arv.new A3 hn)
    rw [hN] at V
    exact own_congr V (fun j _ => rfl)
  have g_b3 : n0 ≤ b3 := Nat.le_trans Z0 (Nat.le_of_eq g3.symm)
  have Z3 : n0 ≤ h3.size := Nat.le_trans Z0 E3.1
  obtain ⟨cl3, Ar3, S3, H3⟩ := V3
  have hin9 : ¬ ((0 : Int32) < 0 ∨ cl3.slots.size ≤ ((0 : Int32)).toNatClampNeg) := own_inb S3 (k := 0) (by decide) (by omega)
  obtain ⟨T4, h4, X4, e4, W4, st4⟩ := stJ X3 hx hZ e3 Ar3 (j := (0 : Int32)) hin9 (g := (mkF m 9 #[.val (.int p1), .val (.int p2), .val (.ref b3), .unset] [(.long (1 : Int64)), (.int (0 : Int32)), (.ref b3)])) rfl rfl (hb hby d1_9)
  have N4 := Fr.snoc X4 N0 g_b3
  have V4 := own_set ⟨cl3, Ar3, S3, H3⟩ W4 (own_nat (x := (0 : Int32)) (k := 0) (by decide))
  have Z4 : n0 ≤ h4.size := Nat.le_trans Z3 (Keep.of_wr W4).1
  obtain ⟨T5, h5, L5, z, X5, N5, e5, Z5, V5, st5⟩ := loop1 p1 p2 b3 D hD hp2 hok hx hZ hw hby hml hown n0 g_b3 D 1 (1 : Int32) T4 h4 _ (by omega) (Nat.le_refl 1) (by decide) X4 N4 e4 Z4 (own_congr V4 (fun j hj => by
      by_cases u : j = 0
      · subst u; rfl
      · rw [if_neg u, if_neg (by omega)]))
  obtain ⟨fs, hr, hrun, hended, hW, hsame⟩ := X5.leave (v := some (.ref b3)) (fun h => by rw [Bd.returns] at h; cases h)
  refine ⟨_, _, pre0 _ ?_, hrun, hended, _, _, rfl, ?_, ⟨_, rfl⟩, hW, hsame.mono (by decide) (by decide)⟩
  · show Steps p.tables e below (s₁.setTop (mkF m 0 #[.val (.int p1), .val (.int p2), .unset, .unset] [])) _
    refine XS.iloadN X0.here hx rfl (hb hby d1_0) rfl ?_
    show Steps p.tables e below (s₁.setTop (mkF m 1 #[.val (.int p1), .val (.int p2), .unset, .unset] [(.int p2)])) _
    refine XS.iconst X0.here hx rfl (hb hby d1_1) ?_
    show Steps p.tables e below (s₁.setTop (mkF m 2 #[.val (.int p1), .val (.int p2), .unset, .unset] [(.int (1 : Int32)), (.int p2)])) _
    refine XS.iadd X0.here hx rfl (hb hby d1_2) rfl ?_
    show Steps p.tables e below (s₁.setTop (mkF m 3 #[.val (.int p1), .val (.int p2), .unset, .unset] [(.int (p2 + (1 : Int32)))])) _
    refine st3 _ ?_
    show Steps p.tables e below (T3.setTop (mkF m 5 #[.val (.int p1), .val (.int p2), .unset, .unset] [(.ref b3)])) _
    refine XS.astoreN X3.here hx rfl (hb hby d1_5) rfl rfl (l' := #[.val (.int p1), .val (.int p2), .val (.ref b3), .unset]) rfl ?_
    show Steps p.tables e below (T3.setTop (mkF m 6 #[.val (.int p1), .val (.int p2), .val (.ref b3), .unset] [])) _
    refine XS.aloadN X3.here hx rfl (hb hby d1_6) rfl rfl ?_
    show Steps p.tables e below (T3.setTop (mkF m 7 #[.val (.int p1), .val (.int p2), .val (.ref b3), .unset] [(.ref b3)])) _
    refine XS.iconst X3.here hx rfl (hb hby d1_7) ?_
    show Steps p.tables e below (T3.setTop (mkF m 8 #[.val (.int p1), .val (.int p2), .val (.ref b3), .unset] [(.int (0 : Int32)), (.ref b3)])) _
    refine XS.lconst X3.here hx rfl (hb hby d1_8) ?_
    show Steps p.tables e below (T3.setTop (mkF m 9 #[.val (.int p1), .val (.int p2), .val (.ref b3), .unset] [(.long (1 : Int64)), (.int (0 : Int32)), (.ref b3)])) _
    refine st4 _ ?_
    show Steps p.tables e below (T4.setTop (mkF m 10 #[.val (.int p1), .val (.int p2), .val (.ref b3), .unset] [])) _
    refine XS.iconst X4.here hx rfl (hb hby d1_10) ?_
    show Steps p.tables e below (T4.setTop (mkF m 11 #[.val (.int p1), .val (.int p2), .val (.ref b3), .unset] [(.int (1 : Int32))])) _
    refine XS.istoreN X4.here hx rfl (hb hby d1_11) rfl (l' := #[.val (.int p1), .val (.int p2), .val (.ref b3), .val (.int (1 : Int32))]) rfl ?_
    show Steps p.tables e below (T4.setTop (mkF m 12 #[.val (.int p1), .val (.int p2), .val (.ref b3), .val (.int (1 : Int32))] [])) _
    refine st5 _ ?_
    show Steps p.tables e below (T5.setTop (mkF m 35 #[.val (.int p1), .val (.int p2), .val (.ref b3), .val (.int z)] [])) _
    refine XS.aloadN X5.here hx rfl (hb hby d1_35) rfl rfl ?_
    show Steps p.tables e below (T5.setTop (mkF m 36 #[.val (.int p1), .val (.int p2), .val (.ref b3), .val (.int z)] [(.ref b3)])) _
    jvm_step X5.here [X5.here.top, hx, (hb hby d1_36), X5.method', Bd.returns, Value.isRef, FieldType.isReference]
    first | (intro acts; rw [hr _ acts rfl rfl rfl]) | rw [hr _ _ rfl rfl rfl]
    exact Steps.refl _
  · show Q1 Z p1 p2 D h0 n0 _ T5.heap _
    rw [e5]
    exact ⟨by rw [g3], N5, Z5, g3 ▸ V5⟩
theorem pd_0_1 : parseMethodDescriptor "([JIIJ)Z" = some ⟨[(.array .long), .int, .int, .long], some .boolean⟩ := by decide +kernel
set_option maxRecDepth 65536 in
set_option maxHeartbeats 40000000 in
theorem tn0_ck0 {p : Program} {l : Launch} {e : Env} {s : State} {m : MethodId} {args : Array Value} {below : List Frame} {meth : Method} {c : Code} {T0 : State} {locs : List Loc} {Z : State} {a0 : Array Value} {h0 : Heap} (s0 : Slot) (s1 : Slot) (i2 : Int32) (s3 : Slot) (s4 : Slot) (s5 : Slot) (j6 : Int64) (s8 : Slot) (s9 : Slot) (s10 : Slot) (s11 : Slot) (s12 : Slot) (s13 : Slot) (s14 : Slot) (s15 : Slot) (s16 : Slot) (s17 : Slot) (s18 : Slot) (s19 : Slot) (s20 : Slot) (s21 : Slot) (s22 : Slot) (s23 : Slot) (s24 : Slot) (s25 : Slot) (s26 : Slot) (s27 : Slot) (s28 : Slot) (s29 : Slot) (s30 : Slot) (s31 : Slot) (s32 : Slot) (s33 : Slot) (s34 : Slot) (s35 : Slot) (s36 : Slot) (s37 : Slot) (o38 : Addr)
    (X0 : Stand p l e room_1 s m args below meth c T0 locs 1 16) (hx : p.tables.exec = Jvm.exec) (hZ : Z.Warmed39 s.vm) (hw : ∀ d ∈ tables_1, d.before a0 Z = true) (hby : c.code = code) (hml : c.maxLocals = 39) (hown : s.vm.findClass "facedown/CombinationsUpToPinLaw" = some m.cls) (e0 : T0.heap = h0) (n0 : Nat) (Z0 : n0 ≤ h0.size) (N0 : Fr n0 locs) (hok : i2 < (0 : Int32) ∨ own_vis Z h0 o38 (0 : Int32) j6) :
    ∃ (T' : State) (locs' : List Loc), Stand p l e room_1 s m args below meth c T' locs' 1 16 ∧ Fr n0 locs' ∧ T'.heap = h0 ∧
      ∀ target, Steps p.tables e below (T'.setTop (mkF m 156 #[s0, s1, .val (.int i2), s3, s4, s5, .val (.long j6), .second, s8, s9, s10, s11, s12, s13, s14, s15, s16, s17, s18, s19, s20, s21, s22, s23, s24, s25, s26, s27, s28, s29, s30, s31, s32, s33, s34, s35, s36, s37, .val (.ref o38)] [])) target → Steps p.tables e below (T0.setTop (mkF m 144 #[s0, s1, .val (.int i2), s3, s4, s5, .val (.long j6), .second, s8, s9, s10, s11, s12, s13, s14, s15, s16, s17, s18, s19, s20, s21, s22, s23, s24, s25, s26, s27, s28, s29, s30, s31, s32, s33, s34, s35, s36, s37, .val (.ref o38)] [])) target := by
  obtain ⟨_, _, ⟨T3, L3, k3, n3⟩, -, X3, ⟨Lc3, hQ3, l3, y3, z3⟩, st3⟩ := Jvm.LawKit.callS X0 hx (y := (⟨"facedown/CombinationsUpToPinLaw", "ok", "([JIIJ)Z"⟩ : MethodName)) hown (mvT hZ (hw _ (List.mem_of_getElem? (i := 5) rfl))) (mvT hZ (hw _ (List.mem_of_getElem? (i := 6) rfl))) (mvT hZ (hw _ (List.mem_of_getElem? (i := 7) rfl))) (mvT hZ (hw _ (List.mem_of_getElem? (i := 8) rfl))) (by decide) (backOf (W := 0) (rm2 l Z a0 hw [] o38 i2 (0 : Int32) j6 h0 n0 Z0 hok) hZ (hw _ (List.mem_of_getElem? (i := 8) rfl)) (hw _ (List.mem_of_getElem? (i := 7) rfl)) (by decide) (by decide)) (g := (mkF m 150 #[s0, s1, .val (.int i2), s3, s4, s5, .val (.long j6), .second, s8, s9, s10, s11, s12, s13, s14, s15, s16, s17, s18, s19, s20, s21, s22, s23, s24, s25, s26, s27, s28, s29, s30, s31, s32, s33, s34, s35, s36, s37, .val (.ref o38)] [(.long j6), (.int (0 : Int32)), (.int i2), (.ref o38)])) rfl (by rw [hml]; rfl) (argsL := [(.ref o38), (.int i2), (.int (0 : Int32)), (.long j6)]) (rest := []) (lenOf pd_0_1 rfl) rfl (by show 2 * 0 + _ ≤ _; exact Nat.le_of_eq rfl) (hb hby at_150) (fun _ _ => ⟨rfl, e0, (by decide : 1 + 0 ≤ _), (by decide : 16 + 0 ≤ _)⟩)
  dsimp only [Pt.U, Pt.locs, Pt.cells, Pt.slots] at X3 l3 y3 z3 st3 hQ3
  subst l3 y3 z3
  obtain ⟨rfl, N3q, e3q⟩ := hQ3
  have N3 := Fr.app N0 N3q
  refine ⟨T3, _, X3, N3, e3q, fun target kt => ?_⟩
  show Steps p.tables e below (T0.setTop (mkF m 144 #[s0, s1, .val (.int i2), s3, s4, s5, .val (.long j6), .second, s8, s9, s10, s11, s12, s13, s14, s15, s16, s17, s18, s19, s20, s21, s22, s23, s24, s25, s26, s27, s28, s29, s30, s31, s32, s33, s34, s35, s36, s37, .val (.ref o38)] [])) _
  refine XS.aload X0.here hx rfl (hb hby at_144) rfl rfl ?_
  show Steps p.tables e below (T0.setTop (mkF m 146 #[s0, s1, .val (.int i2), s3, s4, s5, .val (.long j6), .second, s8, s9, s10, s11, s12, s13, s14, s15, s16, s17, s18, s19, s20, s21, s22, s23, s24, s25, s26, s27, s28, s29, s30, s31, s32, s33, s34, s35, s36, s37, .val (.ref o38)] [(.ref o38)])) _
  refine XS.iloadN X0.here hx rfl (hb hby at_146) rfl ?_
  show Steps p.tables e below (T0.setTop (mkF m 147 #[s0, s1, .val (.int i2), s3, s4, s5, .val (.long j6), .second, s8, s9, s10, s11, s12, s13, s14, s15, s16, s17, s18, s19, s20, s21, s22, s23, s24, s25, s26, s27, s28, s29, s30, s31, s32, s33, s34, s35, s36, s37, .val (.ref o38)] [(.int i2), (.ref o38)])) _
  refine XS.iconst X0.here hx rfl (hb hby at_147) ?_
  show Steps p.tables e below (T0.setTop (mkF m 148 #[s0, s1, .val (.int i2), s3, s4, s5, .val (.long j6), .second, s8, s9, s10, s11, s12, s13, s14, s15, s16, s17, s18, s19, s20, s21, s22, s23, s24, s25, s26, s27, s28, s29, s30, s31, s32, s33, s34, s35, s36, s37, .val (.ref o38)] [(.int (0 : Int32)), (.int i2), (.ref o38)])) _
  refine XS.lload X0.here hx rfl (hb hby at_148) rfl ?_
  show Steps p.tables e below (T0.setTop (mkF m 150 #[s0, s1, .val (.int i2), s3, s4, s5, .val (.long j6), .second, s8, s9, s10, s11, s12, s13, s14, s15, s16, s17, s18, s19, s20, s21, s22, s23, s24, s25, s26, s27, s28, s29, s30, s31, s32, s33, s34, s35, s36, s37, .val (.ref o38)] [(.long j6), (.int (0 : Int32)), (.int i2), (.ref o38)])) _
  refine st3 _ ?_
  show Steps p.tables e below (T3.setTop (mkF m 153 #[s0, s1, .val (.int i2), s3, s4, s5, .val (.long j6), .second, s8, s9, s10, s11, s12, s13, s14, s15, s16, s17, s18, s19, s20, s21, s22, s23, s24, s25, s26, s27, s28, s29, s30, s31, s32, s33, s34, s35, s36, s37, .val (.ref o38)] [(.int (1 : Int32))])) _
  refine XS.ifNo X3.here hx rfl (hb hby at_153) rfl ((if0 _ _).trans (feq (by decide : ¬ ((1 : Int32) = (0 : Int32)))).1) ?_
  exact kt
set_option maxRecDepth 65536 in
set_option maxHeartbeats 40000000 in
theorem tn0_ck1 {p : Program} {l : Launch} {e : Env} {s : State} {m : MethodId} {args : Array Value} {below : List Frame} {meth : Method} {c : Code} {T0 : State} {locs : List Loc} {Z : State} {a0 : Array Value} {h0 : Heap} (s0 : Slot) (s1 : Slot) (i2 : Int32) (s3 : Slot) (s4 : Slot) (s5 : Slot) (s6 : Slot) (s7 : Slot) (j8 : Int64) (s10 : Slot) (s11 : Slot) (s12 : Slot) (s13 : Slot) (s14 : Slot) (s15 : Slot) (s16 : Slot) (s17 : Slot) (s18 : Slot) (s19 : Slot) (s20 : Slot) (s21 : Slot) (s22 : Slot) (s23 : Slot) (s24 : Slot) (s25 : Slot) (s26 : Slot) (s27 : Slot) (s28 : Slot) (s29 : Slot) (s30 : Slot) (s31 : Slot) (s32 : Slot) (s33 : Slot) (s34 : Slot) (s35 : Slot) (s36 : Slot) (s37 : Slot) (o38 : Addr)
    (X0 : Stand p l e room_1 s m args below meth c T0 locs 1 16) (hx : p.tables.exec = Jvm.exec) (hZ : Z.Warmed39 s.vm) (hw : ∀ d ∈ tables_1, d.before a0 Z = true) (hby : c.code = code) (hml : c.maxLocals = 39) (hown : s.vm.findClass "facedown/CombinationsUpToPinLaw" = some m.cls) (e0 : T0.heap = h0) (n0 : Nat) (Z0 : n0 ≤ h0.size) (N0 : Fr n0 locs) (hok : i2 < (1 : Int32) ∨ own_vis Z h0 o38 (1 : Int32) j8) :
    ∃ (T' : State) (locs' : List Loc), Stand p l e room_1 s m args below meth c T' locs' 1 16 ∧ Fr n0 locs' ∧ T'.heap = h0 ∧
      ∀ target, Steps p.tables e below (T'.setTop (mkF m 168 #[s0, s1, .val (.int i2), s3, s4, s5, s6, s7, .val (.long j8), .second, s10, s11, s12, s13, s14, s15, s16, s17, s18, s19, s20, s21, s22, s23, s24, s25, s26, s27, s28, s29, s30, s31, s32, s33, s34, s35, s36, s37, .val (.ref o38)] [])) target → Steps p.tables e below (T0.setTop (mkF m 156 #[s0, s1, .val (.int i2), s3, s4, s5, s6, s7, .val (.long j8), .second, s10, s11, s12, s13, s14, s15, s16, s17, s18, s19, s20, s21, s22, s23, s24, s25, s26, s27, s28, s29, s30, s31, s32, s33, s34, s35, s36, s37, .val (.ref o38)] [])) target := by
  obtain ⟨_, _, ⟨T3, L3, k3, n3⟩, -, X3, ⟨Lc3, hQ3, l3, y3, z3⟩, st3⟩ := Jvm.LawKit.callS X0 hx (y := (⟨"facedown/CombinationsUpToPinLaw", "ok", "([JIIJ)Z"⟩ : MethodName)) hown (mvT hZ (hw _ (List.mem_of_getElem? (i := 5) rfl))) (mvT hZ (hw _ (List.mem_of_getElem? (i := 6) rfl))) (mvT hZ (hw _ (List.mem_of_getElem? (i := 7) rfl))) (mvT hZ (hw _ (List.mem_of_getElem? (i := 8) rfl))) (by decide) (backOf (W := 0) (rm2 l Z a0 hw [] o38 i2 (1 : Int32) j8 h0 n0 Z0 hok) hZ (hw _ (List.mem_of_getElem? (i := 8) rfl)) (hw _ (List.mem_of_getElem? (i := 7) rfl)) (by decide) (by decide)) (g := (mkF m 162 #[s0, s1, .val (.int i2), s3, s4, s5, s6, s7, .val (.long j8), .second, s10, s11, s12, s13, s14, s15, s16, s17, s18, s19, s20, s21, s22, s23, s24, s25, s26, s27, s28, s29, s30, s31, s32, s33, s34, s35, s36, s37, .val (.ref o38)] [(.long j8), (.int (1 : Int32)), (.int i2), (.ref o38)])) rfl (by rw [hml]; rfl) (argsL := [(.ref o38), (.int i2), (.int (1 : Int32)), (.long j8)]) (rest := []) (lenOf pd_0_1 rfl) rfl (by show 2 * 0 + _ ≤ _; exact Nat.le_of_eq rfl) (hb hby at_162) (fun _ _ => ⟨rfl, e0, (by decide : 1 + 0 ≤ _), (by decide : 16 + 0 ≤ _)⟩)
  dsimp only [Pt.U, Pt.locs, Pt.cells, Pt.slots] at X3 l3 y3 z3 st3 hQ3
  subst l3 y3 z3
  obtain ⟨rfl, N3q, e3q⟩ := hQ3
  have N3 := Fr.app N0 N3q
  refine ⟨T3, _, X3, N3, e3q, fun target kt => ?_⟩
  show Steps p.tables e below (T0.setTop (mkF m 156 #[s0, s1, .val (.int i2), s3, s4, s5, s6, s7, .val (.long j8), .second, s10, s11, s12, s13, s14, s15, s16, s17, s18, s19, s20, s21, s22, s23, s24, s25, s26, s27, s28, s29, s30, s31, s32, s33, s34, s35, s36, s37, .val (.ref o38)] [])) _
  refine XS.aload X0.here hx rfl (hb hby at_156) rfl rfl ?_
  show Steps p.tables e below (T0.setTop (mkF m 158 #[s0, s1, .val (.int i2), s3, s4, s5, s6, s7, .val (.long j8), .second, s10, s11, s12, s13, s14, s15, s16, s17, s18, s19, s20, s21, s22, s23, s24, s25, s26, s27, s28, s29, s30, s31, s32, s33, s34, s35, s36, s37, .val (.ref o38)] [(.ref o38)])) _
  refine XS.iloadN X0.here hx rfl (hb hby at_158) rfl ?_
  show Steps p.tables e below (T0.setTop (mkF m 159 #[s0, s1, .val (.int i2), s3, s4, s5, s6, s7, .val (.long j8), .second, s10, s11, s12, s13, s14, s15, s16, s17, s18, s19, s20, s21, s22, s23, s24, s25, s26, s27, s28, s29, s30, s31, s32, s33, s34, s35, s36, s37, .val (.ref o38)] [(.int i2), (.ref o38)])) _
  refine XS.iconst X0.here hx rfl (hb hby at_159) ?_
  show Steps p.tables e below (T0.setTop (mkF m 160 #[s0, s1, .val (.int i2), s3, s4, s5, s6, s7, .val (.long j8), .second, s10, s11, s12, s13, s14, s15, s16, s17, s18, s19, s20, s21, s22, s23, s24, s25, s26, s27, s28, s29, s30, s31, s32, s33, s34, s35, s36, s37, .val (.ref o38)] [(.int (1 : Int32)), (.int i2), (.ref o38)])) _
  refine XS.lload X0.here hx rfl (hb hby at_160) rfl ?_
  show Steps p.tables e below (T0.setTop (mkF m 162 #[s0, s1, .val (.int i2), s3, s4, s5, s6, s7, .val (.long j8), .second, s10, s11, s12, s13, s14, s15, s16, s17, s18, s19, s20, s21, s22, s23, s24, s25, s26, s27, s28, s29, s30, s31, s32, s33, s34, s35, s36, s37, .val (.ref o38)] [(.long j8), (.int (1 : Int32)), (.int i2), (.ref o38)])) _
  refine st3 _ ?_
  show Steps p.tables e below (T3.setTop (mkF m 165 #[s0, s1, .val (.int i2), s3, s4, s5, s6, s7, .val (.long j8), .second, s10, s11, s12, s13, s14, s15, s16, s17, s18, s19, s20, s21, s22, s23, s24, s25, s26, s27, s28, s29, s30, s31, s32, s33, s34, s35, s36, s37, .val (.ref o38)] [(.int (1 : Int32))])) _
  refine XS.ifNo X3.here hx rfl (hb hby at_165) rfl ((if0 _ _).trans (feq (by decide : ¬ ((1 : Int32) = (0 : Int32)))).1) ?_
  exact kt
set_option maxRecDepth 65536 in
set_option maxHeartbeats 40000000 in
theorem tn0_ck2 {p : Program} {l : Launch} {e : Env} {s : State} {m : MethodId} {args : Array Value} {below : List Frame} {meth : Method} {c : Code} {T0 : State} {locs : List Loc} {Z : State} {a0 : Array Value} {h0 : Heap} (s0 : Slot) (s1 : Slot) (i2 : Int32) (s3 : Slot) (s4 : Slot) (s5 : Slot) (s6 : Slot) (s7 : Slot) (s8 : Slot) (s9 : Slot) (j10 : Int64) (s12 : Slot) (s13 : Slot) (s14 : Slot) (s15 : Slot) (s16 : Slot) (s17 : Slot) (s18 : Slot) (s19 : Slot) (s20 : Slot) (s21 : Slot) (s22 : Slot) (s23 : Slot) (s24 : Slot) (s25 : Slot) (s26 : Slot) (s27 : Slot) (s28 : Slot) (s29 : Slot) (s30 : Slot) (s31 : Slot) (s32 : Slot) (s33 : Slot) (s34 : Slot) (s35 : Slot) (s36 : Slot) (s37 : Slot) (o38 : Addr)
    (X0 : Stand p l e room_1 s m args below meth c T0 locs 1 16) (hx : p.tables.exec = Jvm.exec) (hZ : Z.Warmed39 s.vm) (hw : ∀ d ∈ tables_1, d.before a0 Z = true) (hby : c.code = code) (hml : c.maxLocals = 39) (hown : s.vm.findClass "facedown/CombinationsUpToPinLaw" = some m.cls) (e0 : T0.heap = h0) (n0 : Nat) (Z0 : n0 ≤ h0.size) (N0 : Fr n0 locs) (hok : i2 < (2 : Int32) ∨ own_vis Z h0 o38 (2 : Int32) j10) :
    ∃ (T' : State) (locs' : List Loc), Stand p l e room_1 s m args below meth c T' locs' 1 16 ∧ Fr n0 locs' ∧ T'.heap = h0 ∧
      ∀ target, Steps p.tables e below (T'.setTop (mkF m 180 #[s0, s1, .val (.int i2), s3, s4, s5, s6, s7, s8, s9, .val (.long j10), .second, s12, s13, s14, s15, s16, s17, s18, s19, s20, s21, s22, s23, s24, s25, s26, s27, s28, s29, s30, s31, s32, s33, s34, s35, s36, s37, .val (.ref o38)] [])) target → Steps p.tables e below (T0.setTop (mkF m 168 #[s0, s1, .val (.int i2), s3, s4, s5, s6, s7, s8, s9, .val (.long j10), .second, s12, s13, s14, s15, s16, s17, s18, s19, s20, s21, s22, s23, s24, s25, s26, s27, s28, s29, s30, s31, s32, s33, s34, s35, s36, s37, .val (.ref o38)] [])) target := by
  obtain ⟨_, _, ⟨T3, L3, k3, n3⟩, -, X3, ⟨Lc3, hQ3, l3, y3, z3⟩, st3⟩ := Jvm.LawKit.callS X0 hx (y := (⟨"facedown/CombinationsUpToPinLaw", "ok", "([JIIJ)Z"⟩ : MethodName)) hown (mvT hZ (hw _ (List.mem_of_getElem? (i := 5) rfl))) (mvT hZ (hw _ (List.mem_of_getElem? (i := 6) rfl))) (mvT hZ (hw _ (List.mem_of_getElem? (i := 7) rfl))) (mvT hZ (hw _ (List.mem_of_getElem? (i := 8) rfl))) (by decide) (backOf (W := 0) (rm2 l Z a0 hw [] o38 i2 (2 : Int32) j10 h0 n0 Z0 hok) hZ (hw _ (List.mem_of_getElem? (i := 8) rfl)) (hw _ (List.mem_of_getElem? (i := 7) rfl)) (by decide) (by decide)) (g := (mkF m 174 #[s0, s1, .val (.int i2), s3, s4, s5, s6, s7, s8, s9, .val (.long j10), .second, s12, s13, s14, s15, s16, s17, s18, s19, s20, s21, s22, s23, s24, s25, s26, s27, s28, s29, s30, s31, s32, s33, s34, s35, s36, s37, .val (.ref o38)] [(.long j10), (.int (2 : Int32)), (.int i2), (.ref o38)])) rfl (by rw [hml]; rfl) (argsL := [(.ref o38), (.int i2), (.int (2 : Int32)), (.long j10)]) (rest := []) (lenOf pd_0_1 rfl) rfl (by show 2 * 0 + _ ≤ _; exact Nat.le_of_eq rfl) (hb hby at_174) (fun _ _ => ⟨rfl, e0, (by decide : 1 + 0 ≤ _), (by decide : 16 + 0 ≤ _)⟩)
  dsimp only [Pt.U, Pt.locs, Pt.cells, Pt.slots] at X3 l3 y3 z3 st3 hQ3
  subst l3 y3 z3
  obtain ⟨rfl, N3q, e3q⟩ := hQ3
  have N3 := Fr.app N0 N3q
  refine ⟨T3, _, X3, N3, e3q, fun target kt => ?_⟩
  show Steps p.tables e below (T0.setTop (mkF m 168 #[s0, s1, .val (.int i2), s3, s4, s5, s6, s7, s8, s9, .val (.long j10), .second, s12, s13, s14, s15, s16, s17, s18, s19, s20, s21, s22, s23, s24, s25, s26, s27, s28, s29, s30, s31, s32, s33, s34, s35, s36, s37, .val (.ref o38)] [])) _
  refine XS.aload X0.here hx rfl (hb hby at_168) rfl rfl ?_
  show Steps p.tables e below (T0.setTop (mkF m 170 #[s0, s1, .val (.int i2), s3, s4, s5, s6, s7, s8, s9, .val (.long j10), .second, s12, s13, s14, s15, s16, s17, s18, s19, s20, s21, s22, s23, s24, s25, s26, s27, s28, s29, s30, s31, s32, s33, s34, s35, s36, s37, .val (.ref o38)] [(.ref o38)])) _
  refine XS.iloadN X0.here hx rfl (hb hby at_170) rfl ?_
  show Steps p.tables e below (T0.setTop (mkF m 171 #[s0, s1, .val (.int i2), s3, s4, s5, s6, s7, s8, s9, .val (.long j10), .second, s12, s13, s14, s15, s16, s17, s18, s19, s20, s21, s22, s23, s24, s25, s26, s27, s28, s29, s30, s31, s32, s33, s34, s35, s36, s37, .val (.ref o38)] [(.int i2), (.ref o38)])) _
  refine XS.iconst X0.here hx rfl (hb hby at_171) ?_
  show Steps p.tables e below (T0.setTop (mkF m 172 #[s0, s1, .val (.int i2), s3, s4, s5, s6, s7, s8, s9, .val (.long j10), .second, s12, s13, s14, s15, s16, s17, s18, s19, s20, s21, s22, s23, s24, s25, s26, s27, s28, s29, s30, s31, s32, s33, s34, s35, s36, s37, .val (.ref o38)] [(.int (2 : Int32)), (.int i2), (.ref o38)])) _
  refine XS.lload X0.here hx rfl (hb hby at_172) rfl ?_
  show Steps p.tables e below (T0.setTop (mkF m 174 #[s0, s1, .val (.int i2), s3, s4, s5, s6, s7, s8, s9, .val (.long j10), .second, s12, s13, s14, s15, s16, s17, s18, s19, s20, s21, s22, s23, s24, s25, s26, s27, s28, s29, s30, s31, s32, s33, s34, s35, s36, s37, .val (.ref o38)] [(.long j10), (.int (2 : Int32)), (.int i2), (.ref o38)])) _
  refine st3 _ ?_
  show Steps p.tables e below (T3.setTop (mkF m 177 #[s0, s1, .val (.int i2), s3, s4, s5, s6, s7, s8, s9, .val (.long j10), .second, s12, s13, s14, s15, s16, s17, s18, s19, s20, s21, s22, s23, s24, s25, s26, s27, s28, s29, s30, s31, s32, s33, s34, s35, s36, s37, .val (.ref o38)] [(.int (1 : Int32))])) _
  refine XS.ifNo X3.here hx rfl (hb hby at_177) rfl ((if0 _ _).trans (feq (by decide : ¬ ((1 : Int32) = (0 : Int32)))).1) ?_
  exact kt
set_option maxRecDepth 65536 in
set_option maxHeartbeats 40000000 in
theorem tn0_ck3 {p : Program} {l : Launch} {e : Env} {s : State} {m : MethodId} {args : Array Value} {below : List Frame} {meth : Method} {c : Code} {T0 : State} {locs : List Loc} {Z : State} {a0 : Array Value} {h0 : Heap} (s0 : Slot) (s1 : Slot) (i2 : Int32) (s3 : Slot) (s4 : Slot) (s5 : Slot) (s6 : Slot) (s7 : Slot) (s8 : Slot) (s9 : Slot) (s10 : Slot) (s11 : Slot) (j12 : Int64) (s14 : Slot) (s15 : Slot) (s16 : Slot) (s17 : Slot) (s18 : Slot) (s19 : Slot) (s20 : Slot) (s21 : Slot) (s22 : Slot) (s23 : Slot) (s24 : Slot) (s25 : Slot) (s26 : Slot) (s27 : Slot) (s28 : Slot) (s29 : Slot) (s30 : Slot) (s31 : Slot) (s32 : Slot) (s33 : Slot) (s34 : Slot) (s35 : Slot) (s36 : Slot) (s37 : Slot) (o38 : Addr)
    (X0 : Stand p l e room_1 s m args below meth c T0 locs 1 16) (hx : p.tables.exec = Jvm.exec) (hZ : Z.Warmed39 s.vm) (hw : ∀ d ∈ tables_1, d.before a0 Z = true) (hby : c.code = code) (hml : c.maxLocals = 39) (hown : s.vm.findClass "facedown/CombinationsUpToPinLaw" = some m.cls) (e0 : T0.heap = h0) (n0 : Nat) (Z0 : n0 ≤ h0.size) (N0 : Fr n0 locs) (hok : i2 < (3 : Int32) ∨ own_vis Z h0 o38 (3 : Int32) j12) :
    ∃ (T' : State) (locs' : List Loc), Stand p l e room_1 s m args below meth c T' locs' 1 16 ∧ Fr n0 locs' ∧ T'.heap = h0 ∧
      ∀ target, Steps p.tables e below (T'.setTop (mkF m 192 #[s0, s1, .val (.int i2), s3, s4, s5, s6, s7, s8, s9, s10, s11, .val (.long j12), .second, s14, s15, s16, s17, s18, s19, s20, s21, s22, s23, s24, s25, s26, s27, s28, s29, s30, s31, s32, s33, s34, s35, s36, s37, .val (.ref o38)] [])) target → Steps p.tables e below (T0.setTop (mkF m 180 #[s0, s1, .val (.int i2), s3, s4, s5, s6, s7, s8, s9, s10, s11, .val (.long j12), .second, s14, s15, s16, s17, s18, s19, s20, s21, s22, s23, s24, s25, s26, s27, s28, s29, s30, s31, s32, s33, s34, s35, s36, s37, .val (.ref o38)] [])) target := by
  obtain ⟨_, _, ⟨T3, L3, k3, n3⟩, -, X3, ⟨Lc3, hQ3, l3, y3, z3⟩, st3⟩ := Jvm.LawKit.callS X0 hx (y := (⟨"facedown/CombinationsUpToPinLaw", "ok", "([JIIJ)Z"⟩ : MethodName)) hown (mvT hZ (hw _ (List.mem_of_getElem? (i := 5) rfl))) (mvT hZ (hw _ (List.mem_of_getElem? (i := 6) rfl))) (mvT hZ (hw _ (List.mem_of_getElem? (i := 7) rfl))) (mvT hZ (hw _ (List.mem_of_getElem? (i := 8) rfl))) (by decide) (backOf (W := 0) (rm2 l Z a0 hw [] o38 i2 (3 : Int32) j12 h0 n0 Z0 hok) hZ (hw _ (List.mem_of_getElem? (i := 8) rfl)) (hw _ (List.mem_of_getElem? (i := 7) rfl)) (by decide) (by decide)) (g := (mkF m 186 #[s0, s1, .val (.int i2), s3, s4, s5, s6, s7, s8, s9, s10, s11, .val (.long j12), .second, s14, s15, s16, s17, s18, s19, s20, s21, s22, s23, s24, s25, s26, s27, s28, s29, s30, s31, s32, s33, s34, s35, s36, s37, .val (.ref o38)] [(.long j12), (.int (3 : Int32)), (.int i2), (.ref o38)])) rfl (by rw [hml]; rfl) (argsL := [(.ref o38), (.int i2), (.int (3 : Int32)), (.long j12)]) (rest := []) (lenOf pd_0_1 rfl) rfl (by show 2 * 0 + _ ≤ _; exact Nat.le_of_eq rfl) (hb hby at_186) (fun _ _ => ⟨rfl, e0, (by decide : 1 + 0 ≤ _), (by decide : 16 + 0 ≤ _)⟩)
  dsimp only [Pt.U, Pt.locs, Pt.cells, Pt.slots] at X3 l3 y3 z3 st3 hQ3
  subst l3 y3 z3
  obtain ⟨rfl, N3q, e3q⟩ := hQ3
  have N3 := Fr.app N0 N3q
  refine ⟨T3, _, X3, N3, e3q, fun target kt => ?_⟩
  show Steps p.tables e below (T0.setTop (mkF m 180 #[s0, s1, .val (.int i2), s3, s4, s5, s6, s7, s8, s9, s10, s11, .val (.long j12), .second, s14, s15, s16, s17, s18, s19, s20, s21, s22, s23, s24, s25, s26, s27, s28, s29, s30, s31, s32, s33, s34, s35, s36, s37, .val (.ref o38)] [])) _
  refine XS.aload X0.here hx rfl (hb hby at_180) rfl rfl ?_
  show Steps p.tables e below (T0.setTop (mkF m 182 #[s0, s1, .val (.int i2), s3, s4, s5, s6, s7, s8, s9, s10, s11, .val (.long j12), .second, s14, s15, s16, s17, s18, s19, s20, s21, s22, s23, s24, s25, s26, s27, s28, s29, s30, s31, s32, s33, s34, s35, s36, s37, .val (.ref o38)] [(.ref o38)])) _
  refine XS.iloadN X0.here hx rfl (hb hby at_182) rfl ?_
  show Steps p.tables e below (T0.setTop (mkF m 183 #[s0, s1, .val (.int i2), s3, s4, s5, s6, s7, s8, s9, s10, s11, .val (.long j12), .second, s14, s15, s16, s17, s18, s19, s20, s21, s22, s23, s24, s25, s26, s27, s28, s29, s30, s31, s32, s33, s34, s35, s36, s37, .val (.ref o38)] [(.int i2), (.ref o38)])) _
  refine XS.iconst X0.here hx rfl (hb hby at_183) ?_
  show Steps p.tables e below (T0.setTop (mkF m 184 #[s0, s1, .val (.int i2), s3, s4, s5, s6, s7, s8, s9, s10, s11, .val (.long j12), .second, s14, s15, s16, s17, s18, s19, s20, s21, s22, s23, s24, s25, s26, s27, s28, s29, s30, s31, s32, s33, s34, s35, s36, s37, .val (.ref o38)] [(.int (3 : Int32)), (.int i2), (.ref o38)])) _
  refine XS.lload X0.here hx rfl (hb hby at_184) rfl ?_
  show Steps p.tables e below (T0.setTop (mkF m 186 #[s0, s1, .val (.int i2), s3, s4, s5, s6, s7, s8, s9, s10, s11, .val (.long j12), .second, s14, s15, s16, s17, s18, s19, s20, s21, s22, s23, s24, s25, s26, s27, s28, s29, s30, s31, s32, s33, s34, s35, s36, s37, .val (.ref o38)] [(.long j12), (.int (3 : Int32)), (.int i2), (.ref o38)])) _
  refine st3 _ ?_
  show Steps p.tables e below (T3.setTop (mkF m 189 #[s0, s1, .val (.int i2), s3, s4, s5, s6, s7, s8, s9, s10, s11, .val (.long j12), .second, s14, s15, s16, s17, s18, s19, s20, s21, s22, s23, s24, s25, s26, s27, s28, s29, s30, s31, s32, s33, s34, s35, s36, s37, .val (.ref o38)] [(.int (1 : Int32))])) _
  refine XS.ifNo X3.here hx rfl (hb hby at_189) rfl ((if0 _ _).trans (feq (by decide : ¬ ((1 : Int32) = (0 : Int32)))).1) ?_
  exact kt
set_option maxRecDepth 65536 in
set_option maxHeartbeats 40000000 in
theorem tn0_ck4 {p : Program} {l : Launch} {e : Env} {s : State} {m : MethodId} {args : Array Value} {below : List Frame} {meth : Method} {c : Code} {T0 : State} {locs : List Loc} {Z : State} {a0 : Array Value} {h0 : Heap} (s0 : Slot) (s1 : Slot) (i2 : Int32) (s3 : Slot) (s4 : Slot) (s5 : Slot) (s6 : Slot) (s7 : Slot) (s8 : Slot) (s9 : Slot) (s10 : Slot) (s11 : Slot) (s12 : Slot) (s13 : Slot) (j14 : Int64) (s16 : Slot) (s17 : Slot) (s18 : Slot) (s19 : Slot) (s20 : Slot) (s21 : Slot) (s22 : Slot) (s23 : Slot) (s24 : Slot) (s25 : Slot) (s26 : Slot) (s27 : Slot) (s28 : Slot) (s29 : Slot) (s30 : Slot) (s31 : Slot) (s32 : Slot) (s33 : Slot) (s34 : Slot) (s35 : Slot) (s36 : Slot) (s37 : Slot) (o38 : Addr)
    (X0 : Stand p l e room_1 s m args below meth c T0 locs 1 16) (hx : p.tables.exec = Jvm.exec) (hZ : Z.Warmed39 s.vm) (hw : ∀ d ∈ tables_1, d.before a0 Z = true) (hby : c.code = code) (hml : c.maxLocals = 39) (hown : s.vm.findClass "facedown/CombinationsUpToPinLaw" = some m.cls) (e0 : T0.heap = h0) (n0 : Nat) (Z0 : n0 ≤ h0.size) (N0 : Fr n0 locs) (hok : i2 < (4 : Int32) ∨ own_vis Z h0 o38 (4 : Int32) j14) :
    ∃ (T' : State) (locs' : List Loc), Stand p l e room_1 s m args below meth c T' locs' 1 16 ∧ Fr n0 locs' ∧ T'.heap = h0 ∧
      ∀ target, Steps p.tables e below (T'.setTop (mkF m 204 #[s0, s1, .val (.int i2), s3, s4, s5, s6, s7, s8, s9, s10, s11, s12, s13, .val (.long j14), .second, s16, s17, s18, s19, s20, s21, s22, s23, s24, s25, s26, s27, s28, s29, s30, s31, s32, s33, s34, s35, s36, s37, .val (.ref o38)] [])) target → Steps p.tables e below (T0.setTop (mkF m 192 #[s0, s1, .val (.int i2), s3, s4, s5, s6, s7, s8, s9, s10, s11, s12, s13, .val (.long j14), .second, s16, s17, s18, s19, s20, s21, s22, s23, s24, s25, s26, s27, s28, s29, s30, s31, s32, s33, s34, s35, s36, s37, .val (.ref o38)] [])) target := by
  obtain ⟨_, _, ⟨T3, L3, k3, n3⟩, -, X3, ⟨Lc3, hQ3, l3, y3, z3⟩, st3⟩ := Jvm.LawKit.callS X0 hx (y := (⟨"facedown/CombinationsUpToPinLaw", "ok", "([JIIJ)Z"⟩ : MethodName)) hown (mvT hZ (hw _ (List.mem_of_getElem? (i := 5) rfl))) (mvT hZ (hw _ (List.mem_of_getElem? (i := 6) rfl))) (mvT hZ (hw _ (List.mem_of_getElem? (i := 7) rfl))) (mvT hZ (hw _ (List.mem_of_getElem? (i := 8) rfl))) (by decide) (backOf (W := 0) (rm2 l Z a0 hw [] o38 i2 (4 : Int32) j14 h0 n0 Z0 hok) hZ (hw _ (List.mem_of_getElem? (i := 8) rfl)) (hw _ (List.mem_of_getElem? (i := 7) rfl)) (by decide) (by decide)) (g := (mkF m 198 #[s0, s1, .val (.int i2), s3, s4, s5, s6, s7, s8, s9, s10, s11, s12, s13, .val (.long j14), .second, s16, s17, s18, s19, s20, s21, s22, s23, s24, s25, s26, s27, s28, s29, s30, s31, s32, s33, s34, s35, s36, s37, .val (.ref o38)] [(.long j14), (.int (4 : Int32)), (.int i2), (.ref o38)])) rfl (by rw [hml]; rfl) (argsL := [(.ref o38), (.int i2), (.int (4 : Int32)), (.long j14)]) (rest := []) (lenOf pd_0_1 rfl) rfl (by show 2 * 0 + _ ≤ _; exact Nat.le_of_eq rfl) (hb hby at_198) (fun _ _ => ⟨rfl, e0, (by decide : 1 + 0 ≤ _), (by decide : 16 + 0 ≤ _)⟩)
  dsimp only [Pt.U, Pt.locs, Pt.cells, Pt.slots] at X3 l3 y3 z3 st3 hQ3
  subst l3 y3 z3
  obtain ⟨rfl, N3q, e3q⟩ := hQ3
  have N3 := Fr.app N0 N3q
  refine ⟨T3, _, X3, N3, e3q, fun target kt => ?_⟩
  show Steps p.tables e below (T0.setTop (mkF m 192 #[s0, s1, .val (.int i2), s3, s4, s5, s6, s7, s8, s9, s10, s11, s12, s13, .val (.long j14), .second, s16, s17, s18, s19, s20, s21, s22, s23, s24, s25, s26, s27, s28, s29, s30, s31, s32, s33, s34, s35, s36, s37, .val (.ref o38)] [])) _
  refine XS.aload X0.here hx rfl (hb hby at_192) rfl rfl ?_
  show Steps p.tables e below (T0.setTop (mkF m 194 #[s0, s1, .val (.int i2), s3, s4, s5, s6, s7, s8, s9, s10, s11, s12, s13, .val (.long j14), .second, s16, s17, s18, s19, s20, s21, s22, s23, s24, s25, s26, s27, s28, s29, s30, s31, s32, s33, s34, s35, s36, s37, .val (.ref o38)] [(.ref o38)])) _
  refine XS.iloadN X0.here hx rfl (hb hby at_194) rfl ?_
  show Steps p.tables e below (T0.setTop (mkF m 195 #[s0, s1, .val (.int i2), s3, s4, s5, s6, s7, s8, s9, s10, s11, s12, s13, .val (.long j14), .second, s16, s17, s18, s19, s20, s21, s22, s23, s24, s25, s26, s27, s28, s29, s30, s31, s32, s33, s34, s35, s36, s37, .val (.ref o38)] [(.int i2), (.ref o38)])) _
  refine XS.iconst X0.here hx rfl (hb hby at_195) ?_
  show Steps p.tables e below (T0.setTop (mkF m 196 #[s0, s1, .val (.int i2), s3, s4, s5, s6, s7, s8, s9, s10, s11, s12, s13, .val (.long j14), .second, s16, s17, s18, s19, s20, s21, s22, s23, s24, s25, s26, s27, s28, s29, s30, s31, s32, s33, s34, s35, s36, s37, .val (.ref o38)] [(.int (4 : Int32)), (.int i2), (.ref o38)])) _
  refine XS.lload X0.here hx rfl (hb hby at_196) rfl ?_
  show Steps p.tables e below (T0.setTop (mkF m 198 #[s0, s1, .val (.int i2), s3, s4, s5, s6, s7, s8, s9, s10, s11, s12, s13, .val (.long j14), .second, s16, s17, s18, s19, s20, s21, s22, s23, s24, s25, s26, s27, s28, s29, s30, s31, s32, s33, s34, s35, s36, s37, .val (.ref o38)] [(.long j14), (.int (4 : Int32)), (.int i2), (.ref o38)])) _
  refine st3 _ ?_
  show Steps p.tables e below (T3.setTop (mkF m 201 #[s0, s1, .val (.int i2), s3, s4, s5, s6, s7, s8, s9, s10, s11, s12, s13, .val (.long j14), .second, s16, s17, s18, s19, s20, s21, s22, s23, s24, s25, s26, s27, s28, s29, s30, s31, s32, s33, s34, s35, s36, s37, .val (.ref o38)] [(.int (1 : Int32))])) _
  refine XS.ifNo X3.here hx rfl (hb hby at_201) rfl ((if0 _ _).trans (feq (by decide : ¬ ((1 : Int32) = (0 : Int32)))).1) ?_
  exact kt
set_option maxRecDepth 65536 in
set_option maxHeartbeats 40000000 in
theorem tn0_ck5 {p : Program} {l : Launch} {e : Env} {s : State} {m : MethodId} {args : Array Value} {below : List Frame} {meth : Method} {c : Code} {T0 : State} {locs : List Loc} {Z : State} {a0 : Array Value} {h0 : Heap} (s0 : Slot) (s1 : Slot) (i2 : Int32) (s3 : Slot) (s4 : Slot) (s5 : Slot) (s6 : Slot) (s7 : Slot) (s8 : Slot) (s9 : Slot) (s10 : Slot) (s11 : Slot) (s12 : Slot) (s13 : Slot) (s14 : Slot) (s15 : Slot) (j16 : Int64) (s18 : Slot) (s19 : Slot) (s20 : Slot) (s21 : Slot) (s22 : Slot) (s23 : Slot) (s24 : Slot) (s25 : Slot) (s26 : Slot) (s27 : Slot) (s28 : Slot) (s29 : Slot) (s30 : Slot) (s31 : Slot) (s32 : Slot) (s33 : Slot) (s34 : Slot) (s35 : Slot) (s36 : Slot) (s37 : Slot) (o38 : Addr)
    (X0 : Stand p l e room_1 s m args below meth c T0 locs 1 16) (hx : p.tables.exec = Jvm.exec) (hZ : Z.Warmed39 s.vm) (hw : ∀ d ∈ tables_1, d.before a0 Z = true) (hby : c.code = code) (hml : c.maxLocals = 39) (hown : s.vm.findClass "facedown/CombinationsUpToPinLaw" = some m.cls) (e0 : T0.heap = h0) (n0 : Nat) (Z0 : n0 ≤ h0.size) (N0 : Fr n0 locs) (hok : i2 < (5 : Int32) ∨ own_vis Z h0 o38 (5 : Int32) j16) :
    ∃ (T' : State) (locs' : List Loc), Stand p l e room_1 s m args below meth c T' locs' 1 16 ∧ Fr n0 locs' ∧ T'.heap = h0 ∧
      ∀ target, Steps p.tables e below (T'.setTop (mkF m 216 #[s0, s1, .val (.int i2), s3, s4, s5, s6, s7, s8, s9, s10, s11, s12, s13, s14, s15, .val (.long j16), .second, s18, s19, s20, s21, s22, s23, s24, s25, s26, s27, s28, s29, s30, s31, s32, s33, s34, s35, s36, s37, .val (.ref o38)] [])) target → Steps p.tables e below (T0.setTop (mkF m 204 #[s0, s1, .val (.int i2), s3, s4, s5, s6, s7, s8, s9, s10, s11, s12, s13, s14, s15, .val (.long j16), .second, s18, s19, s20, s21, s22, s23, s24, s25, s26, s27, s28, s29, s30, s31, s32, s33, s34, s35, s36, s37, .val (.ref o38)] [])) target := by
  obtain ⟨_, _, ⟨T3, L3, k3, n3⟩, -, X3, ⟨Lc3, hQ3, l3, y3, z3⟩, st3⟩ := Jvm.LawKit.callS X0 hx (y := (⟨"facedown/CombinationsUpToPinLaw", "ok", "([JIIJ)Z"⟩ : MethodName)) hown (mvT hZ (hw _ (List.mem_of_getElem? (i := 5) rfl))) (mvT hZ (hw _ (List.mem_of_getElem? (i := 6) rfl))) (mvT hZ (hw _ (List.mem_of_getElem? (i := 7) rfl))) (mvT hZ (hw _ (List.mem_of_getElem? (i := 8) rfl))) (by decide) (backOf (W := 0) (rm2 l Z a0 hw [] o38 i2 (5 : Int32) j16 h0 n0 Z0 hok) hZ (hw _ (List.mem_of_getElem? (i := 8) rfl)) (hw _ (List.mem_of_getElem? (i := 7) rfl)) (by decide) (by decide)) (g := (mkF m 210 #[s0, s1, .val (.int i2), s3, s4, s5, s6, s7, s8, s9, s10, s11, s12, s13, s14, s15, .val (.long j16), .second, s18, s19, s20, s21, s22, s23, s24, s25, s26, s27, s28, s29, s30, s31, s32, s33, s34, s35, s36, s37, .val (.ref o38)] [(.long j16), (.int (5 : Int32)), (.int i2), (.ref o38)])) rfl (by rw [hml]; rfl) (argsL := [(.ref o38), (.int i2), (.int (5 : Int32)), (.long j16)]) (rest := []) (lenOf pd_0_1 rfl) rfl (by show 2 * 0 + _ ≤ _; exact Nat.le_of_eq rfl) (hb hby at_210) (fun _ _ => ⟨rfl, e0, (by decide : 1 + 0 ≤ _), (by decide : 16 + 0 ≤ _)⟩)
  dsimp only [Pt.U, Pt.locs, Pt.cells, Pt.slots] at X3 l3 y3 z3 st3 hQ3
  subst l3 y3 z3
  obtain ⟨rfl, N3q, e3q⟩ := hQ3
  have N3 := Fr.app N0 N3q
  refine ⟨T3, _, X3, N3, e3q, fun target kt => ?_⟩
  show Steps p.tables e below (T0.setTop (mkF m 204 #[s0, s1, .val (.int i2), s3, s4, s5, s6, s7, s8, s9, s10, s11, s12, s13, s14, s15, .val (.long j16), .second, s18, s19, s20, s21, s22, s23, s24, s25, s26, s27, s28, s29, s30, s31, s32, s33, s34, s35, s36, s37, .val (.ref o38)] [])) _
  refine XS.aload X0.here hx rfl (hb hby at_204) rfl rfl ?_
  show Steps p.tables e below (T0.setTop (mkF m 206 #[s0, s1, .val (.int i2), s3, s4, s5, s6, s7, s8, s9, s10, s11, s12, s13, s14, s15, .val (.long j16), .second, s18, s19, s20, s21, s22, s23, s24, s25, s26, s27, s28, s29, s30, s31, s32, s33, s34, s35, s36, s37, .val (.ref o38)] [(.ref o38)])) _
  refine XS.iloadN X0.here hx rfl (hb hby at_206) rfl ?_
  show Steps p.tables e below (T0.setTop (mkF m 207 #[s0, s1, .val (.int i2), s3, s4, s5, s6, s7, s8, s9, s10, s11, s12, s13, s14, s15, .val (.long j16), .second, s18, s19, s20, s21, s22, s23, s24, s25, s26, s27, s28, s29, s30, s31, s32, s33, s34, s35, s36, s37, .val (.ref o38)] [(.int i2), (.ref o38)])) _
  refine XS.iconst X0.here hx rfl (hb hby at_207) ?_
  show Steps p.tables e below (T0.setTop (mkF m 208 #[s0, s1, .val (.int i2), s3, s4, s5, s6, s7, s8, s9, s10, s11, s12, s13, s14, s15, .val (.long j16), .second, s18, s19, s20, s21, s22, s23, s24, s25, s26, s27, s28, s29, s30, s31, s32, s33, s34, s35, s36, s37, .val (.ref o38)] [(.int (5 : Int32)), (.int i2), (.ref o38)])) _
  refine XS.lload X0.here hx rfl (hb hby at_208) rfl ?_
  show Steps p.tables e below (T0.setTop (mkF m 210 #[s0, s1, .val (.int i2), s3, s4, s5, s6, s7, s8, s9, s10, s11, s12, s13, s14, s15, .val (.long j16), .second, s18, s19, s20, s21, s22, s23, s24, s25, s26, s27, s28, s29, s30, s31, s32, s33, s34, s35, s36, s37, .val (.ref o38)] [(.long j16), (.int (5 : Int32)), (.int i2), (.ref o38)])) _
  refine st3 _ ?_
  show Steps p.tables e below (T3.setTop (mkF m 213 #[s0, s1, .val (.int i2), s3, s4, s5, s6, s7, s8, s9, s10, s11, s12, s13, s14, s15, .val (.long j16), .second, s18, s19, s20, s21, s22, s23, s24, s25, s26, s27, s28, s29, s30, s31, s32, s33, s34, s35, s36, s37, .val (.ref o38)] [(.int (1 : Int32))])) _
  refine XS.ifNo X3.here hx rfl (hb hby at_213) rfl ((if0 _ _).trans (feq (by decide : ¬ ((1 : Int32) = (0 : Int32)))).1) ?_
  exact kt
set_option maxRecDepth 65536 in
set_option maxHeartbeats 40000000 in
theorem tn0_ck6 {p : Program} {l : Launch} {e : Env} {s : State} {m : MethodId} {args : Array Value} {below : List Frame} {meth : Method} {c : Code} {T0 : State} {locs : List Loc} {Z : State} {a0 : Array Value} {h0 : Heap} (s0 : Slot) (s1 : Slot) (i2 : Int32) (s3 : Slot) (s4 : Slot) (s5 : Slot) (s6 : Slot) (s7 : Slot) (s8 : Slot) (s9 : Slot) (s10 : Slot) (s11 : Slot) (s12 : Slot) (s13 : Slot) (s14 : Slot) (s15 : Slot) (s16 : Slot) (s17 : Slot) (j18 : Int64) (s20 : Slot) (s21 : Slot) (s22 : Slot) (s23 : Slot) (s24 : Slot) (s25 : Slot) (s26 : Slot) (s27 : Slot) (s28 : Slot) (s29 : Slot) (s30 : Slot) (s31 : Slot) (s32 : Slot) (s33 : Slot) (s34 : Slot) (s35 : Slot) (s36 : Slot) (s37 : Slot) (o38 : Addr)
    (X0 : Stand p l e room_1 s m args below meth c T0 locs 1 16) (hx : p.tables.exec = Jvm.exec) (hZ : Z.Warmed39 s.vm) (hw : ∀ d ∈ tables_1, d.before a0 Z = true) (hby : c.code = code) (hml : c.maxLocals = 39) (hown : s.vm.findClass "facedown/CombinationsUpToPinLaw" = some m.cls) (e0 : T0.heap = h0) (n0 : Nat) (Z0 : n0 ≤ h0.size) (N0 : Fr n0 locs) (hok : i2 < (6 : Int32) ∨ own_vis Z h0 o38 (6 : Int32) j18) :
    ∃ (T' : State) (locs' : List Loc), Stand p l e room_1 s m args below meth c T' locs' 1 16 ∧ Fr n0 locs' ∧ T'.heap = h0 ∧
      ∀ target, Steps p.tables e below (T'.setTop (mkF m 229 #[s0, s1, .val (.int i2), s3, s4, s5, s6, s7, s8, s9, s10, s11, s12, s13, s14, s15, s16, s17, .val (.long j18), .second, s20, s21, s22, s23, s24, s25, s26, s27, s28, s29, s30, s31, s32, s33, s34, s35, s36, s37, .val (.ref o38)] [])) target → Steps p.tables e below (T0.setTop (mkF m 216 #[s0, s1, .val (.int i2), s3, s4, s5, s6, s7, s8, s9, s10, s11, s12, s13, s14, s15, s16, s17, .val (.long j18), .second, s20, s21, s22, s23, s24, s25, s26, s27, s28, s29, s30, s31, s32, s33, s34, s35, s36, s37, .val (.ref o38)] [])) target := by
  obtain ⟨_, _, ⟨T3, L3, k3, n3⟩, -, X3, ⟨Lc3, hQ3, l3, y3, z3⟩, st3⟩ := Jvm.LawKit.callS X0 hx (y := (⟨"facedown/CombinationsUpToPinLaw", "ok", "([JIIJ)Z"⟩ : MethodName)) hown (mvT hZ (hw _ (List.mem_of_getElem? (i := 5) rfl))) (mvT hZ (hw _ (List.mem_of_getElem? (i := 6) rfl))) (mvT hZ (hw _ (List.mem_of_getElem? (i := 7) rfl))) (mvT hZ (hw _ (List.mem_of_getElem? (i := 8) rfl))) (by decide) (backOf (W := 0) (rm2 l Z a0 hw [] o38 i2 (6 : Int32) j18 h0 n0 Z0 hok) hZ (hw _ (List.mem_of_getElem? (i := 8) rfl)) (hw _ (List.mem_of_getElem? (i := 7) rfl)) (by decide) (by decide)) (g := (mkF m 223 #[s0, s1, .val (.int i2), s3, s4, s5, s6, s7, s8, s9, s10, s11, s12, s13, s14, s15, s16, s17, .val (.long j18), .second, s20, s21, s22, s23, s24, s25, s26, s27, s28, s29, s30, s31, s32, s33, s34, s35, s36, s37, .val (.ref o38)] [(.long j18), (.int (6 : Int32)), (.int i2), (.ref o38)])) rfl (by rw [hml]; rfl) (argsL := [(.ref o38), (.int i2), (.int (6 : Int32)), (.long j18)]) (rest := []) (lenOf pd_0_1 rfl) rfl (by show 2 * 0 + _ ≤ _; exact Nat.le_of_eq rfl) (hb hby at_223) (fun _ _ => ⟨rfl, e0, (by decide : 1 + 0 ≤ _), (by decide : 16 + 0 ≤ _)⟩)
  dsimp only [Pt.U, Pt.locs, Pt.cells, Pt.slots] at X3 l3 y3 z3 st3 hQ3
  subst l3 y3 z3
  obtain ⟨rfl, N3q, e3q⟩ := hQ3
  have N3 := Fr.app N0 N3q
  refine ⟨T3, _, X3, N3, e3q, fun target kt => ?_⟩
  show Steps p.tables e below (T0.setTop (mkF m 216 #[s0, s1, .val (.int i2), s3, s4, s5, s6, s7, s8, s9, s10, s11, s12, s13, s14, s15, s16, s17, .val (.long j18), .second, s20, s21, s22, s23, s24, s25, s26, s27, s28, s29, s30, s31, s32, s33, s34, s35, s36, s37, .val (.ref o38)] [])) _
  refine XS.aload X0.here hx rfl (hb hby at_216) rfl rfl ?_
  show Steps p.tables e below (T0.setTop (mkF m 218 #[s0, s1, .val (.int i2), s3, s4, s5, s6, s7, s8, s9, s10, s11, s12, s13, s14, s15, s16, s17, .val (.long j18), .second, s20, s21, s22, s23, s24, s25, s26, s27, s28, s29, s30, s31, s32, s33, s34, s35, s36, s37, .val (.ref o38)] [(.ref o38)])) _
  refine XS.iloadN X0.here hx rfl (hb hby at_218) rfl ?_
  show Steps p.tables e below (T0.setTop (mkF m 219 #[s0, s1, .val (.int i2), s3, s4, s5, s6, s7, s8, s9, s10, s11, s12, s13, s14, s15, s16, s17, .val (.long j18), .second, s20, s21, s22, s23, s24, s25, s26, s27, s28, s29, s30, s31, s32, s33, s34, s35, s36, s37, .val (.ref o38)] [(.int i2), (.ref o38)])) _
  refine XS.bipush X0.here hx rfl (hb hby at_219) ?_
  show Steps p.tables e below (T0.setTop (mkF m 221 #[s0, s1, .val (.int i2), s3, s4, s5, s6, s7, s8, s9, s10, s11, s12, s13, s14, s15, s16, s17, .val (.long j18), .second, s20, s21, s22, s23, s24, s25, s26, s27, s28, s29, s30, s31, s32, s33, s34, s35, s36, s37, .val (.ref o38)] [(.int (6 : Int32)), (.int i2), (.ref o38)])) _
  refine XS.lload X0.here hx rfl (hb hby at_221) rfl ?_
  show Steps p.tables e below (T0.setTop (mkF m 223 #[s0, s1, .val (.int i2), s3, s4, s5, s6, s7, s8, s9, s10, s11, s12, s13, s14, s15, s16, s17, .val (.long j18), .second, s20, s21, s22, s23, s24, s25, s26, s27, s28, s29, s30, s31, s32, s33, s34, s35, s36, s37, .val (.ref o38)] [(.long j18), (.int (6 : Int32)), (.int i2), (.ref o38)])) _
  refine st3 _ ?_
  show Steps p.tables e below (T3.setTop (mkF m 226 #[s0, s1, .val (.int i2), s3, s4, s5, s6, s7, s8, s9, s10, s11, s12, s13, s14, s15, s16, s17, .val (.long j18), .second, s20, s21, s22, s23, s24, s25, s26, s27, s28, s29, s30, s31, s32, s33, s34, s35, s36, s37, .val (.ref o38)] [(.int (1 : Int32))])) _
  refine XS.ifNo X3.here hx rfl (hb hby at_226) rfl ((if0 _ _).trans (feq (by decide : ¬ ((1 : Int32) = (0 : Int32)))).1) ?_
  exact kt
set_option maxRecDepth 65536 in
set_option maxHeartbeats 40000000 in
theorem tn0_ck7 {p : Program} {l : Launch} {e : Env} {s : State} {m : MethodId} {args : Array Value} {below : List Frame} {meth : Method} {c : Code} {T0 : State} {locs : List Loc} {Z : State} {a0 : Array Value} {h0 : Heap} (s0 : Slot) (s1 : Slot) (i2 : Int32) (s3 : Slot) (s4 : Slot) (s5 : Slot) (s6 : Slot) (s7 : Slot) (s8 : Slot) (s9 : Slot) (s10 : Slot) (s11 : Slot) (s12 : Slot) (s13 : Slot) (s14 : Slot) (s15 : Slot) (s16 : Slot) (s17 : Slot) (s18 : Slot) (s19 : Slot) (j20 : Int64) (s22 : Slot) (s23 : Slot) (s24 : Slot) (s25 : Slot) (s26 : Slot) (s27 : Slot) (s28 : Slot) (s29 : Slot) (s30 : Slot) (s31 : Slot) (s32 : Slot) (s33 : Slot) (s34 : Slot) (s35 : Slot) (s36 : Slot) (s37 : Slot) (o38 : Addr)
    (X0 : Stand p l e room_1 s m args below meth c T0 locs 1 16) (hx : p.tables.exec = Jvm.exec) (hZ : Z.Warmed39 s.vm) (hw : ∀ d ∈ tables_1, d.before a0 Z = true) (hby : c.code = code) (hml : c.maxLocals = 39) (hown : s.vm.findClass "facedown/CombinationsUpToPinLaw" = some m.cls) (e0 : T0.heap = h0) (n0 : Nat) (Z0 : n0 ≤ h0.size) (N0 : Fr n0 locs) (hok : i2 < (7 : Int32) ∨ own_vis Z h0 o38 (7 : Int32) j20) :
    ∃ (T' : State) (locs' : List Loc), Stand p l e room_1 s m args below meth c T' locs' 1 16 ∧ Fr n0 locs' ∧ T'.heap = h0 ∧
      ∀ target, Steps p.tables e below (T'.setTop (mkF m 242 #[s0, s1, .val (.int i2), s3, s4, s5, s6, s7, s8, s9, s10, s11, s12, s13, s14, s15, s16, s17, s18, s19, .val (.long j20), .second, s22, s23, s24, s25, s26, s27, s28, s29, s30, s31, s32, s33, s34, s35, s36, s37, .val (.ref o38)] [])) target → Steps p.tables e below (T0.setTop (mkF m 229 #[s0, s1, .val (.int i2), s3, s4, s5, s6, s7, s8, s9, s10, s11, s12, s13, s14, s15, s16, s17, s18, s19, .val (.long j20), .second, s22, s23, s24, s25, s26, s27, s28, s29, s30, s31, s32, s33, s34, s35, s36, s37, .val (.ref o38)] [])) target := by
  obtain ⟨_, _, ⟨T3, L3, k3, n3⟩, -, X3, ⟨Lc3, hQ3, l3, y3, z3⟩, st3⟩ := Jvm.LawKit.callS X0 hx (y := (⟨"facedown/CombinationsUpToPinLaw", "ok", "([JIIJ)Z"⟩ : MethodName)) hown (mvT hZ (hw _ (List.mem_of_getElem? (i := 5) rfl))) (mvT hZ (hw _ (List.mem_of_getElem? (i := 6) rfl))) (mvT hZ (hw _ (List.mem_of_getElem? (i := 7) rfl))) (mvT hZ (hw _ (List.mem_of_getElem? (i := 8) rfl))) (by decide) (backOf (W := 0) (rm2 l Z a0 hw [] o38 i2 (7 : Int32) j20 h0 n0 Z0 hok) hZ (hw _ (List.mem_of_getElem? (i := 8) rfl)) (hw _ (List.mem_of_getElem? (i := 7) rfl)) (by decide) (by decide)) (g := (mkF m 236 #[s0, s1, .val (.int i2), s3, s4, s5, s6, s7, s8, s9, s10, s11, s12, s13, s14, s15, s16, s17, s18, s19, .val (.long j20), .second, s22, s23, s24, s25, s26, s27, s28, s29, s30, s31, s32, s33, s34, s35, s36, s37, .val (.ref o38)] [(.long j20), (.int (7 : Int32)), (.int i2), (.ref o38)])) rfl (by rw [hml]; rfl) (argsL := [(.ref o38), (.int i2), (.int (7 : Int32)), (.long j20)]) (rest := []) (lenOf pd_0_1 rfl) rfl (by show 2 * 0 + _ ≤ _; exact Nat.le_of_eq rfl) (hb hby at_236) (fun _ _ => ⟨rfl, e0, (by decide : 1 + 0 ≤ _), (by decide : 16 + 0 ≤ _)⟩)
  dsimp only [Pt.U, Pt.locs, Pt.cells, Pt.slots] at X3 l3 y3 z3 st3 hQ3
  subst l3 y3 z3
  obtain ⟨rfl, N3q, e3q⟩ := hQ3
  have N3 := Fr.app N0 N3q
  refine ⟨T3, _, X3, N3, e3q, fun target kt => ?_⟩
  show Steps p.tables e below (T0.setTop (mkF m 229 #[s0, s1, .val (.int i2), s3, s4, s5, s6, s7, s8, s9, s10, s11, s12, s13, s14, s15, s16, s17, s18, s19, .val (.long j20), .second, s22, s23, s24, s25, s26, s27, s28, s29, s30, s31, s32, s33, s34, s35, s36, s37, .val (.ref o38)] [])) _
  refine XS.aload X0.here hx rfl (hb hby at_229) rfl rfl ?_
  show Steps p.tables e below (T0.setTop (mkF m 231 #[s0, s1, .val (.int i2), s3, s4, s5, s6, s7, s8, s9, s10, s11, s12, s13, s14, s15, s16, s17, s18, s19, .val (.long j20), .second, s22, s23, s24, s25, s26, s27, s28, s29, s30, s31, s32, s33, s34, s35, s36, s37, .val (.ref o38)] [(.ref o38)])) _
  refine XS.iloadN X0.here hx rfl (hb hby at_231) rfl ?_
  show Steps p.tables e below (T0.setTop (mkF m 232 #[s0, s1, .val (.int i2), s3, s4, s5, s6, s7, s8, s9, s10, s11, s12, s13, s14, s15, s16, s17, s18, s19, .val (.long j20), .second, s22, s23, s24, s25, s26, s27, s28, s29, s30, s31, s32, s33, s34, s35, s36, s37, .val (.ref o38)] [(.int i2), (.ref o38)])) _
  refine XS.bipush X0.here hx rfl (hb hby at_232) ?_
  show Steps p.tables e below (T0.setTop (mkF m 234 #[s0, s1, .val (.int i2), s3, s4, s5, s6, s7, s8, s9, s10, s11, s12, s13, s14, s15, s16, s17, s18, s19, .val (.long j20), .second, s22, s23, s24, s25, s26, s27, s28, s29, s30, s31, s32, s33, s34, s35, s36, s37, .val (.ref o38)] [(.int (7 : Int32)), (.int i2), (.ref o38)])) _
  refine XS.lload X0.here hx rfl (hb hby at_234) rfl ?_
  show Steps p.tables e below (T0.setTop (mkF m 236 #[s0, s1, .val (.int i2), s3, s4, s5, s6, s7, s8, s9, s10, s11, s12, s13, s14, s15, s16, s17, s18, s19, .val (.long j20), .second, s22, s23, s24, s25, s26, s27, s28, s29, s30, s31, s32, s33, s34, s35, s36, s37, .val (.ref o38)] [(.long j20), (.int (7 : Int32)), (.int i2), (.ref o38)])) _
  refine st3 _ ?_
  show Steps p.tables e below (T3.setTop (mkF m 239 #[s0, s1, .val (.int i2), s3, s4, s5, s6, s7, s8, s9, s10, s11, s12, s13, s14, s15, s16, s17, s18, s19, .val (.long j20), .second, s22, s23, s24, s25, s26, s27, s28, s29, s30, s31, s32, s33, s34, s35, s36, s37, .val (.ref o38)] [(.int (1 : Int32))])) _
  refine XS.ifNo X3.here hx rfl (hb hby at_239) rfl ((if0 _ _).trans (feq (by decide : ¬ ((1 : Int32) = (0 : Int32)))).1) ?_
  exact kt
set_option maxRecDepth 65536 in
set_option maxHeartbeats 40000000 in
theorem tn0_ck8 {p : Program} {l : Launch} {e : Env} {s : State} {m : MethodId} {args : Array Value} {below : List Frame} {meth : Method} {c : Code} {T0 : State} {locs : List Loc} {Z : State} {a0 : Array Value} {h0 : Heap} (s0 : Slot) (s1 : Slot) (i2 : Int32) (s3 : Slot) (s4 : Slot) (s5 : Slot) (s6 : Slot) (s7 : Slot) (s8 : Slot) (s9 : Slot) (s10 : Slot) (s11 : Slot) (s12 : Slot) (s13 : Slot) (s14 : Slot) (s15 : Slot) (s16 : Slot) (s17 : Slot) (s18 : Slot) (s19 : Slot) (s20 : Slot) (s21 : Slot) (j22 : Int64) (s24 : Slot) (s25 : Slot) (s26 : Slot) (s27 : Slot) (s28 : Slot) (s29 : Slot) (s30 : Slot) (s31 : Slot) (s32 : Slot) (s33 : Slot) (s34 : Slot) (s35 : Slot) (s36 : Slot) (s37 : Slot) (o38 : Addr)
    (X0 : Stand p l e room_1 s m args below meth c T0 locs 1 16) (hx : p.tables.exec = Jvm.exec) (hZ : Z.Warmed39 s.vm) (hw : ∀ d ∈ tables_1, d.before a0 Z = true) (hby : c.code = code) (hml : c.maxLocals = 39) (hown : s.vm.findClass "facedown/CombinationsUpToPinLaw" = some m.cls) (e0 : T0.heap = h0) (n0 : Nat) (Z0 : n0 ≤ h0.size) (N0 : Fr n0 locs) (hok : i2 < (8 : Int32) ∨ own_vis Z h0 o38 (8 : Int32) j22) :
    ∃ (T' : State) (locs' : List Loc), Stand p l e room_1 s m args below meth c T' locs' 1 16 ∧ Fr n0 locs' ∧ T'.heap = h0 ∧
      ∀ target, Steps p.tables e below (T'.setTop (mkF m 255 #[s0, s1, .val (.int i2), s3, s4, s5, s6, s7, s8, s9, s10, s11, s12, s13, s14, s15, s16, s17, s18, s19, s20, s21, .val (.long j22), .second, s24, s25, s26, s27, s28, s29, s30, s31, s32, s33, s34, s35, s36, s37, .val (.ref o38)] [])) target → Steps p.tables e below (T0.setTop (mkF m 242 #[s0, s1, .val (.int i2), s3, s4, s5, s6, s7, s8, s9, s10, s11, s12, s13, s14, s15, s16, s17, s18, s19, s20, s21, .val (.long j22), .second, s24, s25, s26, s27, s28, s29, s30, s31, s32, s33, s34, s35, s36, s37, .val (.ref o38)] [])) target := by
  obtain ⟨_, _, ⟨T3, L3, k3, n3⟩, -, X3, ⟨Lc3, hQ3, l3, y3, z3⟩, st3⟩ := Jvm.LawKit.callS X0 hx (y := (⟨"facedown/CombinationsUpToPinLaw", "ok", "([JIIJ)Z"⟩ : MethodName)) hown (mvT hZ (hw _ (List.mem_of_getElem? (i := 5) rfl))) (mvT hZ (hw _ (List.mem_of_getElem? (i := 6) rfl))) (mvT hZ (hw _ (List.mem_of_getElem? (i := 7) rfl))) (mvT hZ (hw _ (List.mem_of_getElem? (i := 8) rfl))) (by decide) (backOf (W := 0) (rm2 l Z a0 hw [] o38 i2 (8 : Int32) j22 h0 n0 Z0 hok) hZ (hw _ (List.mem_of_getElem? (i := 8) rfl)) (hw _ (List.mem_of_getElem? (i := 7) rfl)) (by decide) (by decide)) (g := (mkF m 249 #[s0, s1, .val (.int i2), s3, s4, s5, s6, s7, s8, s9, s10, s11, s12, s13, s14, s15, s16, s17, s18, s19, s20, s21, .val (.long j22), .second, s24, s25, s26, s27, s28, s29, s30, s31, s32, s33, s34, s35, s36, s37, .val (.ref o38)] [(.long j22), (.int (8 : Int32)), (.int i2), (.ref o38)])) rfl (by rw [hml]; rfl) (argsL := [(.ref o38), (.int i2), (.int (8 : Int32)), (.long j22)]) (rest := []) (lenOf pd_0_1 rfl) rfl (by show 2 * 0 + _ ≤ _; exact Nat.le_of_eq rfl) (hb hby at_249) (fun _ _ => ⟨rfl, e0, (by decide : 1 + 0 ≤ _), (by decide : 16 + 0 ≤ _)⟩)
  dsimp only [Pt.U, Pt.locs, Pt.cells, Pt.slots] at X3 l3 y3 z3 st3 hQ3
  subst l3 y3 z3
  obtain ⟨rfl, N3q, e3q⟩ := hQ3
  have N3 := Fr.app N0 N3q
  refine ⟨T3, _, X3, N3, e3q, fun target kt => ?_⟩
  show Steps p.tables e below (T0.setTop (mkF m 242 #[s0, s1, .val (.int i2), s3, s4, s5, s6, s7, s8, s9, s10, s11, s12, s13, s14, s15, s16, s17, s18, s19, s20, s21, .val (.long j22), .second, s24, s25, s26, s27, s28, s29, s30, s31, s32, s33, s34, s35, s36, s37, .val (.ref o38)] [])) _
  refine XS.aload X0.here hx rfl (hb hby at_242) rfl rfl ?_
  show Steps p.tables e below (T0.setTop (mkF m 244 #[s0, s1, .val (.int i2), s3, s4, s5, s6, s7, s8, s9, s10, s11, s12, s13, s14, s15, s16, s17, s18, s19, s20, s21, .val (.long j22), .second, s24, s25, s26, s27, s28, s29, s30, s31, s32, s33, s34, s35, s36, s37, .val (.ref o38)] [(.ref o38)])) _
  refine XS.iloadN X0.here hx rfl (hb hby at_244) rfl ?_
  show Steps p.tables e below (T0.setTop (mkF m 245 #[s0, s1, .val (.int i2), s3, s4, s5, s6, s7, s8, s9, s10, s11, s12, s13, s14, s15, s16, s17, s18, s19, s20, s21, .val (.long j22), .second, s24, s25, s26, s27, s28, s29, s30, s31, s32, s33, s34, s35, s36, s37, .val (.ref o38)] [(.int i2), (.ref o38)])) _
  refine XS.bipush X0.here hx rfl (hb hby at_245) ?_
  show Steps p.tables e below (T0.setTop (mkF m 247 #[s0, s1, .val (.int i2), s3, s4, s5, s6, s7, s8, s9, s10, s11, s12, s13, s14, s15, s16, s17, s18, s19, s20, s21, .val (.long j22), .second, s24, s25, s26, s27, s28, s29, s30, s31, s32, s33, s34, s35, s36, s37, .val (.ref o38)] [(.int (8 : Int32)), (.int i2), (.ref o38)])) _
  refine XS.lload X0.here hx rfl (hb hby at_247) rfl ?_
  show Steps p.tables e below (T0.setTop (mkF m 249 #[s0, s1, .val (.int i2), s3, s4, s5, s6, s7, s8, s9, s10, s11, s12, s13, s14, s15, s16, s17, s18, s19, s20, s21, .val (.long j22), .second, s24, s25, s26, s27, s28, s29, s30, s31, s32, s33, s34, s35, s36, s37, .val (.ref o38)] [(.long j22), (.int (8 : Int32)), (.int i2), (.ref o38)])) _
  refine st3 _ ?_
  show Steps p.tables e below (T3.setTop (mkF m 252 #[s0, s1, .val (.int i2), s3, s4, s5, s6, s7, s8, s9, s10, s11, s12, s13, s14, s15, s16, s17, s18, s19, s20, s21, .val (.long j22), .second, s24, s25, s26, s27, s28, s29, s30, s31, s32, s33, s34, s35, s36, s37, .val (.ref o38)] [(.int (1 : Int32))])) _
  refine XS.ifNo X3.here hx rfl (hb hby at_252) rfl ((if0 _ _).trans (feq (by decide : ¬ ((1 : Int32) = (0 : Int32)))).1) ?_
  exact kt
set_option maxRecDepth 65536 in
set_option maxHeartbeats 40000000 in
theorem tn0_ck9 {p : Program} {l : Launch} {e : Env} {s : State} {m : MethodId} {args : Array Value} {below : List Frame} {meth : Method} {c : Code} {T0 : State} {locs : List Loc} {Z : State} {a0 : Array Value} {h0 : Heap} (s0 : Slot) (s1 : Slot) (i2 : Int32) (s3 : Slot) (s4 : Slot) (s5 : Slot) (s6 : Slot) (s7 : Slot) (s8 : Slot) (s9 : Slot) (s10 : Slot) (s11 : Slot) (s12 : Slot) (s13 : Slot) (s14 : Slot) (s15 : Slot) (s16 : Slot) (s17 : Slot) (s18 : Slot) (s19 : Slot) (s20 : Slot) (s21 : Slot) (s22 : Slot) (s23 : Slot) (j24 : Int64) (s26 : Slot) (s27 : Slot) (s28 : Slot) (s29 : Slot) (s30 : Slot) (s31 : Slot) (s32 : Slot) (s33 : Slot) (s34 : Slot) (s35 : Slot) (s36 : Slot) (s37 : Slot) (o38 : Addr)
    (X0 : Stand p l e room_1 s m args below meth c T0 locs 1 16) (hx : p.tables.exec = Jvm.exec) (hZ : Z.Warmed39 s.vm) (hw : ∀ d ∈ tables_1, d.before a0 Z = true) (hby : c.code = code) (hml : c.maxLocals = 39) (hown : s.vm.findClass "facedown/CombinationsUpToPinLaw" = some m.cls) (e0 : T0.heap = h0) (n0 : Nat) (Z0 : n0 ≤ h0.size) (N0 : Fr n0 locs) (hok : i2 < (9 : Int32) ∨ own_vis Z h0 o38 (9 : Int32) j24) :
    ∃ (T' : State) (locs' : List Loc), Stand p l e room_1 s m args below meth c T' locs' 1 16 ∧ Fr n0 locs' ∧ T'.heap = h0 ∧
      ∀ target, Steps p.tables e below (T'.setTop (mkF m 268 #[s0, s1, .val (.int i2), s3, s4, s5, s6, s7, s8, s9, s10, s11, s12, s13, s14, s15, s16, s17, s18, s19, s20, s21, s22, s23, .val (.long j24), .second, s26, s27, s28, s29, s30, s31, s32, s33, s34, s35, s36, s37, .val (.ref o38)] [])) target → Steps p.tables e below (T0.setTop (mkF m 255 #[s0, s1, .val (.int i2), s3, s4, s5, s6, s7, s8, s9, s10, s11, s12, s13, s14, s15, s16, s17, s18, s19, s20, s21, s22, s23, .val (.long j24), .second, s26, s27, s28, s29, s30, s31, s32, s33, s34, s35, s36, s37, .val (.ref o38)] [])) target := by
  obtain ⟨_, _, ⟨T3, L3, k3, n3⟩, -, X3, ⟨Lc3, hQ3, l3, y3, z3⟩, st3⟩ := Jvm.LawKit.callS X0 hx (y := (⟨"facedown/CombinationsUpToPinLaw", "ok", "([JIIJ)Z"⟩ : MethodName)) hown (mvT hZ (hw _ (List.mem_of_getElem? (i := 5) rfl))) (mvT hZ (hw _ (List.mem_of_getElem? (i := 6) rfl))) (mvT hZ (hw _ (List.mem_of_getElem? (i := 7) rfl))) (mvT hZ (hw _ (List.mem_of_getElem? (i := 8) rfl))) (by decide) (backOf (W := 0) (rm2 l Z a0 hw [] o38 i2 (9 : Int32) j24 h0 n0 Z0 hok) hZ (hw _ (List.mem_of_getElem? (i := 8) rfl)) (hw _ (List.mem_of_getElem? (i := 7) rfl)) (by decide) (by decide)) (g := (mkF m 262 #[s0, s1, .val (.int i2), s3, s4, s5, s6, s7, s8, s9, s10, s11, s12, s13, s14, s15, s16, s17, s18, s19, s20, s21, s22, s23, .val (.long j24), .second, s26, s27, s28, s29, s30, s31, s32, s33, s34, s35, s36, s37, .val (.ref o38)] [(.long j24), (.int (9 : Int32)), (.int i2), (.ref o38)])) rfl (by rw [hml]; rfl) (argsL := [(.ref o38), (.int i2), (.int (9 : Int32)), (.long j24)]) (rest := []) (lenOf pd_0_1 rfl) rfl (by show 2 * 0 + _ ≤ _; exact Nat.le_of_eq rfl) (hb hby at_262) (fun _ _ => ⟨rfl, e0, (by decide : 1 + 0 ≤ _), (by decide : 16 + 0 ≤ _)⟩)
  dsimp only [Pt.U, Pt.locs, Pt.cells, Pt.slots] at X3 l3 y3 z3 st3 hQ3
  subst l3 y3 z3
  obtain ⟨rfl, N3q, e3q⟩ := hQ3
  have N3 := Fr.app N0 N3q
  refine ⟨T3, _, X3, N3, e3q, fun target kt => ?_⟩
  show Steps p.tables e below (T0.setTop (mkF m 255 #[s0, s1, .val (.int i2), s3, s4, s5, s6, s7, s8, s9, s10, s11, s12, s13, s14, s15, s16, s17, s18, s19, s20, s21, s22, s23, .val (.long j24), .second, s26, s27, s28, s29, s30, s31, s32, s33, s34, s35, s36, s37, .val (.ref o38)] [])) _
  refine XS.aload X0.here hx rfl (hb hby at_255) rfl rfl ?_
  show Steps p.tables e below (T0.setTop (mkF m 257 #[s0, s1, .val (.int i2), s3, s4, s5, s6, s7, s8, s9, s10, s11, s12, s13, s14, s15, s16, s17, s18, s19, s20, s21, s22, s23, .val (.long j24), .second, s26, s27, s28, s29, s30, s31, s32, s33, s34, s35, s36, s37, .val (.ref o38)] [(.ref o38)])) _
  refine XS.iloadN X0.here hx rfl (hb hby at_257) rfl ?_
  show Steps p.tables e below (T0.setTop (mkF m 258 #[s0, s1, .val (.int i2), s3, s4, s5, s6, s7, s8, s9, s10, s11, s12, s13, s14, s15, s16, s17, s18, s19, s20, s21, s22, s23, .val (.long j24), .second, s26, s27, s28, s29, s30, s31, s32, s33, s34, s35, s36, s37, .val (.ref o38)] [(.int i2), (.ref o38)])) _
  refine XS.bipush X0.here hx rfl (hb hby at_258) ?_
  show Steps p.tables e below (T0.setTop (mkF m 260 #[s0, s1, .val (.int i2), s3, s4, s5, s6, s7, s8, s9, s10, s11, s12, s13, s14, s15, s16, s17, s18, s19, s20, s21, s22, s23, .val (.long j24), .second, s26, s27, s28, s29, s30, s31, s32, s33, s34, s35, s36, s37, .val (.ref o38)] [(.int (9 : Int32)), (.int i2), (.ref o38)])) _
  refine XS.lload X0.here hx rfl (hb hby at_260) rfl ?_
  show Steps p.tables e below (T0.setTop (mkF m 262 #[s0, s1, .val (.int i2), s3, s4, s5, s6, s7, s8, s9, s10, s11, s12, s13, s14, s15, s16, s17, s18, s19, s20, s21, s22, s23, .val (.long j24), .second, s26, s27, s28, s29, s30, s31, s32, s33, s34, s35, s36, s37, .val (.ref o38)] [(.long j24), (.int (9 : Int32)), (.int i2), (.ref o38)])) _
  refine st3 _ ?_
  show Steps p.tables e below (T3.setTop (mkF m 265 #[s0, s1, .val (.int i2), s3, s4, s5, s6, s7, s8, s9, s10, s11, s12, s13, s14, s15, s16, s17, s18, s19, s20, s21, s22, s23, .val (.long j24), .second, s26, s27, s28, s29, s30, s31, s32, s33, s34, s35, s36, s37, .val (.ref o38)] [(.int (1 : Int32))])) _
  refine XS.ifNo X3.here hx rfl (hb hby at_265) rfl ((if0 _ _).trans (feq (by decide : ¬ ((1 : Int32) = (0 : Int32)))).1) ?_
  exact kt
set_option maxRecDepth 65536 in
set_option maxHeartbeats 40000000 in
theorem tn0_ck10 {p : Program} {l : Launch} {e : Env} {s : State} {m : MethodId} {args : Array Value} {below : List Frame} {meth : Method} {c : Code} {T0 : State} {locs : List Loc} {Z : State} {a0 : Array Value} {h0 : Heap} (s0 : Slot) (s1 : Slot) (i2 : Int32) (s3 : Slot) (s4 : Slot) (s5 : Slot) (s6 : Slot) (s7 : Slot) (s8 : Slot) (s9 : Slot) (s10 : Slot) (s11 : Slot) (s12 : Slot) (s13 : Slot) (s14 : Slot) (s15 : Slot) (s16 : Slot) (s17 : Slot) (s18 : Slot) (s19 : Slot) (s20 : Slot) (s21 : Slot) (s22 : Slot) (s23 : Slot) (s24 : Slot) (s25 : Slot) (j26 : Int64) (s28 : Slot) (s29 : Slot) (s30 : Slot) (s31 : Slot) (s32 : Slot) (s33 : Slot) (s34 : Slot) (s35 : Slot) (s36 : Slot) (s37 : Slot) (o38 : Addr)
    (X0 : Stand p l e room_1 s m args below meth c T0 locs 1 16) (hx : p.tables.exec = Jvm.exec) (hZ : Z.Warmed39 s.vm) (hw : ∀ d ∈ tables_1, d.before a0 Z = true) (hby : c.code = code) (hml : c.maxLocals = 39) (hown : s.vm.findClass "facedown/CombinationsUpToPinLaw" = some m.cls) (e0 : T0.heap = h0) (n0 : Nat) (Z0 : n0 ≤ h0.size) (N0 : Fr n0 locs) (hok : i2 < (10 : Int32) ∨ own_vis Z h0 o38 (10 : Int32) j26) :
    ∃ (T' : State) (locs' : List Loc), Stand p l e room_1 s m args below meth c T' locs' 1 16 ∧ Fr n0 locs' ∧ T'.heap = h0 ∧
      ∀ target, Steps p.tables e below (T'.setTop (mkF m 281 #[s0, s1, .val (.int i2), s3, s4, s5, s6, s7, s8, s9, s10, s11, s12, s13, s14, s15, s16, s17, s18, s19, s20, s21, s22, s23, s24, s25, .val (.long j26), .second, s28, s29, s30, s31, s32, s33, s34, s35, s36, s37, .val (.ref o38)] [])) target → Steps p.tables e below (T0.setTop (mkF m 268 #[s0, s1, .val (.int i2), s3, s4, s5, s6, s7, s8, s9, s10, s11, s12, s13, s14, s15, s16, s17, s18, s19, s20, s21, s22, s23, s24, s25, .val (.long j26), .second, s28, s29, s30, s31, s32, s33, s34, s35, s36, s37, .val (.ref o38)] [])) target := by
  obtain ⟨_, _, ⟨T3, L3, k3, n3⟩, -, X3, ⟨Lc3, hQ3, l3, y3, z3⟩, st3⟩ := Jvm.LawKit.callS X0 hx (y := (⟨"facedown/CombinationsUpToPinLaw", "ok", "([JIIJ)Z"⟩ : MethodName)) hown (mvT hZ (hw _ (List.mem_of_getElem? (i := 5) rfl))) (mvT hZ (hw _ (List.mem_of_getElem? (i := 6) rfl))) (mvT hZ (hw _ (List.mem_of_getElem? (i := 7) rfl))) (mvT hZ (hw _ (List.mem_of_getElem? (i := 8) rfl))) (by decide) (backOf (W := 0) (rm2 l Z a0 hw [] o38 i2 (10 : Int32) j26 h0 n0 Z0 hok) hZ (hw _ (List.mem_of_getElem? (i := 8) rfl)) (hw _ (List.mem_of_getElem? (i := 7) rfl)) (by decide) (by decide)) (g := (mkF m 275 #[s0, s1, .val (.int i2), s3, s4, s5, s6, s7, s8, s9, s10, s11, s12, s13, s14, s15, s16, s17, s18, s19, s20, s21, s22, s23, s24, s25, .val (.long j26), .second, s28, s29, s30, s31, s32, s33, s34, s35, s36, s37, .val (.ref o38)] [(.long j26), (.int (10 : Int32)), (.int i2), (.ref o38)])) rfl (by rw [hml]; rfl) (argsL := [(.ref o38), (.int i2), (.int (10 : Int32)), (.long j26)]) (rest := []) (lenOf pd_0_1 rfl) rfl (by show 2 * 0 + _ ≤ _; exact Nat.le_of_eq rfl) (hb hby at_275) (fun _ _ => ⟨rfl, e0, (by decide : 1 + 0 ≤ _), (by decide : 16 + 0 ≤ _)⟩)
  dsimp only [Pt.U, Pt.locs, Pt.cells, Pt.slots] at X3 l3 y3 z3 st3 hQ3
  subst l3 y3 z3
  obtain ⟨rfl, N3q, e3q⟩ := hQ3
  have N3 := Fr.app N0 N3q
  refine ⟨T3, _, X3, N3, e3q, fun target kt => ?_⟩
  show Steps p.tables e below (T0.setTop (mkF m 268 #[s0, s1, .val (.int i2), s3, s4, s5, s6, s7, s8, s9, s10, s11, s12, s13, s14, s15, s16, s17, s18, s19, s20, s21, s22, s23, s24, s25, .val (.long j26), .second, s28, s29, s30, s31, s32, s33, s34, s35, s36, s37, .val (.ref o38)] [])) _
  refine XS.aload X0.here hx rfl (hb hby at_268) rfl rfl ?_
  show Steps p.tables e below (T0.setTop (mkF m 270 #[s0, s1, .val (.int i2), s3, s4, s5, s6, s7, s8, s9, s10, s11, s12, s13, s14, s15, s16, s17, s18, s19, s20, s21, s22, s23, s24, s25, .val (.long j26), .second, s28, s29, s30, s31, s32, s33, s34, s35, s36, s37, .val (.ref o38)] [(.ref o38)])) _
  refine XS.iloadN X0.here hx rfl (hb hby at_270) rfl ?_
  show Steps p.tables e below (T0.setTop (mkF m 271 #[s0, s1, .val (.int i2), s3, s4, s5, s6, s7, s8, s9, s10, s11, s12, s13, s14, s15, s16, s17, s18, s19, s20, s21, s22, s23, s24, s25, .val (.long j26), .second, s28, s29, s30, s31, s32, s33, s34, s35, s36, s37, .val (.ref o38)] [(.int i2), (.ref o38)])) _
  refine XS.bipush X0.here hx rfl (hb hby at_271) ?_
  show Steps p.tables e below (T0.setTop (mkF m 273 #[s0, s1, .val (.int i2), s3, s4, s5, s6, s7, s8, s9, s10, s11, s12, s13, s14, s15, s16, s17, s18, s19, s20, s21, s22, s23, s24, s25, .val (.long j26), .second, s28, s29, s30, s31, s32, s33, s34, s35, s36, s37, .val (.ref o38)] [(.int (10 : Int32)), (.int i2), (.ref o38)])) _
  refine XS.lload X0.here hx rfl (hb hby at_273) rfl ?_
  show Steps p.tables e below (T0.setTop (mkF m 275 #[s0, s1, .val (.int i2), s3, s4, s5, s6, s7, s8, s9, s10, s11, s12, s13, s14, s15, s16, s17, s18, s19, s20, s21, s22, s23, s24, s25, .val (.long j26), .second, s28, s29, s30, s31, s32, s33, s34, s35, s36, s37, .val (.ref o38)] [(.long j26), (.int (10 : Int32)), (.int i2), (.ref o38)])) _
  refine st3 _ ?_
  show Steps p.tables e below (T3.setTop (mkF m 278 #[s0, s1, .val (.int i2), s3, s4, s5, s6, s7, s8, s9, s10, s11, s12, s13, s14, s15, s16, s17, s18, s19, s20, s21, s22, s23, s24, s25, .val (.long j26), .second, s28, s29, s30, s31, s32, s33, s34, s35, s36, s37, .val (.ref o38)] [(.int (1 : Int32))])) _
  refine XS.ifNo X3.here hx rfl (hb hby at_278) rfl ((if0 _ _).trans (feq (by decide : ¬ ((1 : Int32) = (0 : Int32)))).1) ?_
  exact kt
set_option maxRecDepth 65536 in
set_option maxHeartbeats 40000000 in
theorem tn0_ck11 {p : Program} {l : Launch} {e : Env} {s : State} {m : MethodId} {args : Array Value} {below : List Frame} {meth : Method} {c : Code} {T0 : State} {locs : List Loc} {Z : State} {a0 : Array Value} {h0 : Heap} (s0 : Slot) (s1 : Slot) (i2 : Int32) (s3 : Slot) (s4 : Slot) (s5 : Slot) (s6 : Slot) (s7 : Slot) (s8 : Slot) (s9 : Slot) (s10 : Slot) (s11 : Slot) (s12 : Slot) (s13 : Slot) (s14 : Slot) (s15 : Slot) (s16 : Slot) (s17 : Slot) (s18 : Slot) (s19 : Slot) (s20 : Slot) (s21 : Slot) (s22 : Slot) (s23 : Slot) (s24 : Slot) (s25 : Slot) (s26 : Slot) (s27 : Slot) (j28 : Int64) (s30 : Slot) (s31 : Slot) (s32 : Slot) (s33 : Slot) (s34 : Slot) (s35 : Slot) (s36 : Slot) (s37 : Slot) (o38 : Addr)
    (X0 : Stand p l e room_1 s m args below meth c T0 locs 1 16) (hx : p.tables.exec = Jvm.exec) (hZ : Z.Warmed39 s.vm) (hw : ∀ d ∈ tables_1, d.before a0 Z = true) (hby : c.code = code) (hml : c.maxLocals = 39) (hown : s.vm.findClass "facedown/CombinationsUpToPinLaw" = some m.cls) (e0 : T0.heap = h0) (n0 : Nat) (Z0 : n0 ≤ h0.size) (N0 : Fr n0 locs) (hok : i2 < (11 : Int32) ∨ own_vis Z h0 o38 (11 : Int32) j28) :
    ∃ (T' : State) (locs' : List Loc), Stand p l e room_1 s m args below meth c T' locs' 1 16 ∧ Fr n0 locs' ∧ T'.heap = h0 ∧
      ∀ target, Steps p.tables e below (T'.setTop (mkF m 294 #[s0, s1, .val (.int i2), s3, s4, s5, s6, s7, s8, s9, s10, s11, s12, s13, s14, s15, s16, s17, s18, s19, s20, s21, s22, s23, s24, s25, s26, s27, .val (.long j28), .second, s30, s31, s32, s33, s34, s35, s36, s37, .val (.ref o38)] [])) target → Steps p.tables e below (T0.setTop (mkF m 281 #[s0, s1, .val (.int i2), s3, s4, s5, s6, s7, s8, s9, s10, s11, s12, s13, s14, s15, s16, s17, s18, s19, s20, s21, s22, s23, s24, s25, s26, s27, .val (.long j28), .second, s30, s31, s32, s33, s34, s35, s36, s37, .val (.ref o38)] [])) target := by
  obtain ⟨_, _, ⟨T3, L3, k3, n3⟩, -, X3, ⟨Lc3, hQ3, l3, y3, z3⟩, st3⟩ := Jvm.LawKit.callS X0 hx (y := (⟨"facedown/CombinationsUpToPinLaw", "ok", "([JIIJ)Z"⟩ : MethodName)) hown (mvT hZ (hw _ (List.mem_of_getElem? (i := 5) rfl))) (mvT hZ (hw _ (List.mem_of_getElem? (i := 6) rfl))) (mvT hZ (hw _ (List.mem_of_getElem? (i := 7) rfl))) (mvT hZ (hw _ (List.mem_of_getElem? (i := 8) rfl))) (by decide) (backOf (W := 0) (rm2 l Z a0 hw [] o38 i2 (11 : Int32) j28 h0 n0 Z0 hok) hZ (hw _ (List.mem_of_getElem? (i := 8) rfl)) (hw _ (List.mem_of_getElem? (i := 7) rfl)) (by decide) (by decide)) (g := (mkF m 288 #[s0, s1, .val (.int i2), s3, s4, s5, s6, s7, s8, s9, s10, s11, s12, s13, s14, s15, s16, s17, s18, s19, s20, s21, s22, s23, s24, s25, s26, s27, .val (.long j28), .second, s30, s31, s32, s33, s34, s35, s36, s37, .val (.ref o38)] [(.long j28), (.int (11 : Int32)), (.int i2), (.ref o38)])) rfl (by rw [hml]; rfl) (argsL := [(.ref o38), (.int i2), (.int (11 : Int32)), (.long j28)]) (rest := []) (lenOf pd_0_1 rfl) rfl (by show 2 * 0 + _ ≤ _; exact Nat.le_of_eq rfl) (hb hby at_288) (fun _ _ => ⟨rfl, e0, (by decide : 1 + 0 ≤ _), (by decide : 16 + 0 ≤ _)⟩)
  dsimp only [Pt.U, Pt.locs, Pt.cells, Pt.slots] at X3 l3 y3 z3 st3 hQ3
  subst l3 y3 z3
  obtain ⟨rfl, N3q, e3q⟩ := hQ3
  have N3 := Fr.app N0 N3q
  refine ⟨T3, _, X3, N3, e3q, fun target kt => ?_⟩
  show Steps p.tables e below (T0.setTop (mkF m 281 #[s0, s1, .val (.int i2), s3, s4, s5, s6, s7, s8, s9, s10, s11, s12, s13, s14, s15, s16, s17, s18, s19, s20, s21, s22, s23, s24, s25, s26, s27, .val (.long j28), .second, s30, s31, s32, s33, s34, s35, s36, s37, .val (.ref o38)] [])) _
  refine XS.aload X0.here hx rfl (hb hby at_281) rfl rfl ?_
  show Steps p.tables e below (T0.setTop (mkF m 283 #[s0, s1, .val (.int i2), s3, s4, s5, s6, s7, s8, s9, s10, s11, s12, s13, s14, s15, s16, s17, s18, s19, s20, s21, s22, s23, s24, s25, s26, s27, .val (.long j28), .second, s30, s31, s32, s33, s34, s35, s36, s37, .val (.ref o38)] [(.ref o38)])) _
  refine XS.iloadN X0.here hx rfl (hb hby at_283) rfl ?_
  show Steps p.tables e below (T0.setTop (mkF m 284 #[s0, s1, .val (.int i2), s3, s4, s5, s6, s7, s8, s9, s10, s11, s12, s13, s14, s15, s16, s17, s18, s19, s20, s21, s22, s23, s24, s25, s26, s27, .val (.long j28), .second, s30, s31, s32, s33, s34, s35, s36, s37, .val (.ref o38)] [(.int i2), (.ref o38)])) _
  refine XS.bipush X0.here hx rfl (hb hby at_284) ?_
  show Steps p.tables e below (T0.setTop (mkF m 286 #[s0, s1, .val (.int i2), s3, s4, s5, s6, s7, s8, s9, s10, s11, s12, s13, s14, s15, s16, s17, s18, s19, s20, s21, s22, s23, s24, s25, s26, s27, .val (.long j28), .second, s30, s31, s32, s33, s34, s35, s36, s37, .val (.ref o38)] [(.int (11 : Int32)), (.int i2), (.ref o38)])) _
  refine XS.lload X0.here hx rfl (hb hby at_286) rfl ?_
  show Steps p.tables e below (T0.setTop (mkF m 288 #[s0, s1, .val (.int i2), s3, s4, s5, s6, s7, s8, s9, s10, s11, s12, s13, s14, s15, s16, s17, s18, s19, s20, s21, s22, s23, s24, s25, s26, s27, .val (.long j28), .second, s30, s31, s32, s33, s34, s35, s36, s37, .val (.ref o38)] [(.long j28), (.int (11 : Int32)), (.int i2), (.ref o38)])) _
  refine st3 _ ?_
  show Steps p.tables e below (T3.setTop (mkF m 291 #[s0, s1, .val (.int i2), s3, s4, s5, s6, s7, s8, s9, s10, s11, s12, s13, s14, s15, s16, s17, s18, s19, s20, s21, s22, s23, s24, s25, s26, s27, .val (.long j28), .second, s30, s31, s32, s33, s34, s35, s36, s37, .val (.ref o38)] [(.int (1 : Int32))])) _
  refine XS.ifNo X3.here hx rfl (hb hby at_291) rfl ((if0 _ _).trans (feq (by decide : ¬ ((1 : Int32) = (0 : Int32)))).1) ?_
  exact kt
set_option maxRecDepth 65536 in
set_option maxHeartbeats 40000000 in
theorem tn0_ck12 {p : Program} {l : Launch} {e : Env} {s : State} {m : MethodId} {args : Array Value} {below : List Frame} {meth : Method} {c : Code} {T0 : State} {locs : List Loc} {Z : State} {a0 : Array Value} {h0 : Heap} (s0 : Slot) (s1 : Slot) (i2 : Int32) (s3 : Slot) (s4 : Slot) (s5 : Slot) (s6 : Slot) (s7 : Slot) (s8 : Slot) (s9 : Slot) (s10 : Slot) (s11 : Slot) (s12 : Slot) (s13 : Slot) (s14 : Slot) (s15 : Slot) (s16 : Slot) (s17 : Slot) (s18 : Slot) (s19 : Slot) (s20 : Slot) (s21 : Slot) (s22 : Slot) (s23 : Slot) (s24 : Slot) (s25 : Slot) (s26 : Slot) (s27 : Slot) (s28 : Slot) (s29 : Slot) (j30 : Int64) (s32 : Slot) (s33 : Slot) (s34 : Slot) (s35 : Slot) (s36 : Slot) (s37 : Slot) (o38 : Addr)
    (X0 : Stand p l e room_1 s m args below meth c T0 locs 1 16) (hx : p.tables.exec = Jvm.exec) (hZ : Z.Warmed39 s.vm) (hw : ∀ d ∈ tables_1, d.before a0 Z = true) (hby : c.code = code) (hml : c.maxLocals = 39) (hown : s.vm.findClass "facedown/CombinationsUpToPinLaw" = some m.cls) (e0 : T0.heap = h0) (n0 : Nat) (Z0 : n0 ≤ h0.size) (N0 : Fr n0 locs) (hok : i2 < (12 : Int32) ∨ own_vis Z h0 o38 (12 : Int32) j30) :
    ∃ (T' : State) (locs' : List Loc), Stand p l e room_1 s m args below meth c T' locs' 1 16 ∧ Fr n0 locs' ∧ T'.heap = h0 ∧
      ∀ target, Steps p.tables e below (T'.setTop (mkF m 307 #[s0, s1, .val (.int i2), s3, s4, s5, s6, s7, s8, s9, s10, s11, s12, s13, s14, s15, s16, s17, s18, s19, s20, s21, s22, s23, s24, s25, s26, s27, s28, s29, .val (.long j30), .second, s32, s33, s34, s35, s36, s37, .val (.ref o38)] [])) target → Steps p.tables e below (T0.setTop (mkF m 294 #[s0, s1, .val (.int i2), s3, s4, s5, s6, s7, s8, s9, s10, s11, s12, s13, s14, s15, s16, s17, s18, s19, s20, s21, s22, s23, s24, s25, s26, s27, s28, s29, .val (.long j30), .second, s32, s33, s34, s35, s36, s37, .val (.ref o38)] [])) target := by
  obtain ⟨_, _, ⟨T3, L3, k3, n3⟩, -, X3, ⟨Lc3, hQ3, l3, y3, z3⟩, st3⟩ := Jvm.LawKit.callS X0 hx (y := (⟨"facedown/CombinationsUpToPinLaw", "ok", "([JIIJ)Z"⟩ : MethodName)) hown (mvT hZ (hw _ (List.mem_of_getElem? (i := 5) rfl))) (mvT hZ (hw _ (List.mem_of_getElem? (i := 6) rfl))) (mvT hZ (hw _ (List.mem_of_getElem? (i := 7) rfl))) (mvT hZ (hw _ (List.mem_of_getElem? (i := 8) rfl))) (by decide) (backOf (W := 0) (rm2 l Z a0 hw [] o38 i2 (12 : Int32) j30 h0 n0 Z0 hok) hZ (hw _ (List.mem_of_getElem? (i := 8) rfl)) (hw _ (List.mem_of_getElem? (i := 7) rfl)) (by decide) (by decide)) (g := (mkF m 301 #[s0, s1, .val (.int i2), s3, s4, s5, s6, s7, s8, s9, s10, s11, s12, s13, s14, s15, s16, s17, s18, s19, s20, s21, s22, s23, s24, s25, s26, s27, s28, s29, .val (.long j30), .second, s32, s33, s34, s35, s36, s37, .val (.ref o38)] [(.long j30), (.int (12 : Int32)), (.int i2), (.ref o38)])) rfl (by rw [hml]; rfl) (argsL := [(.ref o38), (.int i2), (.int (12 : Int32)), (.long j30)]) (rest := []) (lenOf pd_0_1 rfl) rfl (by show 2 * 0 + _ ≤ _; exact Nat.le_of_eq rfl) (hb hby at_301) (fun _ _ => ⟨rfl, e0, (by decide : 1 + 0 ≤ _), (by decide : 16 + 0 ≤ _)⟩)
  dsimp only [Pt.U, Pt.locs, Pt.cells, Pt.slots] at X3 l3 y3 z3 st3 hQ3
  subst l3 y3 z3
  obtain ⟨rfl, N3q, e3q⟩ := hQ3
  have N3 := Fr.app N0 N3q
  refine ⟨T3, _, X3, N3, e3q, fun target kt => ?_⟩
  show Steps p.tables e below (T0.setTop (mkF m 294 #[s0, s1, .val (.int i2), s3, s4, s5, s6, s7, s8, s9, s10, s11, s12, s13, s14, s15, s16, s17, s18, s19, s20, s21, s22, s23, s24, s25, s26, s27, s28, s29, .val (.long j30), .second, s32, s33, s34, s35, s36, s37, .val (.ref o38)] [])) _
  refine XS.aload X0.here hx rfl (hb hby at_294) rfl rfl ?_
  show Steps p.tables e below (T0.setTop (mkF m 296 #[s0, s1, .val (.int i2), s3, s4, s5, s6, s7, s8, s9, s10, s11, s12, s13, s14, s15, s16, s17, s18, s19, s20, s21, s22, s23, s24, s25, s26, s27, s28, s29, .val (.long j30), .second, s32, s33, s34, s35, s36, s37, .val (.ref o38)] [(.ref o38)])) _
  refine XS.iloadN X0.here hx rfl (hb hby at_296) rfl ?_
  show Steps p.tables e below (T0.setTop (mkF m 297 #[s0, s1, .val (.int i2), s3, s4, s5, s6, s7, s8, s9, s10, s11, s12, s13, s14, s15, s16, s17, s18, s19, s20, s21, s22, s23, s24, s25, s26, s27, s28, s29, .val (.long j30), .second, s32, s33, s34, s35, s36, s37, .val (.ref o38)] [(.int i2), (.ref o38)])) _
  refine XS.bipush X0.here hx rfl (hb hby at_297) ?_
  show Steps p.tables e below (T0.setTop (mkF m 299 #[s0, s1, .val (.int i2), s3, s4, s5, s6, s7, s8, s9, s10, s11, s12, s13, s14, s15, s16, s17, s18, s19, s20, s21, s22, s23, s24, s25, s26, s27, s28, s29, .val (.long j30), .second, s32, s33, s34, s35, s36, s37, .val (.ref o38)] [(.int (12 : Int32)), (.int i2), (.ref o38)])) _
  refine XS.lload X0.here hx rfl (hb hby at_299) rfl ?_
  show Steps p.tables e below (T0.setTop (mkF m 301 #[s0, s1, .val (.int i2), s3, s4, s5, s6, s7, s8, s9, s10, s11, s12, s13, s14, s15, s16, s17, s18, s19, s20, s21, s22, s23, s24, s25, s26, s27, s28, s29, .val (.long j30), .second, s32, s33, s34, s35, s36, s37, .val (.ref o38)] [(.long j30), (.int (12 : Int32)), (.int i2), (.ref o38)])) _
  refine st3 _ ?_
  show Steps p.tables e below (T3.setTop (mkF m 304 #[s0, s1, .val (.int i2), s3, s4, s5, s6, s7, s8, s9, s10, s11, s12, s13, s14, s15, s16, s17, s18, s19, s20, s21, s22, s23, s24, s25, s26, s27, s28, s29, .val (.long j30), .second, s32, s33, s34, s35, s36, s37, .val (.ref o38)] [(.int (1 : Int32))])) _
  refine XS.ifNo X3.here hx rfl (hb hby at_304) rfl ((if0 _ _).trans (feq (by decide : ¬ ((1 : Int32) = (0 : Int32)))).1) ?_
  exact kt
set_option maxRecDepth 65536 in
set_option maxHeartbeats 40000000 in
theorem tn0_ck13 {p : Program} {l : Launch} {e : Env} {s : State} {m : MethodId} {args : Array Value} {below : List Frame} {meth : Method} {c : Code} {T0 : State} {locs : List Loc} {Z : State} {a0 : Array Value} {h0 : Heap} (s0 : Slot) (s1 : Slot) (i2 : Int32) (s3 : Slot) (s4 : Slot) (s5 : Slot) (s6 : Slot) (s7 : Slot) (s8 : Slot) (s9 : Slot) (s10 : Slot) (s11 : Slot) (s12 : Slot) (s13 : Slot) (s14 : Slot) (s15 : Slot) (s16 : Slot) (s17 : Slot) (s18 : Slot) (s19 : Slot) (s20 : Slot) (s21 : Slot) (s22 : Slot) (s23 : Slot) (s24 : Slot) (s25 : Slot) (s26 : Slot) (s27 : Slot) (s28 : Slot) (s29 : Slot) (s30 : Slot) (s31 : Slot) (j32 : Int64) (s34 : Slot) (s35 : Slot) (s36 : Slot) (s37 : Slot) (o38 : Addr)
    (X0 : Stand p l e room_1 s m args below meth c T0 locs 1 16) (hx : p.tables.exec = Jvm.exec) (hZ : Z.Warmed39 s.vm) (hw : ∀ d ∈ tables_1, d.before a0 Z = true) (hby : c.code = code) (hml : c.maxLocals = 39) (hown : s.vm.findClass "facedown/CombinationsUpToPinLaw" = some m.cls) (e0 : T0.heap = h0) (n0 : Nat) (Z0 : n0 ≤ h0.size) (N0 : Fr n0 locs) (hok : i2 < (13 : Int32) ∨ own_vis Z h0 o38 (13 : Int32) j32) :
    ∃ (T' : State) (locs' : List Loc), Stand p l e room_1 s m args below meth c T' locs' 1 16 ∧ Fr n0 locs' ∧ T'.heap = h0 ∧
      ∀ target, Steps p.tables e below (T'.setTop (mkF m 320 #[s0, s1, .val (.int i2), s3, s4, s5, s6, s7, s8, s9, s10, s11, s12, s13, s14, s15, s16, s17, s18, s19, s20, s21, s22, s23, s24, s25, s26, s27, s28, s29, s30, s31, .val (.long j32), .second, s34, s35, s36, s37, .val (.ref o38)] [])) target → Steps p.tables e below (T0.setTop (mkF m 307 #[s0, s1, .val (.int i2), s3, s4, s5, s6, s7, s8, s9, s10, s11, s12, s13, s14, s15, s16, s17, s18, s19, s20, s21, s22, s23, s24, s25, s26, s27, s28, s29, s30, s31, .val (.long j32), .second, s34, s35, s36, s37, .val (.ref o38)] [])) target := by
  obtain ⟨_, _, ⟨T3, L3, k3, n3⟩, -, X3, ⟨Lc3, hQ3, l3, y3, z3⟩, st3⟩ := Jvm.LawKit.callS X0 hx (y := (⟨"facedown/CombinationsUpToPinLaw", "ok", "([JIIJ)Z"⟩ : MethodName)) hown (mvT hZ (hw _ (List.mem_of_getElem? (i := 5) rfl))) (mvT hZ (hw _ (List.mem_of_getElem? (i := 6) rfl))) (mvT hZ (hw _ (List.mem_of_getElem? (i := 7) rfl))) (mvT hZ (hw _ (List.mem_of_getElem? (i := 8) rfl))) (by decide) (backOf (W := 0) (rm2 l Z a0 hw [] o38 i2 (13 : Int32) j32 h0 n0 Z0 hok) hZ (hw _ (List.mem_of_getElem? (i := 8) rfl)) (hw _ (List.mem_of_getElem? (i := 7) rfl)) (by decide) (by decide)) (g := (mkF m 314 #[s0, s1, .val (.int i2), s3, s4, s5, s6, s7, s8, s9, s10, s11, s12, s13, s14, s15, s16, s17, s18, s19, s20, s21, s22, s23, s24, s25, s26, s27, s28, s29, s30, s31, .val (.long j32), .second, s34, s35, s36, s37, .val (.ref o38)] [(.long j32), (.int (13 : Int32)), (.int i2), (.ref o38)])) rfl (by rw [hml]; rfl) (argsL := [(.ref o38), (.int i2), (.int (13 : Int32)), (.long j32)]) (rest := []) (lenOf pd_0_1 rfl) rfl (by show 2 * 0 + _ ≤ _; exact Nat.le_of_eq rfl) (hb hby at_314) (fun _ _ => ⟨rfl, e0, (by decide : 1 + 0 ≤ _), (by decide : 16 + 0 ≤ _)⟩)
  dsimp only [Pt.U, Pt.locs, Pt.cells, Pt.slots] at X3 l3 y3 z3 st3 hQ3
  subst l3 y3 z3
  obtain ⟨rfl, N3q, e3q⟩ := hQ3
  have N3 := Fr.app N0 N3q
  refine ⟨T3, _, X3, N3, e3q, fun target kt => ?_⟩
  show Steps p.tables e below (T0.setTop (mkF m 307 #[s0, s1, .val (.int i2), s3, s4, s5, s6, s7, s8, s9, s10, s11, s12, s13, s14, s15, s16, s17, s18, s19, s20, s21, s22, s23, s24, s25, s26, s27, s28, s29, s30, s31, .val (.long j32), .second, s34, s35, s36, s37, .val (.ref o38)] [])) _
  refine XS.aload X0.here hx rfl (hb hby at_307) rfl rfl ?_
  show Steps p.tables e below (T0.setTop (mkF m 309 #[s0, s1, .val (.int i2), s3, s4, s5, s6, s7, s8, s9, s10, s11, s12, s13, s14, s15, s16, s17, s18, s19, s20, s21, s22, s23, s24, s25, s26, s27, s28, s29, s30, s31, .val (.long j32), .second, s34, s35, s36, s37, .val (.ref o38)] [(.ref o38)])) _
  refine XS.iloadN X0.here hx rfl (hb hby at_309) rfl ?_
  show Steps p.tables e below (T0.setTop (mkF m 310 #[s0, s1, .val (.int i2), s3, s4, s5, s6, s7, s8, s9, s10, s11, s12, s13, s14, s15, s16, s17, s18, s19, s20, s21, s22, s23, s24, s25, s26, s27, s28, s29, s30, s31, .val (.long j32), .second, s34, s35, s36, s37, .val (.ref o38)] [(.int i2), (.ref o38)])) _
  refine XS.bipush X0.here hx rfl (hb hby at_310) ?_
  show Steps p.tables e below (T0.setTop (mkF m 312 #[s0, s1, .val (.int i2), s3, s4, s5, s6, s7, s8, s9, s10, s11, s12, s13, s14, s15, s16, s17, s18, s19, s20, s21, s22, s23, s24, s25, s26, s27, s28, s29, s30, s31, .val (.long j32), .second, s34, s35, s36, s37, .val (.ref o38)] [(.int (13 : Int32)), (.int i2), (.ref o38)])) _
  refine XS.lload X0.here hx rfl (hb hby at_312) rfl ?_
  show Steps p.tables e below (T0.setTop (mkF m 314 #[s0, s1, .val (.int i2), s3, s4, s5, s6, s7, s8, s9, s10, s11, s12, s13, s14, s15, s16, s17, s18, s19, s20, s21, s22, s23, s24, s25, s26, s27, s28, s29, s30, s31, .val (.long j32), .second, s34, s35, s36, s37, .val (.ref o38)] [(.long j32), (.int (13 : Int32)), (.int i2), (.ref o38)])) _
  refine st3 _ ?_
  show Steps p.tables e below (T3.setTop (mkF m 317 #[s0, s1, .val (.int i2), s3, s4, s5, s6, s7, s8, s9, s10, s11, s12, s13, s14, s15, s16, s17, s18, s19, s20, s21, s22, s23, s24, s25, s26, s27, s28, s29, s30, s31, .val (.long j32), .second, s34, s35, s36, s37, .val (.ref o38)] [(.int (1 : Int32))])) _
  refine XS.ifNo X3.here hx rfl (hb hby at_317) rfl ((if0 _ _).trans (feq (by decide : ¬ ((1 : Int32) = (0 : Int32)))).1) ?_
  exact kt
set_option maxRecDepth 65536 in
set_option maxHeartbeats 40000000 in
theorem tn0_ck14 {p : Program} {l : Launch} {e : Env} {s : State} {m : MethodId} {args : Array Value} {below : List Frame} {meth : Method} {c : Code} {T0 : State} {locs : List Loc} {Z : State} {a0 : Array Value} {h0 : Heap} (s0 : Slot) (s1 : Slot) (i2 : Int32) (s3 : Slot) (s4 : Slot) (s5 : Slot) (s6 : Slot) (s7 : Slot) (s8 : Slot) (s9 : Slot) (s10 : Slot) (s11 : Slot) (s12 : Slot) (s13 : Slot) (s14 : Slot) (s15 : Slot) (s16 : Slot) (s17 : Slot) (s18 : Slot) (s19 : Slot) (s20 : Slot) (s21 : Slot) (s22 : Slot) (s23 : Slot) (s24 : Slot) (s25 : Slot) (s26 : Slot) (s27 : Slot) (s28 : Slot) (s29 : Slot) (s30 : Slot) (s31 : Slot) (s32 : Slot) (s33 : Slot) (j34 : Int64) (s36 : Slot) (s37 : Slot) (o38 : Addr)
    (X0 : Stand p l e room_1 s m args below meth c T0 locs 1 16) (hx : p.tables.exec = Jvm.exec) (hZ : Z.Warmed39 s.vm) (hw : ∀ d ∈ tables_1, d.before a0 Z = true) (hby : c.code = code) (hml : c.maxLocals = 39) (hown : s.vm.findClass "facedown/CombinationsUpToPinLaw" = some m.cls) (e0 : T0.heap = h0) (n0 : Nat) (Z0 : n0 ≤ h0.size) (N0 : Fr n0 locs) (hok : i2 < (14 : Int32) ∨ own_vis Z h0 o38 (14 : Int32) j34) :
    ∃ (T' : State) (locs' : List Loc), Stand p l e room_1 s m args below meth c T' locs' 1 16 ∧ Fr n0 locs' ∧ T'.heap = h0 ∧
      ∀ target, Steps p.tables e below (T'.setTop (mkF m 333 #[s0, s1, .val (.int i2), s3, s4, s5, s6, s7, s8, s9, s10, s11, s12, s13, s14, s15, s16, s17, s18, s19, s20, s21, s22, s23, s24, s25, s26, s27, s28, s29, s30, s31, s32, s33, .val (.long j34), .second, s36, s37, .val (.ref o38)] [])) target → Steps p.tables e below (T0.setTop (mkF m 320 #[s0, s1, .val (.int i2), s3, s4, s5, s6, s7, s8, s9, s10, s11, s12, s13, s14, s15, s16, s17, s18, s19, s20, s21, s22, s23, s24, s25, s26, s27, s28, s29, s30, s31, s32, s33, .val (.long j34), .second, s36, s37, .val (.ref o38)] [])) target := by
  obtain ⟨_, _, ⟨T3, L3, k3, n3⟩, -, X3, ⟨Lc3, hQ3, l3, y3, z3⟩, st3⟩ := Jvm.LawKit.callS X0 hx (y := (⟨"facedown/CombinationsUpToPinLaw", "ok", "([JIIJ)Z"⟩ : MethodName)) hown (mvT hZ (hw _ (List.mem_of_getElem? (i := 5) rfl))) (mvT hZ (hw _ (List.mem_of_getElem? (i := 6) rfl))) (mvT hZ (hw _ (List.mem_of_getElem? (i := 7) rfl))) (mvT hZ (hw _ (List.mem_of_getElem? (i := 8) rfl))) (by decide) (backOf (W := 0) (rm2 l Z a0 hw [] o38 i2 (14 : Int32) j34 h0 n0 Z0 hok) hZ (hw _ (List.mem_of_getElem? (i := 8) rfl)) (hw _ (List.mem_of_getElem? (i := 7) rfl)) (by decide) (by decide)) (g := (mkF m 327 #[s0, s1, .val (.int i2), s3, s4, s5, s6, s7, s8, s9, s10, s11, s12, s13, s14, s15, s16, s17, s18, s19, s20, s21, s22, s23, s24, s25, s26, s27, s28, s29, s30, s31, s32, s33, .val (.long j34), .second, s36, s37, .val (.ref o38)] [(.long j34), (.int (14 : Int32)), (.int i2), (.ref o38)])) rfl (by rw [hml]; rfl) (argsL := [(.ref o38), (.int i2), (.int (14 : Int32)), (.long j34)]) (rest := []) (lenOf pd_0_1 rfl) rfl (by show 2 * 0 + _ ≤ _; exact Nat.le_of_eq rfl) (hb hby at_327) (fun _ _ => ⟨rfl, e0, (by decide : 1 + 0 ≤ _), (by decide : 16 + 0 ≤ _)⟩)
  dsimp only [Pt.U, Pt.locs, Pt.cells, Pt.slots] at X3 l3 y3 z3 st3 hQ3
  subst l3 y3 z3
  obtain ⟨rfl, N3q, e3q⟩ := hQ3
  have N3 := Fr.app N0 N3q
  refine ⟨T3, _, X3, N3, e3q, fun target kt => ?_⟩
  show Steps p.tables e below (T0.setTop (mkF m 320 #[s0, s1, .val (.int i2), s3, s4, s5, s6, s7, s8, s9, s10, s11, s12, s13, s14, s15, s16, s17, s18, s19, s20, s21, s22, s23, s24, s25, s26, s27, s28, s29, s30, s31, s32, s33, .val (.long j34), .second, s36, s37, .val (.ref o38)] [])) _
  refine XS.aload X0.here hx rfl (hb hby at_320) rfl rfl ?_
  show Steps p.tables e below (T0.setTop (mkF m 322 #[s0, s1, .val (.int i2), s3, s4, s5, s6, s7, s8, s9, s10, s11, s12, s13, s14, s15, s16, s17, s18, s19, s20, s21, s22, s23, s24, s25, s26, s27, s28, s29, s30, s31, s32, s33, .val (.long j34), .second, s36, s37, .val (.ref o38)] [(.ref o38)])) _
  refine XS.iloadN X0.here hx rfl (hb hby at_322) rfl ?_
  show Steps p.tables e below (T0.setTop (mkF m 323 #[s0, s1, .val (.int i2), s3, s4, s5, s6, s7, s8, s9, s10, s11, s12, s13, s14, s15, s16, s17, s18, s19, s20, s21, s22, s23, s24, s25, s26, s27, s28, s29, s30, s31, s32, s33, .val (.long j34), .second, s36, s37, .val (.ref o38)] [(.int i2), (.ref o38)])) _
  refine XS.bipush X0.here hx rfl (hb hby at_323) ?_
  show Steps p.tables e below (T0.setTop (mkF m 325 #[s0, s1, .val (.int i2), s3, s4, s5, s6, s7, s8, s9, s10, s11, s12, s13, s14, s15, s16, s17, s18, s19, s20, s21, s22, s23, s24, s25, s26, s27, s28, s29, s30, s31, s32, s33, .val (.long j34), .second, s36, s37, .val (.ref o38)] [(.int (14 : Int32)), (.int i2), (.ref o38)])) _
  refine XS.lload X0.here hx rfl (hb hby at_325) rfl ?_
  show Steps p.tables e below (T0.setTop (mkF m 327 #[s0, s1, .val (.int i2), s3, s4, s5, s6, s7, s8, s9, s10, s11, s12, s13, s14, s15, s16, s17, s18, s19, s20, s21, s22, s23, s24, s25, s26, s27, s28, s29, s30, s31, s32, s33, .val (.long j34), .second, s36, s37, .val (.ref o38)] [(.long j34), (.int (14 : Int32)), (.int i2), (.ref o38)])) _
  refine st3 _ ?_
  show Steps p.tables e below (T3.setTop (mkF m 330 #[s0, s1, .val (.int i2), s3, s4, s5, s6, s7, s8, s9, s10, s11, s12, s13, s14, s15, s16, s17, s18, s19, s20, s21, s22, s23, s24, s25, s26, s27, s28, s29, s30, s31, s32, s33, .val (.long j34), .second, s36, s37, .val (.ref o38)] [(.int (1 : Int32))])) _
  refine XS.ifNo X3.here hx rfl (hb hby at_330) rfl ((if0 _ _).trans (feq (by decide : ¬ ((1 : Int32) = (0 : Int32)))).1) ?_
  exact kt
set_option maxRecDepth 65536 in
set_option maxHeartbeats 40000000 in
theorem tn0_ck15 {p : Program} {l : Launch} {e : Env} {s : State} {m : MethodId} {args : Array Value} {below : List Frame} {meth : Method} {c : Code} {T0 : State} {locs : List Loc} {Z : State} {a0 : Array Value} {h0 : Heap} (s0 : Slot) (s1 : Slot) (i2 : Int32) (s3 : Slot) (s4 : Slot) (s5 : Slot) (s6 : Slot) (s7 : Slot) (s8 : Slot) (s9 : Slot) (s10 : Slot) (s11 : Slot) (s12 : Slot) (s13 : Slot) (s14 : Slot) (s15 : Slot) (s16 : Slot) (s17 : Slot) (s18 : Slot) (s19 : Slot) (s20 : Slot) (s21 : Slot) (s22 : Slot) (s23 : Slot) (s24 : Slot) (s25 : Slot) (s26 : Slot) (s27 : Slot) (s28 : Slot) (s29 : Slot) (s30 : Slot) (s31 : Slot) (s32 : Slot) (s33 : Slot) (s34 : Slot) (s35 : Slot) (j36 : Int64) (o38 : Addr)
    (X0 : Stand p l e room_1 s m args below meth c T0 locs 1 16) (hx : p.tables.exec = Jvm.exec) (hZ : Z.Warmed39 s.vm) (hw : ∀ d ∈ tables_1, d.before a0 Z = true) (hby : c.code = code) (hml : c.maxLocals = 39) (hown : s.vm.findClass "facedown/CombinationsUpToPinLaw" = some m.cls) (e0 : T0.heap = h0) (n0 : Nat) (Z0 : n0 ≤ h0.size) (N0 : Fr n0 locs) (hok : i2 < (15 : Int32) ∨ own_vis Z h0 o38 (15 : Int32) j36) :
    ∃ (T' : State) (locs' : List Loc), Stand p l e room_1 s m args below meth c T' locs' 1 16 ∧ Fr n0 locs' ∧ T'.heap = h0 ∧
      ∀ target, Steps p.tables e below (T'.setTop (mkF m 346 #[s0, s1, .val (.int i2), s3, s4, s5, s6, s7, s8, s9, s10, s11, s12, s13, s14, s15, s16, s17, s18, s19, s20, s21, s22, s23, s24, s25, s26, s27, s28, s29, s30, s31, s32, s33, s34, s35, .val (.long j36), .second, .val (.ref o38)] [])) target → Steps p.tables e below (T0.setTop (mkF m 333 #[s0, s1, .val (.int i2), s3, s4, s5, s6, s7, s8, s9, s10, s11, s12, s13, s14, s15, s16, s17, s18, s19, s20, s21, s22, s23, s24, s25, s26, s27, s28, s29, s30, s31, s32, s33, s34, s35, .val (.long j36), .second, .val (.ref o38)] [])) target := by
  obtain ⟨_, _, ⟨T3, L3, k3, n3⟩, -, X3, ⟨Lc3, hQ3, l3, y3, z3⟩, st3⟩ := Jvm.LawKit.callS X0 hx (y := (⟨"facedown/CombinationsUpToPinLaw", "ok", "([JIIJ)Z"⟩ : MethodName)) hown (mvT hZ (hw _ (List.mem_of_getElem? (i := 5) rfl))) (mvT hZ (hw _ (List.mem_of_getElem? (i := 6) rfl))) (mvT hZ (hw _ (List.mem_of_getElem? (i := 7) rfl))) (mvT hZ (hw _ (List.mem_of_getElem? (i := 8) rfl))) (by decide) (backOf (W := 0) (rm2 l Z a0 hw [] o38 i2 (15 : Int32) j36 h0 n0 Z0 hok) hZ (hw _ (List.mem_of_getElem? (i := 8) rfl)) (hw _ (List.mem_of_getElem? (i := 7) rfl)) (by decide) (by decide)) (g := (mkF m 340 #[s0, s1, .val (.int i2), s3, s4, s5, s6, s7, s8, s9, s10, s11, s12, s13, s14, s15, s16, s17, s18, s19, s20, s21, s22, s23, s24, s25, s26, s27, s28, s29, s30, s31, s32, s33, s34, s35, .val (.long j36), .second, .val (.ref o38)] [(.long j36), (.int (15 : Int32)), (.int i2), (.ref o38)])) rfl (by rw [hml]; rfl) (argsL := [(.ref o38), (.int i2), (.int (15 : Int32)), (.long j36)]) (rest := []) (lenOf pd_0_1 rfl) rfl (by show 2 * 0 + _ ≤ _; exact Nat.le_of_eq rfl) (hb hby at_340) (fun _ _ => ⟨rfl, e0, (by decide : 1 + 0 ≤ _), (by decide : 16 + 0 ≤ _)⟩)
  dsimp only [Pt.U, Pt.locs, Pt.cells, Pt.slots] at X3 l3 y3 z3 st3 hQ3
  subst l3 y3 z3
  obtain ⟨rfl, N3q, e3q⟩ := hQ3
  have N3 := Fr.app N0 N3q
  refine ⟨T3, _, X3, N3, e3q, fun target kt => ?_⟩
  show Steps p.tables e below (T0.setTop (mkF m 333 #[s0, s1, .val (.int i2), s3, s4, s5, s6, s7, s8, s9, s10, s11, s12, s13, s14, s15, s16, s17, s18, s19, s20, s21, s22, s23, s24, s25, s26, s27, s28, s29, s30, s31, s32, s33, s34, s35, .val (.long j36), .second, .val (.ref o38)] [])) _
  refine XS.aload X0.here hx rfl (hb hby at_333) rfl rfl ?_
  show Steps p.tables e below (T0.setTop (mkF m 335 #[s0, s1, .val (.int i2), s3, s4, s5, s6, s7, s8, s9, s10, s11, s12, s13, s14, s15, s16, s17, s18, s19, s20, s21, s22, s23, s24, s25, s26, s27, s28, s29, s30, s31, s32, s33, s34, s35, .val (.long j36), .second, .val (.ref o38)] [(.ref o38)])) _
  refine XS.iloadN X0.here hx rfl (hb hby at_335) rfl ?_
  show Steps p.tables e below (T0.setTop (mkF m 336 #[s0, s1, .val (.int i2), s3, s4, s5, s6, s7, s8, s9, s10, s11, s12, s13, s14, s15, s16, s17, s18, s19, s20, s21, s22, s23, s24, s25, s26, s27, s28, s29, s30, s31, s32, s33, s34, s35, .val (.long j36), .second, .val (.ref o38)] [(.int i2), (.ref o38)])) _
  refine XS.bipush X0.here hx rfl (hb hby at_336) ?_
  show Steps p.tables e below (T0.setTop (mkF m 338 #[s0, s1, .val (.int i2), s3, s4, s5, s6, s7, s8, s9, s10, s11, s12, s13, s14, s15, s16, s17, s18, s19, s20, s21, s22, s23, s24, s25, s26, s27, s28, s29, s30, s31, s32, s33, s34, s35, .val (.long j36), .second, .val (.ref o38)] [(.int (15 : Int32)), (.int i2), (.ref o38)])) _
  refine XS.lload X0.here hx rfl (hb hby at_338) rfl ?_
  show Steps p.tables e below (T0.setTop (mkF m 340 #[s0, s1, .val (.int i2), s3, s4, s5, s6, s7, s8, s9, s10, s11, s12, s13, s14, s15, s16, s17, s18, s19, s20, s21, s22, s23, s24, s25, s26, s27, s28, s29, s30, s31, s32, s33, s34, s35, .val (.long j36), .second, .val (.ref o38)] [(.long j36), (.int (15 : Int32)), (.int i2), (.ref o38)])) _
  refine st3 _ ?_
  show Steps p.tables e below (T3.setTop (mkF m 343 #[s0, s1, .val (.int i2), s3, s4, s5, s6, s7, s8, s9, s10, s11, s12, s13, s14, s15, s16, s17, s18, s19, s20, s21, s22, s23, s24, s25, s26, s27, s28, s29, s30, s31, s32, s33, s34, s35, .val (.long j36), .second, .val (.ref o38)] [(.int (1 : Int32))])) _
  refine XS.ifNo X3.here hx rfl (hb hby at_343) rfl ((if0 _ _).trans (feq (by decide : ¬ ((1 : Int32) = (0 : Int32)))).1) ?_
  exact kt
theorem pn_0 : plainName "facedown/CombinationsUpToPinLaw" = true := by first | (simp [plainName, overriddenIn]; done) | decide +kernel
theorem pd_0_0 : parseMethodDescriptor "(II)[J" = some ⟨[.int, .int], some (.array .long)⟩ := by decide +kernel
theorem ef_0 (m : MethodId) (x0 : Int32) (x1 : Int32) : entryFrame m #[(.int x0), (.int x1)] maxLocals = mkF m 0 #[.val (.int x0), .val (.int x1), .unset, .unset, .unset, .unset, .unset, .unset, .unset, .unset, .unset, .unset, .unset, .unset, .unset, .unset, .unset, .unset, .unset, .unset, .unset, .unset, .unset, .unset, .unset, .unset, .unset, .unset, .unset, .unset, .unset, .unset, .unset, .unset, .unset, .unset, .unset, .unset, .unset] [] := by first | (simp [entryFrame, mkF, argsToLocals, Value.category, maxLocals]; done) | rfl
set_option maxRecDepth 65536 in
set_option maxHeartbeats 40000000 in
theorem tail0 {p : Program} {l : Launch} {e : Env} {s : State} {m : MethodId} {args : Array Value} {below : List Frame} {meth : Method} {c : Code} {Z : State} {a0 : Array Value} {h0 : Heap} {T0 : State} {locs : List Loc} (p1 p2 dc fc : Int32) (D : Nat) (hD : D ≤ 15) (hdc : dc.toInt = (D : Int)) (hok : ∀ j, j < D → own_exact (own_f fc.toInt64 j) fc.toInt64)
    (X0 : Stand p l e room_1 s m args below meth c T0 locs 0 0) (hx : p.tables.exec = Jvm.exec) (hZ : Z.Warmed39 s.vm) (hw : ∀ d ∈ tables_1, d.before a0 Z = true) (hby : c.code = code) (hml : c.maxLocals = 39) (hown : s.vm.findClass "facedown/CombinationsUpToPinLaw" = some m.cls) (e0 : T0.heap = h0) (n0 : Nat) (Z0 : n0 ≤ h0.size) (N0 : Fr n0 locs) :
    ∃ (T' : State) (locs' : List Loc) (b3 : Addr), Stand p l e room_1 s m args below meth c T' locs' 1 16 ∧ Fr n0 locs' ∧
      ∀ target, Steps p.tables e below (T'.setTop (mkF m 346 #[.val (.int p1), .val (.int p2), .val (.int dc), .val (.int fc), .val (.long (fc.toInt64)), .second, .val (.long (1 : Int64)), .second, .val (.long (fc.toInt64)), .second, .val (.long (own_f (fc.toInt64) 2)), .second, .val (.long (own_f (fc.toInt64) 3)), .second, .val (.long (own_f (fc.toInt64) 4)), .second, .val (.long (own_f (fc.toInt64) 5)), .second, .val (.long (own_f (fc.toInt64) 6)), .second, .val (.long (own_f (fc.toInt64) 7)), .second, .val (.long (own_f (fc.toInt64) 8)), .second, .val (.long (own_f (fc.toInt64) 9)), .second, .val (.long (own_f (fc.toInt64) 10)), .second, .val (.long (own_f (fc.toInt64) 11)), .second, .val (.long (own_f (fc.toInt64) 12)), .second, .val (.long (own_f (fc.toInt64) 13)), .second, .val (.long (own_f (fc.toInt64) 14)), .second, .val (.long (own_f (fc.toInt64) 15)), .second, .val (.ref b3)] [])) target → Steps p.tables e below (T0.setTop (mkF m 19 #[.val (.int p1), .val (.int p2), .val (.int dc), .val (.int fc), .unset, .unset, .unset, .unset, .unset, .unset, .unset, .unset, .unset, .unset, .unset, .unset, .unset, .unset, .unset, .unset, .unset, .unset, .unset, .unset, .unset, .unset, .unset, .unset, .unset, .unset, .unset, .unset, .unset, .unset, .unset, .unset, .unset, .unset, .unset] [])) target := by
  have ha : (dc + (1 : Int32)).toInt = ((D + 1 : Nat) : Int) := by rw [own_add1 dc (by omega) (by omega)]; omega
  have hn : ¬ (dc + (1 : Int32)) < 0 := by rw [own_lt, own_i0]; omega
  obtain ⟨_, _, ⟨T3, L3, k3, n3⟩, -, X3, ⟨Lc3, hQ3, l3, y3, z3⟩, st3⟩ := Jvm.LawKit.callS X0 hx (y := (⟨"facedown/Combinations", "upTo", "(II)[J"⟩ : MethodName)) hown (mvT hZ (hw _ (List.mem_of_getElem? (i := 0) rfl))) (mvT hZ (hw _ (List.mem_of_getElem? (i := 1) rfl))) (mvT hZ (hw _ (List.mem_of_getElem? (i := 2) rfl))) (mvT hZ (hw _ (List.mem_of_getElem? (i := 3) rfl))) (by decide) (backOf (W := 0) (rm1 l Z a0 hw [] fc dc D h0 n0 Z0 hD hdc hok) hZ (hw _ (List.mem_of_getElem? (i := 3) rfl)) (hw _ (List.mem_of_getElem? (i := 2) rfl)) (by decide) (by decide)) (g := (mkF m 130 #[.val (.int p1), .val (.int p2), .val (.int dc), .val (.int fc), .val (.long (fc.toInt64)), .second, .val (.long (1 : Int64)), .second, .val (.long (fc.toInt64)), .second, .val (.long (own_f (fc.toInt64) 2)), .second, .val (.long (own_f (fc.toInt64) 3)), .second, .val (.long (own_f (fc.toInt64) 4)), .second, .val (.long (own_f (fc.toInt64) 5)), .second, .val (.long (own_f (fc.toInt64) 6)), .second, .val (.long (own_f (fc.toInt64) 7)), .second, .val (.long (own_f (fc.toInt64) 8)), .second, .val (.long (own_f (fc.toInt64) 9)), .second, .val (.long (own_f (fc.toInt64) 10)), .second, .val (.long (own_f (fc.toInt64) 11)), .second, .val (.long (own_f (fc.toInt64) 12)), .second, .val (.long (own_f (fc.toInt64) 13)), .second, .val (.long (own_f (fc.toInt64) 14)), .second, .val (.long (own_f (fc.toInt64) 15)), .second, .unset] [(.int dc), (.int fc)])) rfl (by rw [hml]; rfl) (argsL := [(.int fc), (.int dc)]) (rest := []) (lenOf pd_0_0 rfl) rfl (by show 2 * 0 + _ ≤ _; exact Nat.le_of_eq rfl) (hb hby at_130) (fun _ _ => ⟨rfl, e0, (by decide : 0 + 1 ≤ _), (by decide : 0 + 16 ≤ _)⟩)
  dsimp only [Pt.U, Pt.locs, Pt.cells, Pt.slots] at X3 l3 y3 z3 st3 hQ3
  subst l3 y3 z3
  obtain ⟨rfl, N3q, Z3, V⟩ := hQ3
  obtain ⟨b3, g3⟩ : ∃ z, z = h0.size := ⟨_, rfl⟩
  rw [← g3] at V st3
  have N3 := Fr.app N0 N3q
  have e3 : T3.heap = T3.heap := rfl
  obtain ⟨cl, Ar, S, H⟩ := id V
  have S' : cl.slots.size = (dc + (1 : Int32)).toNatClampNeg := by rw [S, own_nat ha]
  obtain ⟨T4, L4, X4, N4, e4, st4⟩ := tn0_ck0 (.val (.int p1)) (.val (.int p2)) dc (.val (.int fc)) (.val (.long (fc.toInt64))) (.second) (1 : Int64) (.val (.long (fc.toInt64))) (.second) (.val (.long (own_f (fc.toInt64) 2))) (.second) (.val (.long (own_f (fc.toInt64) 3))) (.second) (.val (.long (own_f (fc.toInt64) 4))) (.second) (.val (.long (own_f (fc.toInt64) 5))) (.second) (.val (.long (own_f (fc.toInt64) 6))) (.second) (.val (.long (own_f (fc.toInt64) 7))) (.second) (.val (.long (own_f (fc.toInt64) 8))) (.second) (.val (.long (own_f (fc.toInt64) 9))) (.second) (.val (.long (own_f (fc.toInt64) 10))) (.second) (.val (.long (own_f (fc.toInt64) 11))) (.second) (.val (.long (own_f (fc.toInt64) 12))) (.second) (.val (.long (own_f (fc.toInt64) 13))) (.second) (.val (.long (own_f (fc.toInt64) 14))) (.second) (.val (.long (own_f (fc.toInt64) 15))) (.second) b3 X3 hx hZ hw hby hml hown e3 n0 Z3 N3 (own_hok (f := own_f (fc.toInt64)) hdc V 0 (0 : Int32) (by decide))
  obtain ⟨T5, L5, X5, N5, e5, st5⟩ := tn0_ck1 (.val (.int p1)) (.val (.int p2)) dc (.val (.int fc)) (.val (.long (fc.toInt64))) (.second) (.val (.long (1 : Int64))) (.second) (fc.toInt64) (.val (.long (own_f (fc.toInt64) 2))) (.second) (.val (.long (own_f (fc.toInt64) 3))) (.second) (.val (.long (own_f (fc.toInt64) 4))) (.second) (.val (.long (own_f (fc.toInt64) 5))) (.second) (.val (.long (own_f (fc.toInt64) 6))) (.second) (.val (.long (own_f (fc.toInt64) 7))) (.second) (.val (.long (own_f (fc.toInt64) 8))) (.second) (.val (.long (own_f (fc.toInt64) 9))) (.second) (.val (.long (own_f (fc.toInt64) 10))) (.second) (.val (.long (own_f (fc.toInt64) 11))) (.second) (.val (.long (own_f (fc.toInt64) 12))) (.second) (.val (.long (own_f (fc.toInt64) 13))) (.second) (.val (.long (own_f (fc.toInt64) 14))) (.second) (.val (.long (own_f (fc.toInt64) 15))) (.second) b3 X4 hx hZ hw hby hml hown e4 n0 Z3 N4 (own_hok (f := own_f (fc.toInt64)) hdc V 1 (1 : Int32) (by decide))
  obtain ⟨T6, L6, X6, N6, e6, st6⟩ := tn0_ck2 (.val (.int p1)) (.val (.int p2)) dc (.val (.int fc)) (.val (.long (fc.toInt64))) (.second) (.val (.long (1 : Int64))) (.second) (.val (.long (fc.toInt64))) (.second) (own_f (fc.toInt64) 2) (.val (.long (own_f (fc.toInt64) 3))) (.second) (.val (.long (own_f (fc.toInt64) 4))) (.second) (.val (.long (own_f (fc.toInt64) 5))) (.second) (.val (.long (own_f (fc.toInt64) 6))) (.second) (.val (.long (own_f (fc.toInt64) 7))) (.second) (.val (.long (own_f (fc.toInt64) 8))) (.second) (.val (.long (own_f (fc.toInt64) 9))) (.second) (.val (.long (own_f (fc.toInt64) 10))) (.second) (.val (.long (own_f (fc.toInt64) 11))) (.second) (.val (.long (own_f (fc.toInt64) 12))) (.second) (.val (.long (own_f (fc.toInt64) 13))) (.second) (.val (.long (own_f (fc.toInt64) 14))) (.second) (.val (.long (own_f (fc.toInt64) 15))) (.second) b3 X5 hx hZ hw hby hml hown e5 n0 Z3 N5 (own_hok (f := own_f (fc.toInt64)) hdc V 2 (2 : Int32) (by decide))
  obtain ⟨T7, L7, X7, N7, e7, st7⟩ := tn0_ck3 (.val (.int p1)) (.val (.int p2)) dc (.val (.int fc)) (.val (.long (fc.toInt64))) (.second) (.val (.long (1 : Int64))) (.second) (.val (.long (fc.toInt64))) (.second) (.val (.long (own_f (fc.toInt64) 2))) (.second) (own_f (fc.toInt64) 3) (.val (.long (own_f (fc.toInt64) 4))) (.second) (.val (.long (own_f (fc.toInt64) 5))) (.second) (.val (.long (own_f (fc.toInt64) 6))) (.second) (.val (.long (own_f (fc.toInt64) 7))) (.second) (.val (.long (own_f (fc.toInt64) 8))) (.second) (.val (.long (own_f (fc.toInt64) 9))) (.second) (.val (.long (own_f (fc.toInt64) 10))) (.second) (.val (.long (own_f (fc.toInt64) 11))) (.second) (.val (.long (own_f (fc.toInt64) 12))) (.second) (.val (.long (own_f (fc.toInt64) 13))) (.second) (.val (.long (own_f (fc.toInt64) 14))) (.second) (.val (.long (own_f (fc.toInt64) 15))) (.second) b3 X6 hx hZ hw hby hml hown e6 n0 Z3 N6 (own_hok (f := own_f (fc.toInt64)) hdc V 3 (3 : Int32) (by decide))
  obtain ⟨T8, L8, X8, N8, e8, st8⟩ := tn0_ck4 (.val (.int p1)) (.val (.int p2)) dc (.val (.int fc)) (.val (.long (fc.toInt64))) (.second) (.val (.long (1 : Int64))) (.second) (.val (.long (fc.toInt64))) (.second) (.val (.long (own_f (fc.toInt64) 2))) (.second) (.val (.long (own_f (fc.toInt64) 3))) (.second) (own_f (fc.toInt64) 4) (.val (.long (own_f (fc.toInt64) 5))) (.second) (.val (.long (own_f (fc.toInt64) 6))) (.second) (.val (.long (own_f (fc.toInt64) 7))) (.second) (.val (.long (own_f (fc.toInt64) 8))) (.second) (.val (.long (own_f (fc.toInt64) 9))) (.second) (.val (.long (own_f (fc.toInt64) 10))) (.second) (.val (.long (own_f (fc.toInt64) 11))) (.second) (.val (.long (own_f (fc.toInt64) 12))) (.second) (.val (.long (own_f (fc.toInt64) 13))) (.second) (.val (.long (own_f (fc.toInt64) 14))) (.second) (.val (.long (own_f (fc.toInt64) 15))) (.second) b3 X7 hx hZ hw hby hml hown e7 n0 Z3 N7 (own_hok (f := own_f (fc.toInt64)) hdc V 4 (4 : Int32) (by decide))
  obtain ⟨T9, L9, X9, N9, e9, st9⟩ := tn0_ck5 (.val (.int p1)) (.val (.int p2)) dc (.val (.int fc)) (.val (.long (fc.toInt64))) (.second) (.val (.long (1 : Int64))) (.second) (.val (.long (fc.toInt64))) (.second) (.val (.long (own_f (fc.toInt64) 2))) (.second) (.val (.long (own_f (fc.toInt64) 3))) (.second) (.val (.long (own_f (fc.toInt64) 4))) (.second) (own_f (fc.toInt64) 5) (.val (.long (own_f (fc.toInt64) 6))) (.second) (.val (.long (own_f (fc.toInt64) 7))) (.second) (.val (.long (own_f (fc.toInt64) 8))) (.second) (.val (.long (own_f (fc.toInt64) 9))) (.second) (.val (.long (own_f (fc.toInt64) 10))) (.second) (.val (.long (own_f (fc.toInt64) 11))) (.second) (.val (.long (own_f (fc.toInt64) 12))) (.second) (.val (.long (own_f (fc.toInt64) 13))) (.second) (.val (.long (own_f (fc.toInt64) 14))) (.second) (.val (.long (own_f (fc.toInt64) 15))) (.second) b3 X8 hx hZ hw hby hml hown e8 n0 Z3 N8 (own_hok (f := own_f (fc.toInt64)) hdc V 5 (5 : Int32) (by decide))
  obtain ⟨T10, L10, X10, N10, e10, st10⟩ := tn0_ck6 (.val (.int p1)) (.val (.int p2)) dc (.val (.int fc)) (.val (.long (fc.toInt64))) (.second) (.val (.long (1 : Int64))) (.second) (.val (.long (fc.toInt64))) (.second) (.val (.long (own_f (fc.toInt64) 2))) (.second) (.val (.long (own_f (fc.toInt64) 3))) (.second) (.val (.long (own_f (fc.toInt64) 4))) (.second) (.val (.long (own_f (fc.toInt64) 5))) (.second) (own_f (fc.toInt64) 6) (.val (.long (own_f (fc.toInt64) 7))) (.second) (.val (.long (own_f (fc.toInt64) 8))) (.second) (.val (.long (own_f (fc.toInt64) 9))) (.second) (.val (.long (own_f (fc.toInt64) 10))) (.second) (.val (.long (own_f (fc.toInt64) 11))) (.second) (.val (.long (own_f (fc.toInt64) 12))) (.second) (.val (.long (own_f (fc.toInt64) 13))) (.second) (.val (.long (own_f (fc.toInt64) 14))) (.second) (.val (.long (own_f (fc.toInt64) 15))) (.second) b3 X9 hx hZ hw hby hml hown e9 n0 Z3 N9 (own_hok (f := own_f (fc.toInt64)) hdc V 6 (6 : Int32) (by decide))
  obtain ⟨T11, L11, X11, N11, e11, st11⟩ := tn0_ck7 (.val (.int p1)) (.val (.int p2)) dc (.val (.int fc)) (.val (.long (fc.toInt64))) (.second) (.val (.long (1 : Int64))) (.second) (.val (.long (fc.toInt64))) (.second) (.val (.long (own_f (fc.toInt64) 2))) (.second) (.val (.long (own_f (fc.toInt64) 3))) (.second) (.val (.long (own_f (fc.toInt64) 4))) (.second) (.val (.long (own_f (fc.toInt64) 5))) (.second) (.val (.long (own_f (fc.toInt64) 6))) (.second) (own_f (fc.toInt64) 7) (.val (.long (own_f (fc.toInt64) 8))) (.second) (.val (.long (own_f (fc.toInt64) 9))) (.second) (.val (.long (own_f (fc.toInt64) 10))) (.second) (.val (.long (own_f (fc.toInt64) 11))) (.second) (.val (.long (own_f (fc.toInt64) 12))) (.second) (.val (.long (own_f (fc.toInt64) 13))) (.second) (.val (.long (own_f (fc.toInt64) 14))) (.second) (.val (.long (own_f (fc.toInt64) 15))) (.second) b3 X10 hx hZ hw hby hml hown e10 n0 Z3 N10 (own_hok (f := own_f (fc.toInt64)) hdc V 7 (7 : Int32) (by decide))
  obtain ⟨T12, L12, X12, N12, e12, st12⟩ := tn0_ck8 (.val (.int p1)) (.val (.int p2)) dc (.val (.int fc)) (.val (.long (fc.toInt64))) (.second) (.val (.long (1 : Int64))) (.second) (.val (.long (fc.toInt64))) (.second) (.val (.long (own_f (fc.toInt64) 2))) (.second) (.val (.long (own_f (fc.toInt64) 3))) (.second) (.val (.long (own_f (fc.toInt64) 4))) (.second) (.val (.long (own_f (fc.toInt64) 5))) (.second) (.val (.long (own_f (fc.toInt64) 6))) (.second) (.val (.long (own_f (fc.toInt64) 7))) (.second) (own_f (fc.toInt64) 8) (.val (.long (own_f (fc.toInt64) 9))) (.second) (.val (.long (own_f (fc.toInt64) 10))) (.second) (.val (.long (own_f (fc.toInt64) 11))) (.second) (.val (.long (own_f (fc.toInt64) 12))) (.second) (.val (.long (own_f (fc.toInt64) 13))) (.second) (.val (.long (own_f (fc.toInt64) 14))) (.second) (.val (.long (own_f (fc.toInt64) 15))) (.second) b3 X11 hx hZ hw hby hml hown e11 n0 Z3 N11 (own_hok (f := own_f (fc.toInt64)) hdc V 8 (8 : Int32) (by decide))
  obtain ⟨T13, L13, X13, N13, e13, st13⟩ := tn0_ck9 (.val (.int p1)) (.val (.int p2)) dc (.val (.int fc)) (.val (.long (fc.toInt64))) (.second) (.val (.long (1 : Int64))) (.second) (.val (.long (fc.toInt64))) (.second) (.val (.long (own_f (fc.toInt64) 2))) (.second) (.val (.long (own_f (fc.toInt64) 3))) (.second) (.val (.long (own_f (fc.toInt64) 4))) (.second) (.val (.long (own_f (fc.toInt64) 5))) (.second) (.val (.long (own_f (fc.toInt64) 6))) (.second) (.val (.long (own_f (fc.toInt64) 7))) (.second) (.val (.long (own_f (fc.toInt64) 8))) (.second) (own_f (fc.toInt64) 9) (.val (.long (own_f (fc.toInt64) 10))) (.second) (.val (.long (own_f (fc.toInt64) 11))) (.second) (.val (.long (own_f (fc.toInt64) 12))) (.second) (.val (.long (own_f (fc.toInt64) 13))) (.second) (.val (.long (own_f (fc.toInt64) 14))) (.second) (.val (.long (own_f (fc.toInt64) 15))) (.second) b3 X12 hx hZ hw hby hml hown e12 n0 Z3 N12 (own_hok (f := own_f (fc.toInt64)) hdc V 9 (9 : Int32) (by decide))
  obtain ⟨T14, L14, X14, N14, e14, st14⟩ := tn0_ck10 (.val (.int p1)) (.val (.int p2)) dc (.val (.int fc)) (.val (.long (fc.toInt64))) (.second) (.val (.long (1 : Int64))) (.second) (.val (.long (fc.toInt64))) (.second) (.val (.long (own_f (fc.toInt64) 2))) (.second) (.val (.long (own_f (fc.toInt64) 3))) (.second) (.val (.long (own_f (fc.toInt64) 4))) (.second) (.val (.long (own_f (fc.toInt64) 5))) (.second) (.val (.long (own_f (fc.toInt64) 6))) (.second) (.val (.long (own_f (fc.toInt64) 7))) (.second) (.val (.long (own_f (fc.toInt64) 8))) (.second) (.val (.long (own_f (fc.toInt64) 9))) (.second) (own_f (fc.toInt64) 10) (.val (.long (own_f (fc.toInt64) 11))) (.second) (.val (.long (own_f (fc.toInt64) 12))) (.second) (.val (.long (own_f (fc.toInt64) 13))) (.second) (.val (.long (own_f (fc.toInt64) 14))) (.second) (.val (.long (own_f (fc.toInt64) 15))) (.second) b3 X13 hx hZ hw hby hml hown e13 n0 Z3 N13 (own_hok (f := own_f (fc.toInt64)) hdc V 10 (10 : Int32) (by decide))
  obtain ⟨T15, L15, X15, N15, e15, st15⟩ := tn0_ck11 (.val (.int p1)) (.val (.int p2)) dc (.val (.int fc)) (.val (.long (fc.toInt64))) (.second) (.val (.long (1 : Int64))) (.second) (.val (.long (fc.toInt64))) (.second) (.val (.long (own_f (fc.toInt64) 2))) (.second) (.val (.long (own_f (fc.toInt64) 3))) (.second) (.val (.long (own_f (fc.toInt64) 4))) (.second) (.val (.long (own_f (fc.toInt64) 5))) (.second) (.val (.long (own_f (fc.toInt64) 6))) (.second) (.val (.long (own_f (fc.toInt64) 7))) (.second) (.val (.long (own_f (fc.toInt64) 8))) (.second) (.val (.long (own_f (fc.toInt64) 9))) (.second) (.val (.long (own_f (fc.toInt64) 10))) (.second) (own_f (fc.toInt64) 11) (.val (.long (own_f (fc.toInt64) 12))) (.second) (.val (.long (own_f (fc.toInt64) 13))) (.second) (.val (.long (own_f (fc.toInt64) 14))) (.second) (.val (.long (own_f (fc.toInt64) 15))) (.second) b3 X14 hx hZ hw hby hml hown e14 n0 Z3 N14 (own_hok (f := own_f (fc.toInt64)) hdc V 11 (11 : Int32) (by decide))
  obtain ⟨T16, L16, X16, N16, e16, st16⟩ := tn0_ck12 (.val (.int p1)) (.val (.int p2)) dc (.val (.int fc)) (.val (.long (fc.toInt64))) (.second) (.val (.long (1 : Int64))) (.second) (.val (.long (fc.toInt64))) (.second) (.val (.long (own_f (fc.toInt64) 2))) (.second) (.val (.long (own_f (fc.toInt64) 3))) (.second) (.val (.long (own_f (fc.toInt64) 4))) (.second) (.val (.long (own_f (fc.toInt64) 5))) (.second) (.val (.long (own_f (fc.toInt64) 6))) (.second) (.val (.long (own_f (fc.toInt64) 7))) (.second) (.val (.long (own_f (fc.toInt64) 8))) (.second) (.val (.long (own_f (fc.toInt64) 9))) (.second) (.val (.long (own_f (fc.toInt64) 10))) (.second) (.val (.long (own_f (fc.toInt64) 11))) (.second) (own_f (fc.toInt64) 12) (.val (.long (own_f (fc.toInt64) 13))) (.second) (.val (.long (own_f (fc.toInt64) 14))) (.second) (.val (.long (own_f (fc.toInt64) 15))) (.second) b3 X15 hx hZ hw hby hml hown e15 n0 Z3 N15 (own_hok (f := own_f (fc.toInt64)) hdc V 12 (12 : Int32) (by decide))
  obtain ⟨T17, L17, X17, N17, e17, st17⟩ := tn0_ck13 (.val (.int p1)) (.val (.int p2)) dc (.val (.int fc)) (.val (.long (fc.toInt64))) (.second) (.val (.long (1 : Int64))) (.second) (.val (.long (fc.toInt64))) (.second) (.val (.long (own_f (fc.toInt64) 2))) (.second) (.val (.long (own_f (fc.toInt64) 3))) (.second) (.val (.long (own_f (fc.toInt64) 4))) (.second) (.val (.long (own_f (fc.toInt64) 5))) (.second) (.val (.long (own_f (fc.toInt64) 6))) (.second) (.val (.long (own_f (fc.toInt64) 7))) (.second) (.val (.long (own_f (fc.toInt64) 8))) (.second) (.val (.long (own_f (fc.toInt64) 9))) (.second) (.val (.long (own_f (fc.toInt64) 10))) (.second) (.val (.long (own_f (fc.toInt64) 11))) (.second) (.val (.long (own_f (fc.toInt64) 12))) (.second) (own_f (fc.toInt64) 13) (.val (.long (own_f (fc.toInt64) 14))) (.second) (.val (.long (own_f (fc.toInt64) 15))) (.second) b3 X16 hx hZ hw hby hml hown e16 n0 Z3 N16 (own_hok (f := own_f (fc.toInt64)) hdc V 13 (13 : Int32) (by decide))
  obtain ⟨T18, L18, X18, N18, e18, st18⟩ := tn0_ck14 (.val (.int p1)) (.val (.int p2)) dc (.val (.int fc)) (.val (.long (fc.toInt64))) (.second) (.val (.long (1 : Int64))) (.second) (.val (.long (fc.toInt64))) (.second) (.val (.long (own_f (fc.toInt64) 2))) (.second) (.val (.long (own_f (fc.toInt64) 3))) (.second) (.val (.long (own_f (fc.toInt64) 4))) (.second) (.val (.long (own_f (fc.toInt64) 5))) (.second) (.val (.long (own_f (fc.toInt64) 6))) (.second) (.val (.long (own_f (fc.toInt64) 7))) (.second) (.val (.long (own_f (fc.toInt64) 8))) (.second) (.val (.long (own_f (fc.toInt64) 9))) (.second) (.val (.long (own_f (fc.toInt64) 10))) (.second) (.val (.long (own_f (fc.toInt64) 11))) (.second) (.val (.long (own_f (fc.toInt64) 12))) (.second) (.val (.long (own_f (fc.toInt64) 13))) (.second) (own_f (fc.toInt64) 14) (.val (.long (own_f (fc.toInt64) 15))) (.second) b3 X17 hx hZ hw hby hml hown e17 n0 Z3 N17 (own_hok (f := own_f (fc.toInt64)) hdc V 14 (14 : Int32) (by decide))
  obtain ⟨T19, L19, X19, N19, e19, st19⟩ := tn0_ck15 (.val (.int p1)) (.val (.int p2)) dc (.val (.int fc)) (.val (.long (fc.toInt64))) (.second) (.val (.long (1 : Int64))) (.second) (.val (.long (fc.toInt64))) (.second) (.val (.long (own_f (fc.toInt64) 2))) (.second) (.val (.long (own_f (fc.toInt64) 3))) (.second) (.val (.long (own_f (fc.toInt64) 4))) (.second) (.val (.long (own_f (fc.toInt64) 5))) (.second) (.val (.long (own_f (fc.toInt64) 6))) (.second) (.val (.long (own_f (fc.toInt64) 7))) (.second) (.val (.long (own_f (fc.toInt64) 8))) (.second) (.val (.long (own_f (fc.toInt64) 9))) (.second) (.val (.long (own_f (fc.toInt64) 10))) (.second) (.val (.long (own_f (fc.toInt64) 11))) (.second) (.val (.long (own_f (fc.toInt64) 12))) (.second) (.val (.long (own_f (fc.toInt64) 13))) (.second) (.val (.long (own_f (fc.toInt64) 14))) (.second) (own_f (fc.toInt64) 15) b3 X18 hx hZ hw hby hml hown e18 n0 Z3 N18 (own_hok (f := own_f (fc.toInt64)) hdc V 15 (15 : Int32) (by decide))
  refine ⟨T19, L19, b3, X19, N19, fun target h => ?_⟩
  show Steps p.tables e below (T0.setTop (mkF m 19 #[.val (.int p1), .val (.int p2), .val (.int dc), .val (.int fc), .unset, .unset, .unset, .unset, .unset, .unset, .unset, .unset, .unset, .unset, .unset, .unset, .unset, .unset, .unset, .unset, .unset, .unset, .unset, .unset, .unset, .unset, .unset, .unset, .unset, .unset, .unset, .unset, .unset, .unset, .unset, .unset, .unset, .unset, .unset] [])) _
  refine XS.iloadN X0.here hx rfl (hb hby at_19) rfl ?_
  show Steps p.tables e below (T0.setTop (mkF m 20 #[.val (.int p1), .val (.int p2), .val (.int dc), .val (.int fc), .unset, .unset, .unset, .unset, .unset, .unset, .unset, .unset, .unset, .unset, .unset, .unset, .unset, .unset, .unset, .unset, .unset, .unset, .unset, .unset, .unset, .unset, .unset, .unset, .unset, .unset, .unset, .unset, .unset, .unset, .unset, .unset, .unset, .unset, .unset] [(.int fc)])) _
  refine XS.i2l X0.here hx rfl (hb hby at_20) rfl ?_
  show Steps p.tables e below (T0.setTop (mkF m 21 #[.val (.int p1), .val (.int p2), .val (.int dc), .val (.int fc), .unset, .unset, .unset, .unset, .unset, .unset, .unset, .unset, .unset, .unset, .unset, .unset, .unset, .unset, .unset, .unset, .unset, .unset, .unset, .unset, .unset, .unset, .unset, .unset, .unset, .unset, .unset, .unset, .unset, .unset, .unset, .unset, .unset, .unset, .unset] [(.long (fc.toInt64))])) _
  refine XS.lstore X0.here hx rfl (hb hby at_21) rfl (l' := #[.val (.int p1), .val (.int p2), .val (.int dc), .val (.int fc), .val (.long (fc.toInt64)), .second, .unset, .unset, .unset, .unset, .unset, .unset, .unset, .unset, .unset, .unset, .unset, .unset, .unset, .unset, .unset, .unset, .unset, .unset, .unset, .unset, .unset, .unset, .unset, .unset, .unset, .unset, .unset, .unset, .unset, .unset, .unset, .unset, .unset]) rfl ?_
  show Steps p.tables e below (T0.setTop (mkF m 23 #[.val (.int p1), .val (.int p2), .val (.int dc), .val (.int fc), .val (.long (fc.toInt64)), .second, .unset, .unset, .unset, .unset, .unset, .unset, .unset, .unset, .unset, .unset, .unset, .unset, .unset, .unset, .unset, .unset, .unset, .unset, .unset, .unset, .unset, .unset, .unset, .unset, .unset, .unset, .unset, .unset, .unset, .unset, .unset, .unset, .unset] [])) _
  refine XS.lconst X0.here hx rfl (hb hby at_23) ?_
  show Steps p.tables e below (T0.setTop (mkF m 24 #[.val (.int p1), .val (.int p2), .val (.int dc), .val (.int fc), .val (.long (fc.toInt64)), .second, .unset, .unset, .unset, .unset, .unset, .unset, .unset, .unset, .unset, .unset, .unset, .unset, .unset, .unset, .unset, .unset, .unset, .unset, .unset, .unset, .unset, .unset, .unset, .unset, .unset, .unset, .unset, .unset, .unset, .unset, .unset, .unset, .unset] [(.long (1 : Int64))])) _
  refine XS.lstore X0.here hx rfl (hb hby at_24) rfl (l' := #[.val (.int p1), .val (.int p2), .val (.int dc), .val (.int fc), .val (.long (fc.toInt64)), .second, .val (.long (1 : Int64)), .second, .unset, .unset, .unset, .unset, .unset, .unset, .unset, .unset, .unset, .unset, .unset, .unset, .unset, .unset, .unset, .unset, .unset, .unset, .unset, .unset, .unset, .unset, .unset, .unset, .unset, .unset, .unset, .unset, .unset, .unset, .unset]) rfl ?_
  show Steps p.tables e below (T0.setTop (mkF m 26 #[.val (.int p1), .val (.int p2), .val (.int dc), .val (.int fc), .val (.long (fc.toInt64)), .second, .val (.long (1 : Int64)), .second, .unset, .unset, .unset, .unset, .unset, .unset, .unset, .unset, .unset, .unset, .unset, .unset, .unset, .unset, .unset, .unset, .unset, .unset, .unset, .unset, .unset, .unset, .unset, .unset, .unset, .unset, .unset, .unset, .unset, .unset, .unset] [])) _
  refine XS.lload X0.here hx rfl (hb hby at_26) rfl ?_
  show Steps p.tables e below (T0.setTop (mkF m 28 #[.val (.int p1), .val (.int p2), .val (.int dc), .val (.int fc), .val (.long (fc.toInt64)), .second, .val (.long (1 : Int64)), .second, .unset, .unset, .unset, .unset, .unset, .unset, .unset, .unset, .unset, .unset, .unset, .unset, .unset, .unset, .unset, .unset, .unset, .unset, .unset, .unset, .unset, .unset, .unset, .unset, .unset, .unset, .unset, .unset, .unset, .unset, .unset] [(.long (fc.toInt64))])) _
  refine XS.lstore X0.here hx rfl (hb hby at_28) rfl (l' := #[.val (.int p1), .val (.int p2), .val (.int dc), .val (.int fc), .val (.long (fc.toInt64)), .second, .val (.long (1 : Int64)), .second, .val (.long (fc.toInt64)), .second, .unset, .unset, .unset, .unset, .unset, .unset, .unset, .unset, .unset, .unset, .unset, .unset, .unset, .unset, .unset, .unset, .unset, .unset, .unset, .unset, .unset, .unset, .unset, .unset, .unset, .unset, .unset, .unset, .unset]) rfl ?_
  show Steps p.tables e below (T0.setTop (mkF m 30 #[.val (.int p1), .val (.int p2), .val (.int dc), .val (.int fc), .val (.long (fc.toInt64)), .second, .val (.long (1 : Int64)), .second, .val (.long (fc.toInt64)), .second, .unset, .unset, .unset, .unset, .unset, .unset, .unset, .unset, .unset, .unset, .unset, .unset, .unset, .unset, .unset, .unset, .unset, .unset, .unset, .unset, .unset, .unset, .unset, .unset, .unset, .unset, .unset, .unset, .unset] [])) _
  refine XS.lload X0.here hx rfl (hb hby at_30) rfl ?_
  show Steps p.tables e below (T0.setTop (mkF m 32 #[.val (.int p1), .val (.int p2), .val (.int dc), .val (.int fc), .val (.long (fc.toInt64)), .second, .val (.long (1 : Int64)), .second, .val (.long (fc.toInt64)), .second, .unset, .unset, .unset, .unset, .unset, .unset, .unset, .unset, .unset, .unset, .unset, .unset, .unset, .unset, .unset, .unset, .unset, .unset, .unset, .unset, .unset, .unset, .unset, .unset, .unset, .unset, .unset, .unset, .unset] [(.long (fc.toInt64))])) _
  refine XS.lload X0.here hx rfl (hb hby at_32) rfl ?_
  show Steps p.tables e below (T0.setTop (mkF m 34 #[.val (.int p1), .val (.int p2), .val (.int dc), .val (.int fc), .val (.long (fc.toInt64)), .second, .val (.long (1 : Int64)), .second, .val (.long (fc.toInt64)), .second, .unset, .unset, .unset, .unset, .unset, .unset, .unset, .unset, .unset, .unset, .unset, .unset, .unset, .unset, .unset, .unset, .unset, .unset, .unset, .unset, .unset, .unset, .unset, .unset, .unset, .unset, .unset, .unset, .unset] [(.long (fc.toInt64)), (.long (fc.toInt64))])) _
  refine XS.lmul X0.here hx rfl (hb hby at_34) rfl ?_
  show Steps p.tables e below (T0.setTop (mkF m 35 #[.val (.int p1), .val (.int p2), .val (.int dc), .val (.int fc), .val (.long (fc.toInt64)), .second, .val (.long (1 : Int64)), .second, .val (.long (fc.toInt64)), .second, .unset, .unset, .unset, .unset, .unset, .unset, .unset, .unset, .unset, .unset, .unset, .unset, .unset, .unset, .unset, .unset, .unset, .unset, .unset, .unset, .unset, .unset, .unset, .unset, .unset, .unset, .unset, .unset, .unset] [(.long (own_f (fc.toInt64) 2))])) _
  refine XS.lstore X0.here hx rfl (hb hby at_35) rfl (l' := #[.val (.int p1), .val (.int p2), .val (.int dc), .val (.int fc), .val (.long (fc.toInt64)), .second, .val (.long (1 : Int64)), .second, .val (.long (fc.toInt64)), .second, .val (.long (own_f (fc.toInt64) 2)), .second, .unset, .unset, .unset, .unset, .unset, .unset, .unset, .unset, .unset, .unset, .unset, .unset, .unset, .unset, .unset, .unset, .unset, .unset, .unset, .unset, .unset, .unset, .unset, .unset, .unset, .unset, .unset]) rfl ?_
  show Steps p.tables e below (T0.setTop (mkF m 37 #[.val (.int p1), .val (.int p2), .val (.int dc), .val (.int fc), .val (.long (fc.toInt64)), .second, .val (.long (1 : Int64)), .second, .val (.long (fc.toInt64)), .second, .val (.long (own_f (fc.toInt64) 2)), .second, .unset, .unset, .unset, .unset, .unset, .unset, .unset, .unset, .unset, .unset, .unset, .unset, .unset, .unset, .unset, .unset, .unset, .unset, .unset, .unset, .unset, .unset, .unset, .unset, .unset, .unset, .unset] [])) _
  refine XS.lload X0.here hx rfl (hb hby at_37) rfl ?_
  show Steps p.tables e below (T0.setTop (mkF m 39 #[.val (.int p1), .val (.int p2), .val (.int dc), .val (.int fc), .val (.long (fc.toInt64)), .second, .val (.long (1 : Int64)), .second, .val (.long (fc.toInt64)), .second, .val (.long (own_f (fc.toInt64) 2)), .second, .unset, .unset, .unset, .unset, .unset, .unset, .unset, .unset, .unset, .unset, .unset, .unset, .unset, .unset, .unset, .unset, .unset, .unset, .unset, .unset, .unset, .unset, .unset, .unset, .unset, .unset, .unset] [(.long (own_f (fc.toInt64) 2))])) _
  refine XS.lload X0.here hx rfl (hb hby at_39) rfl ?_
  show Steps p.tables e below (T0.setTop (mkF m 41 #[.val (.int p1), .val (.int p2), .val (.int dc), .val (.int fc), .val (.long (fc.toInt64)), .second, .val (.long (1 : Int64)), .second, .val (.long (fc.toInt64)), .second, .val (.long (own_f (fc.toInt64) 2)), .second, .unset, .unset, .unset, .unset, .unset, .unset, .unset, .unset, .unset, .unset, .unset, .unset, .unset, .unset, .unset, .unset, .unset, .unset, .unset, .unset, .unset, .unset, .unset, .unset, .unset, .unset, .unset] [(.long (fc.toInt64)), (.long (own_f (fc.toInt64) 2))])) _
  refine XS.lmul X0.here hx rfl (hb hby at_41) rfl ?_
  show Steps p.tables e below (T0.setTop (mkF m 42 #[.val (.int p1), .val (.int p2), .val (.int dc), .val (.int fc), .val (.long (fc.toInt64)), .second, .val (.long (1 : Int64)), .second, .val (.long (fc.toInt64)), .second, .val (.long (own_f (fc.toInt64) 2)), .second, .unset, .unset, .unset, .unset, .unset, .unset, .unset, .unset, .unset, .unset, .unset, .unset, .unset, .unset, .unset, .unset, .unset, .unset, .unset, .unset, .unset, .unset, .unset, .unset, .unset, .unset, .unset] [(.long (own_f (fc.toInt64) 3))])) _
  refine XS.lstore X0.here hx rfl (hb hby at_42) rfl (l' := #[.val (.int p1), .val (.int p2), .val (.int dc), .val (.int fc), .val (.long (fc.toInt64)), .second, .val (.long (1 : Int64)), .second, .val (.long (fc.toInt64)), .second, .val (.long (own_f (fc.toInt64) 2)), .second, .val (.long (own_f (fc.toInt64) 3)), .second, .unset, .unset, .unset, .unset, .unset, .unset, .unset, .unset, .unset, .unset, .unset, .unset, .unset, .unset, .unset, .unset, .unset, .unset, .unset, .unset, .unset, .unset, .unset, .unset, .unset]) rfl ?_
  show Steps p.tables e below (T0.setTop (mkF m 44 #[.val (.int p1), .val (.int p2), .val (.int dc), .val (.int fc), .val (.long (fc.toInt64)), .second, .val (.long (1 : Int64)), .second, .val (.long (fc.toInt64)), .second, .val (.long (own_f (fc.toInt64) 2)), .second, .val (.long (own_f (fc.toInt64) 3)), .second, .unset, .unset, .unset, .unset, .unset, .unset, .unset, .unset, .unset, .unset, .unset, .unset, .unset, .unset, .unset, .unset, .unset, .unset, .unset, .unset, .unset, .unset, .unset, .unset, .unset] [])) _
  refine XS.lload X0.here hx rfl (hb hby at_44) rfl ?_
  show Steps p.tables e below (T0.setTop (mkF m 46 #[.val (.int p1), .val (.int p2), .val (.int dc), .val (.int fc), .val (.long (fc.toInt64)), .second, .val (.long (1 : Int64)), .second, .val (.long (fc.toInt64)), .second, .val (.long (own_f (fc.toInt64) 2)), .second, .val (.long (own_f (fc.toInt64) 3)), .second, .unset, .unset, .unset, .unset, .unset, .unset, .unset, .unset, .unset, .unset, .unset, .unset, .unset, .unset, .unset, .unset, .unset, .unset, .unset, .unset, .unset, .unset, .unset, .unset, .unset] [(.long (own_f (fc.toInt64) 3))])) _
  refine XS.lload X0.here hx rfl (hb hby at_46) rfl ?_
  show Steps p.tables e below (T0.setTop (mkF m 48 #[.val (.int p1), .val (.int p2), .val (.int dc), .val (.int fc), .val (.long (fc.toInt64)), .second, .val (.long (1 : Int64)), .second, .val (.long (fc.toInt64)), .second, .val (.long (own_f (fc.toInt64) 2)), .second, .val (.long (own_f (fc.toInt64) 3)), .second, .unset, .unset, .unset, .unset, .unset, .unset, .unset, .unset, .unset, .unset, .unset, .unset, .unset, .unset, .unset, .unset, .unset, .unset, .unset, .unset, .unset, .unset, .unset, .unset, .unset] [(.long (fc.toInt64)), (.long (own_f (fc.toInt64) 3))])) _
  refine XS.lmul X0.here hx rfl (hb hby at_48) rfl ?_
  show Steps p.tables e below (T0.setTop (mkF m 49 #[.val (.int p1), .val (.int p2), .val (.int dc), .val (.int fc), .val (.long (fc.toInt64)), .second, .val (.long (1 : Int64)), .second, .val (.long (fc.toInt64)), .second, .val (.long (own_f (fc.toInt64) 2)), .second, .val (.long (own_f (fc.toInt64) 3)), .second, .unset, .unset, .unset, .unset, .unset, .unset, .unset, .unset, .unset, .unset, .unset, .unset, .unset, .unset, .unset, .unset, .unset, .unset, .unset, .unset, .unset, .unset, .unset, .unset, .unset] [(.long (own_f (fc.toInt64) 4))])) _
  refine XS.lstore X0.here hx rfl (hb hby at_49) rfl (l' := #[.val (.int p1), .val (.int p2), .val (.int dc), .val (.int fc), .val (.long (fc.toInt64)), .second, .val (.long (1 : Int64)), .second, .val (.long (fc.toInt64)), .second, .val (.long (own_f (fc.toInt64) 2)), .second, .val (.long (own_f (fc.toInt64) 3)), .second, .val (.long (own_f (fc.toInt64) 4)), .second, .unset, .unset, .unset, .unset, .unset, .unset, .unset, .unset, .unset, .unset, .unset, .unset, .unset, .unset, .unset, .unset, .unset, .unset, .unset, .unset, .unset, .unset, .unset]) rfl ?_
  show Steps p.tables e below (T0.setTop (mkF m 51 #[.val (.int p1), .val (.int p2), .val (.int dc), .val (.int fc), .val (.long (fc.toInt64)), .second, .val (.long (1 : Int64)), .second, .val (.long (fc.toInt64)), .second, .val (.long (own_f (fc.toInt64) 2)), .second, .val (.long (own_f (fc.toInt64) 3)), .second, .val (.long (own_f (fc.toInt64) 4)), .second, .unset, .unset, .unset, .unset, .unset, .unset, .unset, .unset, .unset, .unset, .unset, .unset, .unset, .unset, .unset, .unset, .unset, .unset, .unset, .unset, .unset, .unset, .unset] [])) _
  refine XS.lload X0.here hx rfl (hb hby at_51) rfl ?_
  show Steps p.tables e below (T0.setTop (mkF m 53 #[.val (.int p1), .val (.int p2), .val (.int dc), .val (.int fc), .val (.long (fc.toInt64)), .second, .val (.long (1 : Int64)), .second, .val (.long (fc.toInt64)), .second, .val (.long (own_f (fc.toInt64) 2)), .second, .val (.long (own_f (fc.toInt64) 3)), .second, .val (.long (own_f (fc.toInt64) 4)), .second, .unset, .unset, .unset, .unset, .unset, .unset, .unset, .unset, .unset, .unset, .unset, .unset, .unset, .unset, .unset, .unset, .unset, .unset, .unset, .unset, .unset, .unset, .unset] [(.long (own_f (fc.toInt64) 4))])) _
  refine XS.lload X0.here hx rfl (hb hby at_53) rfl ?_
  show Steps p.tables e below (T0.setTop (mkF m 55 #[.val (.int p1), .val (.int p2), .val (.int dc), .val (.int fc), .val (.long (fc.toInt64)), .second, .val (.long (1 : Int64)), .second, .val (.long (fc.toInt64)), .second, .val (.long (own_f (fc.toInt64) 2)), .second, .val (.long (own_f (fc.toInt64) 3)), .second, .val (.long (own_f (fc.toInt64) 4)), .second, .unset, .unset, .unset, .unset, .unset, .unset, .unset, .unset, .unset, .unset, .unset, .unset, .unset, .unset, .unset, .unset, .unset, .unset, .unset, .unset, .unset, .unset, .unset] [(.long (fc.toInt64)), (.long (own_f (fc.toInt64) 4))])) _
  refine XS.lmul X0.here hx rfl (hb hby at_55) rfl ?_
  show Steps p.tables e below (T0.setTop (mkF m 56 #[.val (.int p1), .val (.int p2), .val (.int dc), .val (.int fc), .val (.long (fc.toInt64)), .second, .val (.long (1 : Int64)), .second, .val (.long (fc.toInt64)), .second, .val (.long (own_f (fc.toInt64) 2)), .second, .val (.long (own_f (fc.toInt64) 3)), .second, .val (.long (own_f (fc.toInt64) 4)), .second, .unset, .unset, .unset, .unset, .unset, .unset, .unset, .unset, .unset, .unset, .unset, .unset, .unset, .unset, .unset, .unset, .unset, .unset, .unset, .unset, .unset, .unset, .unset] [(.long (own_f (fc.toInt64) 5))])) _
  refine XS.lstore X0.here hx rfl (hb hby at_56) rfl (l' := #[.val (.int p1), .val (.int p2), .val (.int dc), .val (.int fc), .val (.long (fc.toInt64)), .second, .val (.long (1 : Int64)), .second, .val (.long (fc.toInt64)), .second, .val (.long (own_f (fc.toInt64) 2)), .second, .val (.long (own_f (fc.toInt64) 3)), .second, .val (.long (own_f (fc.toInt64) 4)), .second, .val (.long (own_f (fc.toInt64) 5)), .second, .unset, .unset, .unset, .unset, .unset, .unset, .unset, .unset, .unset, .unset, .unset, .unset, .unset, .unset, .unset, .unset, .unset, .unset, .unset, .unset, .unset]) rfl ?_
  show Steps p.tables e below (T0.setTop (mkF m 58 #[.val (.int p1), .val (.int p2), .val (.int dc), .val (.int fc), .val (.long (fc.toInt64)), .second, .val (.long (1 : Int64)), .second, .val (.long (fc.toInt64)), .second, .val (.long (own_f (fc.toInt64) 2)), .second, .val (.long (own_f (fc.toInt64) 3)), .second, .val (.long (own_f (fc.toInt64) 4)), .second, .val (.long (own_f (fc.toInt64) 5)), .second, .unset, .unset, .unset, .unset, .unset, .unset, .unset, .unset, .unset, .unset, .unset, .unset, .unset, .unset, .unset, .unset, .unset, .unset, .unset, .unset, .unset] [])) _
  refine XS.lload X0.here hx rfl (hb hby at_58) rfl ?_
  show Steps p.tables e below (T0.setTop (mkF m 60 #[.val (.int p1), .val (.int p2), .val (.int dc), .val (.int fc), .val (.long (fc.toInt64)), .second, .val (.long (1 : Int64)), .second, .val (.long (fc.toInt64)), .second, .val (.long (own_f (fc.toInt64) 2)), .second, .val (.long (own_f (fc.toInt64) 3)), .second, .val (.long (own_f (fc.toInt64) 4)), .second, .val (.long (own_f (fc.toInt64) 5)), .second, .unset, .unset, .unset, .unset, .unset, .unset, .unset, .unset, .unset, .unset, .unset, .unset, .unset, .unset, .unset, .unset, .unset, .unset, .unset, .unset, .unset] [(.long (own_f (fc.toInt64) 5))])) _
  refine XS.lload X0.here hx rfl (hb hby at_60) rfl ?_
  show Steps p.tables e below (T0.setTop (mkF m 62 #[.val (.int p1), .val (.int p2), .val (.int dc), .val (.int fc), .val (.long (fc.toInt64)), .second, .val (.long (1 : Int64)), .second, .val (.long (fc.toInt64)), .second, .val (.long (own_f (fc.toInt64) 2)), .second, .val (.long (own_f (fc.toInt64) 3)), .second, .val (.long (own_f (fc.toInt64) 4)), .second, .val (.long (own_f (fc.toInt64) 5)), .second, .unset, .unset, .unset, .unset, .unset, .unset, .unset, .unset, .unset, .unset, .unset, .unset, .unset, .unset, .unset, .unset, .unset, .unset, .unset, .unset, .unset] [(.long (fc.toInt64)), (.long (own_f (fc.toInt64) 5))])) _
  refine XS.lmul X0.here hx rfl (hb hby at_62) rfl ?_
  show Steps p.tables e below (T0.setTop (mkF m 63 #[.val (.int p1), .val (.int p2), .val (.int dc), .val (.int fc), .val (.long (fc.toInt64)), .second, .val (.long (1 : Int64)), .second, .val (.long (fc.toInt64)), .second, .val (.long (own_f (fc.toInt64) 2)), .second, .val (.long (own_f (fc.toInt64) 3)), .second, .val (.long (own_f (fc.toInt64) 4)), .second, .val (.long (own_f (fc.toInt64) 5)), .second, .unset, .unset, .unset, .unset, .unset, .unset, .unset, .unset, .unset, .unset, .unset, .unset, .unset, .unset, .unset, .unset, .unset, .unset, .unset, .unset, .unset] [(.long (own_f (fc.toInt64) 6))])) _
  refine XS.lstore X0.here hx rfl (hb hby at_63) rfl (l' := #[.val (.int p1), .val (.int p2), .val (.int dc), .val (.int fc), .val (.long (fc.toInt64)), .second, .val (.long (1 : Int64)), .second, .val (.long (fc.toInt64)), .second, .val (.long (own_f (fc.toInt64) 2)), .second, .val (.long (own_f (fc.toInt64) 3)), .second, .val (.long (own_f (fc.toInt64) 4)), .second, .val (.long (own_f (fc.toInt64) 5)), .second, .val (.long (own_f (fc.toInt64) 6)), .second, .unset, .unset, .unset, .unset, .unset, .unset, .unset, .unset, .unset, .unset, .unset, .unset, .unset, .unset, .unset, .unset, .unset, .unset, .unset]) rfl ?_
  show Steps p.tables e below (T0.setTop (mkF m 65 #[.val (.int p1), .val (.int p2), .val (.int dc), .val (.int fc), .val (.long (fc.toInt64)), .second, .val (.long (1 : Int64)), .second, .val (.long (fc.toInt64)), .second, .val (.long (own_f (fc.toInt64) 2)), .second, .val (.long (own_f (fc.toInt64) 3)), .second, .val (.long (own_f (fc.toInt64) 4)), .second, .val (.long (own_f (fc.toInt64) 5)), .second, .val (.long (own_f (fc.toInt64) 6)), .second, .unset, .unset, .unset, .unset, .unset, .unset, .unset, .unset, .unset, .unset, .unset, .unset, .unset, .unset, .unset, .unset, .unset, .unset, .unset] [])) _
  refine XS.lload X0.here hx rfl (hb hby at_65) rfl ?_
  show Steps p.tables e below (T0.setTop (mkF m 67 #[.val (.int p1), .val (.int p2), .val (.int dc), .val (.int fc), .val (.long (fc.toInt64)), .second, .val (.long (1 : Int64)), .second, .val (.long (fc.toInt64)), .second, .val (.long (own_f (fc.toInt64) 2)), .second, .val (.long (own_f (fc.toInt64) 3)), .second, .val (.long (own_f (fc.toInt64) 4)), .second, .val (.long (own_f (fc.toInt64) 5)), .second, .val (.long (own_f (fc.toInt64) 6)), .second, .unset, .unset, .unset, .unset, .unset, .unset, .unset, .unset, .unset, .unset, .unset, .unset, .unset, .unset, .unset, .unset, .unset, .unset, .unset] [(.long (own_f (fc.toInt64) 6))])) _
  refine XS.lload X0.here hx rfl (hb hby at_67) rfl ?_
  show Steps p.tables e below (T0.setTop (mkF m 69 #[.val (.int p1), .val (.int p2), .val (.int dc), .val (.int fc), .val (.long (fc.toInt64)), .second, .val (.long (1 : Int64)), .second, .val (.long (fc.toInt64)), .second, .val (.long (own_f (fc.toInt64) 2)), .second, .val (.long (own_f (fc.toInt64) 3)), .second, .val (.long (own_f (fc.toInt64) 4)), .second, .val (.long (own_f (fc.toInt64) 5)), .second, .val (.long (own_f (fc.toInt64) 6)), .second, .unset, .unset, .unset, .unset, .unset, .unset, .unset, .unset, .unset, .unset, .unset, .unset, .unset, .unset, .unset, .unset, .unset, .unset, .unset] [(.long (fc.toInt64)), (.long (own_f (fc.toInt64) 6))])) _
  refine XS.lmul X0.here hx rfl (hb hby at_69) rfl ?_
  show Steps p.tables e below (T0.setTop (mkF m 70 #[.val (.int p1), .val (.int p2), .val (.int dc), .val (.int fc), .val (.long (fc.toInt64)), .second, .val (.long (1 : Int64)), .second, .val (.long (fc.toInt64)), .second, .val (.long (own_f (fc.toInt64) 2)), .second, .val (.long (own_f (fc.toInt64) 3)), .second, .val (.long (own_f (fc.toInt64) 4)), .second, .val (.long (own_f (fc.toInt64) 5)), .second, .val (.long (own_f (fc.toInt64) 6)), .second, .unset, .unset, .unset, .unset, .unset, .unset, .unset, .unset, .unset, .unset, .unset, .unset, .unset, .unset, .unset, .unset, .unset, .unset, .unset] [(.long (own_f (fc.toInt64) 7))])) _
  refine XS.lstore X0.here hx rfl (hb hby at_70) rfl (l' := #[.val (.int p1), .val (.int p2), .val (.int dc), .val (.int fc), .val (.long (fc.toInt64)), .second, .val (.long (1 : Int64)), .second, .val (.long (fc.toInt64)), .second, .val (.long (own_f (fc.toInt64) 2)), .second, .val (.long (own_f (fc.toInt64) 3)), .second, .val (.long (own_f (fc.toInt64) 4)), .second, .val (.long (own_f (fc.toInt64) 5)), .second, .val (.long (own_f (fc.toInt64) 6)), .second, .val (.long (own_f (fc.toInt64) 7)), .second, .unset, .unset, .unset, .unset, .unset, .unset, .unset, .unset, .unset, .unset, .unset, .unset, .unset, .unset, .unset, .unset, .unset]) rfl ?_
  show Steps p.tables e below (T0.setTop (mkF m 72 #[.val (.int p1), .val (.int p2), .val (.int dc), .val (.int fc), .val (.long (fc.toInt64)), .second, .val (.long (1 : Int64)), .second, .val (.long (fc.toInt64)), .second, .val (.long (own_f (fc.toInt64) 2)), .second, .val (.long (own_f (fc.toInt64) 3)), .second, .val (.long (own_f (fc.toInt64) 4)), .second, .val (.long (own_f (fc.toInt64) 5)), .second, .val (.long (own_f (fc.toInt64) 6)), .second, .val (.long (own_f (fc.toInt64) 7)), .second, .unset, .unset, .unset, .unset, .unset, .unset, .unset, .unset, .unset, .unset, .unset, .unset, .unset, .unset, .unset, .unset, .unset] [])) _
  refine XS.lload X0.here hx rfl (hb hby at_72) rfl ?_
  show Steps p.tables e below (T0.setTop (mkF m 74 #[.val (.int p1), .val (.int p2), .val (.int dc), .val (.int fc), .val (.long (fc.toInt64)), .second, .val (.long (1 : Int64)), .second, .val (.long (fc.toInt64)), .second, .val (.long (own_f (fc.toInt64) 2)), .second, .val (.long (own_f (fc.toInt64) 3)), .second, .val (.long (own_f (fc.toInt64) 4)), .second, .val (.long (own_f (fc.toInt64) 5)), .second, .val (.long (own_f (fc.toInt64) 6)), .second, .val (.long (own_f (fc.toInt64) 7)), .second, .unset, .unset, .unset, .unset, .unset, .unset, .unset, .unset, .unset, .unset, .unset, .unset, .unset, .unset, .unset, .unset, .unset] [(.long (own_f (fc.toInt64) 7))])) _
  refine XS.lload X0.here hx rfl (hb hby at_74) rfl ?_
  show Steps p.tables e below (T0.setTop (mkF m 76 #[.val (.int p1), .val (.int p2), .val (.int dc), .val (.int fc), .val (.long (fc.toInt64)), .second, .val (.long (1 : Int64)), .second, .val (.long (fc.toInt64)), .second, .val (.long (own_f (fc.toInt64) 2)), .second, .val (.long (own_f (fc.toInt64) 3)), .second, .val (.long (own_f (fc.toInt64) 4)), .second, .val (.long (own_f (fc.toInt64) 5)), .second, .val (.long (own_f (fc.toInt64) 6)), .second, .val (.long (own_f (fc.toInt64) 7)), .second, .unset, .unset, .unset, .unset, .unset, .unset, .unset, .unset, .unset, .unset, .unset, .unset, .unset, .unset, .unset, .unset, .unset] [(.long (fc.toInt64)), (.long (own_f (fc.toInt64) 7))])) _
  refine XS.lmul X0.here hx rfl (hb hby at_76) rfl ?_
  show Steps p.tables e below (T0.setTop (mkF m 77 #[.val (.int p1), .val (.int p2), .val (.int dc), .val (.int fc), .val (.long (fc.toInt64)), .second, .val (.long (1 : Int64)), .second, .val (.long (fc.toInt64)), .second, .val (.long (own_f (fc.toInt64) 2)), .second, .val (.long (own_f (fc.toInt64) 3)), .second, .val (.long (own_f (fc.toInt64) 4)), .second, .val (.long (own_f (fc.toInt64) 5)), .second, .val (.long (own_f (fc.toInt64) 6)), .second, .val (.long (own_f (fc.toInt64) 7)), .second, .unset, .unset, .unset, .unset, .unset, .unset, .unset, .unset, .unset, .unset, .unset, .unset, .unset, .unset, .unset, .unset, .unset] [(.long (own_f (fc.toInt64) 8))])) _
  refine XS.lstore X0.here hx rfl (hb hby at_77) rfl (l' := #[.val (.int p1), .val (.int p2), .val (.int dc), .val (.int fc), .val (.long (fc.toInt64)), .second, .val (.long (1 : Int64)), .second, .val (.long (fc.toInt64)), .second, .val (.long (own_f (fc.toInt64) 2)), .second, .val (.long (own_f (fc.toInt64) 3)), .second, .val (.long (own_f (fc.toInt64) 4)), .second, .val (.long (own_f (fc.toInt64) 5)), .second, .val (.long (own_f (fc.toInt64) 6)), .second, .val (.long (own_f (fc.toInt64) 7)), .second, .val (.long (own_f (fc.toInt64) 8)), .second, .unset, .unset, .unset, .unset, .unset, .unset, .unset, .unset, .unset, .unset, .unset, .unset, .unset, .unset, .unset]) rfl ?_
  show Steps p.tables e below (T0.setTop (mkF m 79 #[.val (.int p1), .val (.int p2), .val (.int dc), .val (.int fc), .val (.long (fc.toInt64)), .second, .val (.long (1 : Int64)), .second, .val (.long (fc.toInt64)), .second, .val (.long (own_f (fc.toInt64) 2)), .second, .val (.long (own_f (fc.toInt64) 3)), .second, .val (.long (own_f (fc.toInt64) 4)), .second, .val (.long (own_f (fc.toInt64) 5)), .second, .val (.long (own_f (fc.toInt64) 6)), .second, .val (.long (own_f (fc.toInt64) 7)), .second, .val (.long (own_f (fc.toInt64) 8)), .second, .unset, .unset, .unset, .unset, .unset, .unset, .unset, .unset, .unset, .unset, .unset, .unset, .unset, .unset, .unset] [])) _
  refine XS.lload X0.here hx rfl (hb hby at_79) rfl ?_
  show Steps p.tables e below (T0.setTop (mkF m 81 #[.val (.int p1), .val (.int p2), .val (.int dc), .val (.int fc), .val (.long (fc.toInt64)), .second, .val (.long (1 : Int64)), .second, .val (.long (fc.toInt64)), .second, .val (.long (own_f (fc.toInt64) 2)), .second, .val (.long (own_f (fc.toInt64) 3)), .second, .val (.long (own_f (fc.toInt64) 4)), .second, .val (.long (own_f (fc.toInt64) 5)), .second, .val (.long (own_f (fc.toInt64) 6)), .second, .val (.long (own_f (fc.toInt64) 7)), .second, .val (.long (own_f (fc.toInt64) 8)), .second, .unset, .unset, .unset, .unset, .unset, .unset, .unset, .unset, .unset, .unset, .unset, .unset, .unset, .unset, .unset] [(.long (own_f (fc.toInt64) 8))])) _
  refine XS.lload X0.here hx rfl (hb hby at_81) rfl ?_
  show Steps p.tables e below (T0.setTop (mkF m 83 #[.val (.int p1), .val (.int p2), .val (.int dc), .val (.int fc), .val (.long (fc.toInt64)), .second, .val (.long (1 : Int64)), .second, .val (.long (fc.toInt64)), .second, .val (.long (own_f (fc.toInt64) 2)), .second, .val (.long (own_f (fc.toInt64) 3)), .second, .val (.long (own_f (fc.toInt64) 4)), .second, .val (.long (own_f (fc.toInt64) 5)), .second, .val (.long (own_f (fc.toInt64) 6)), .second, .val (.long (own_f (fc.toInt64) 7)), .second, .val (.long (own_f (fc.toInt64) 8)), .second, .unset, .unset, .unset, .unset, .unset, .unset, .unset, .unset, .unset, .unset, .unset, .unset, .unset, .unset, .unset] [(.long (fc.toInt64)), (.long (own_f (fc.toInt64) 8))])) _
  refine XS.lmul X0.here hx rfl (hb hby at_83) rfl ?_
  show Steps p.tables e below (T0.setTop (mkF m 84 #[.val (.int p1), .val (.int p2), .val (.int dc), .val (.int fc), .val (.long (fc.toInt64)), .second, .val (.long (1 : Int64)), .second, .val (.long (fc.toInt64)), .second, .val (.long (own_f (fc.toInt64) 2)), .second, .val (.long (own_f (fc.toInt64) 3)), .second, .val (.long (own_f (fc.toInt64) 4)), .second, .val (.long (own_f (fc.toInt64) 5)), .second, .val (.long (own_f (fc.toInt64) 6)), .second, .val (.long (own_f (fc.toInt64) 7)), .second, .val (.long (own_f (fc.toInt64) 8)), .second, .unset, .unset, .unset, .unset, .unset, .unset, .unset, .unset, .unset, .unset, .unset, .unset, .unset, .unset, .unset] [(.long (own_f (fc.toInt64) 9))])) _
  refine XS.lstore X0.here hx rfl (hb hby at_84) rfl (l' := #[.val (.int p1), .val (.int p2), .val (.int dc), .val (.int fc), .val (.long (fc.toInt64)), .second, .val (.long (1 : Int64)), .second, .val (.long (fc.toInt64)), .second, .val (.long (own_f (fc.toInt64) 2)), .second, .val (.long (own_f (fc.toInt64) 3)), .second, .val (.long (own_f (fc.toInt64) 4)), .second, .val (.long (own_f (fc.toInt64) 5)), .second, .val (.long (own_f (fc.toInt64) 6)), .second, .val (.long (own_f (fc.toInt64) 7)), .second, .val (.long (own_f (fc.toInt64) 8)), .second, .val (.long (own_f (fc.toInt64) 9)), .second, .unset, .unset, .unset, .unset, .unset, .unset, .unset, .unset, .unset, .unset, .unset, .unset, .unset]) rfl ?_
  show Steps p.tables e below (T0.setTop (mkF m 86 #[.val (.int p1), .val (.int p2), .val (.int dc), .val (.int fc), .val (.long (fc.toInt64)), .second, .val (.long (1 : Int64)), .second, .val (.long (fc.toInt64)), .second, .val (.long (own_f (fc.toInt64) 2)), .second, .val (.long (own_f (fc.toInt64) 3)), .second, .val (.long (own_f (fc.toInt64) 4)), .second, .val (.long (own_f (fc.toInt64) 5)), .second, .val (.long (own_f (fc.toInt64) 6)), .second, .val (.long (own_f (fc.toInt64) 7)), .second, .val (.long (own_f (fc.toInt64) 8)), .second, .val (.long (own_f (fc.toInt64) 9)), .second, .unset, .unset, .unset, .unset, .unset, .unset, .unset, .unset, .unset, .unset, .unset, .unset, .unset] [])) _
  refine XS.lload X0.here hx rfl (hb hby at_86) rfl ?_
  show Steps p.tables e below (T0.setTop (mkF m 88 #[.val (.int p1), .val (.int p2), .val (.int dc), .val (.int fc), .val (.long (fc.toInt64)), .second, .val (.long (1 : Int64)), .second, .val (.long (fc.toInt64)), .second, .val (.long (own_f (fc.toInt64) 2)), .second, .val (.long (own_f (fc.toInt64) 3)), .second, .val (.long (own_f (fc.toInt64) 4)), .second, .val (.long (own_f (fc.toInt64) 5)), .second, .val (.long (own_f (fc.toInt64) 6)), .second, .val (.long (own_f (fc.toInt64) 7)), .second, .val (.long (own_f (fc.toInt64) 8)), .second, .val (.long (own_f (fc.toInt64) 9)), .second, .unset, .unset, .unset, .unset, .unset, .unset, .unset, .unset, .unset, .unset, .unset, .unset, .unset] [(.long (own_f (fc.toInt64) 9))])) _
  refine XS.lload X0.here hx rfl (hb hby at_88) rfl ?_
  show Steps p.tables e below (T0.setTop (mkF m 90 #[.val (.int p1), .val (.int p2), .val (.int dc), .val (.int fc), .val (.long (fc.toInt64)), .second, .val (.long (1 : Int64)), .second, .val (.long (fc.toInt64)), .second, .val (.long (own_f (fc.toInt64) 2)), .second, .val (.long (own_f (fc.toInt64) 3)), .second, .val (.long (own_f (fc.toInt64) 4)), .second, .val (.long (own_f (fc.toInt64) 5)), .second, .val (.long (own_f (fc.toInt64) 6)), .second, .val (.long (own_f (fc.toInt64) 7)), .second, .val (.long (own_f (fc.toInt64) 8)), .second, .val (.long (own_f (fc.toInt64) 9)), .second, .unset, .unset, .unset, .unset, .unset, .unset, .unset, .unset, .unset, .unset, .unset, .unset, .unset] [(.long (fc.toInt64)), (.long (own_f (fc.toInt64) 9))])) _
  refine XS.lmul X0.here hx rfl (hb hby at_90) rfl ?_
  show Steps p.tables e below (T0.setTop (mkF m 91 #[.val (.int p1), .val (.int p2), .val (.int dc), .val (.int fc), .val (.long (fc.toInt64)), .second, .val (.long (1 : Int64)), .second, .val (.long (fc.toInt64)), .second, .val (.long (own_f (fc.toInt64) 2)), .second, .val (.long (own_f (fc.toInt64) 3)), .second, .val (.long (own_f (fc.toInt64) 4)), .second, .val (.long (own_f (fc.toInt64) 5)), .second, .val (.long (own_f (fc.toInt64) 6)), .second, .val (.long (own_f (fc.toInt64) 7)), .second, .val (.long (own_f (fc.toInt64) 8)), .second, .val (.long (own_f (fc.toInt64) 9)), .second, .unset, .unset, .unset, .unset, .unset, .unset, .unset, .unset, .unset, .unset, .unset, .unset, .unset] [(.long (own_f (fc.toInt64) 10))])) _
  refine XS.lstore X0.here hx rfl (hb hby at_91) rfl (l' := #[.val (.int p1), .val (.int p2), .val (.int dc), .val (.int fc), .val (.long (fc.toInt64)), .second, .val (.long (1 : Int64)), .second, .val (.long (fc.toInt64)), .second, .val (.long (own_f (fc.toInt64) 2)), .second, .val (.long (own_f (fc.toInt64) 3)), .second, .val (.long (own_f (fc.toInt64) 4)), .second, .val (.long (own_f (fc.toInt64) 5)), .second, .val (.long (own_f (fc.toInt64) 6)), .second, .val (.long (own_f (fc.toInt64) 7)), .second, .val (.long (own_f (fc.toInt64) 8)), .second, .val (.long (own_f (fc.toInt64) 9)), .second, .val (.long (own_f (fc.toInt64) 10)), .second, .unset, .unset, .unset, .unset, .unset, .unset, .unset, .unset, .unset, .unset, .unset]) rfl ?_
  show Steps p.tables e below (T0.setTop (mkF m 93 #[.val (.int p1), .val (.int p2), .val (.int dc), .val (.int fc), .val (.long (fc.toInt64)), .second, .val (.long (1 : Int64)), .second, .val (.long (fc.toInt64)), .second, .val (.long (own_f (fc.toInt64) 2)), .second, .val (.long (own_f (fc.toInt64) 3)), .second, .val (.long (own_f (fc.toInt64) 4)), .second, .val (.long (own_f (fc.toInt64) 5)), .second, .val (.long (own_f (fc.toInt64) 6)), .second, .val (.long (own_f (fc.toInt64) 7)), .second, .val (.long (own_f (fc.toInt64) 8)), .second, .val (.long (own_f (fc.toInt64) 9)), .second, .val (.long (own_f (fc.toInt64) 10)), .second, .unset, .unset, .unset, .unset, .unset, .unset, .unset, .unset, .unset, .unset, .unset] [])) _
  refine XS.lload X0.here hx rfl (hb hby at_93) rfl ?_
  show Steps p.tables e below (T0.setTop (mkF m 95 #[.val (.int p1), .val (.int p2), .val (.int dc), .val (.int fc), .val (.long (fc.toInt64)), .second, .val (.long (1 : Int64)), .second, .val (.long (fc.toInt64)), .second, .val (.long (own_f (fc.toInt64) 2)), .second, .val (.long (own_f (fc.toInt64) 3)), .second, .val (.long (own_f (fc.toInt64) 4)), .second, .val (.long (own_f (fc.toInt64) 5)), .second, .val (.long (own_f (fc.toInt64) 6)), .second, .val (.long (own_f (fc.toInt64) 7)), .second, .val (.long (own_f (fc.toInt64) 8)), .second, .val (.long (own_f (fc.toInt64) 9)), .second, .val (.long (own_f (fc.toInt64) 10)), .second, .unset, .unset, .unset, .unset, .unset, .unset, .unset, .unset, .unset, .unset, .unset] [(.long (own_f (fc.toInt64) 10))])) _
  refine XS.lload X0.here hx rfl (hb hby at_95) rfl ?_
  show Steps p.tables e below (T0.setTop (mkF m 97 #[.val (.int p1), .val (.int p2), .val (.int dc), .val (.int fc), .val (.long (fc.toInt64)), .second, .val (.long (1 : Int64)), .second, .val (.long (fc.toInt64)), .second, .val (.long (own_f (fc.toInt64) 2)), .second, .val (.long (own_f (fc.toInt64) 3)), .second, .val (.long (own_f (fc.toInt64) 4)), .second, .val (.long (own_f (fc.toInt64) 5)), .second, .val (.long (own_f (fc.toInt64) 6)), .second, .val (.long (own_f (fc.toInt64) 7)), .second, .val (.long (own_f (fc.toInt64) 8)), .second, .val (.long (own_f (fc.toInt64) 9)), .second, .val (.long (own_f (fc.toInt64) 10)), .second, .unset, .unset, .unset, .unset, .unset, .unset, .unset, .unset, .unset, .unset, .unset] [(.long (fc.toInt64)), (.long (own_f (fc.toInt64) 10))])) _
  refine XS.lmul X0.here hx rfl (hb hby at_97) rfl ?_
  show Steps p.tables e below (T0.setTop (mkF m 98 #[.val (.int p1), .val (.int p2), .val (.int dc), .val (.int fc), .val (.long (fc.toInt64)), .second, .val (.long (1 : Int64)), .second, .val (.long (fc.toInt64)), .second, .val (.long (own_f (fc.toInt64) 2)), .second, .val (.long (own_f (fc.toInt64) 3)), .second, .val (.long (own_f (fc.toInt64) 4)), .second, .val (.long (own_f (fc.toInt64) 5)), .second, .val (.long (own_f (fc.toInt64) 6)), .second, .val (.long (own_f (fc.toInt64) 7)), .second, .val (.long (own_f (fc.toInt64) 8)), .second, .val (.long (own_f (fc.toInt64) 9)), .second, .val (.long (own_f (fc.toInt64) 10)), .second, .unset, .unset, .unset, .unset, .unset, .unset, .unset, .unset, .unset, .unset, .unset] [(.long (own_f (fc.toInt64) 11))])) _
  refine XS.lstore X0.here hx rfl (hb hby at_98) rfl (l' := #[.val (.int p1), .val (.int p2), .val (.int dc), .val (.int fc), .val (.long (fc.toInt64)), .second, .val (.long (1 : Int64)), .second, .val (.long (fc.toInt64)), .second, .val (.long (own_f (fc.toInt64) 2)), .second, .val (.long (own_f (fc.toInt64) 3)), .second, .val (.long (own_f (fc.toInt64) 4)), .second, .val (.long (own_f (fc.toInt64) 5)), .second, .val (.long (own_f (fc.toInt64) 6)), .second, .val (.long (own_f (fc.toInt64) 7)), .second, .val (.long (own_f (fc.toInt64) 8)), .second, .val (.long (own_f (fc.toInt64) 9)), .second, .val (.long (own_f (fc.toInt64) 10)), .second, .val (.long (own_f (fc.toInt64) 11)), .second, .unset, .unset, .unset, .unset, .unset, .unset, .unset, .unset, .unset]) rfl ?_
  show Steps p.tables e below (T0.setTop (mkF m 100 #[.val (.int p1), .val (.int p2), .val (.int dc), .val (.int fc), .val (.long (fc.toInt64)), .second, .val (.long (1 : Int64)), .second, .val (.long (fc.toInt64)), .second, .val (.long (own_f (fc.toInt64) 2)), .second, .val (.long (own_f (fc.toInt64) 3)), .second, .val (.long (own_f (fc.toInt64) 4)), .second, .val (.long (own_f (fc.toInt64) 5)), .second, .val (.long (own_f (fc.toInt64) 6)), .second, .val (.long (own_f (fc.toInt64) 7)), .second, .val (.long (own_f (fc.toInt64) 8)), .second, .val (.long (own_f (fc.toInt64) 9)), .second, .val (.long (own_f (fc.toInt64) 10)), .second, .val (.long (own_f (fc.toInt64) 11)), .second, .unset, .unset, .unset, .unset, .unset, .unset, .unset, .unset, .unset] [])) _
  refine XS.lload X0.here hx rfl (hb hby at_100) rfl ?_
  show Steps p.tables e below (T0.setTop (mkF m 102 #[.val (.int p1), .val (.int p2), .val (.int dc), .val (.int fc), .val (.long (fc.toInt64)), .second, .val (.long (1 : Int64)), .second, .val (.long (fc.toInt64)), .second, .val (.long (own_f (fc.toInt64) 2)), .second, .val (.long (own_f (fc.toInt64) 3)), .second, .val (.long (own_f (fc.toInt64) 4)), .second, .val (.long (own_f (fc.toInt64) 5)), .second, .val (.long (own_f (fc.toInt64) 6)), .second, .val (.long (own_f (fc.toInt64) 7)), .second, .val (.long (own_f (fc.toInt64) 8)), .second, .val (.long (own_f (fc.toInt64) 9)), .second, .val (.long (own_f (fc.toInt64) 10)), .second, .val (.long (own_f (fc.toInt64) 11)), .second, .unset, .unset, .unset, .unset, .unset, .unset, .unset, .unset, .unset] [(.long (own_f (fc.toInt64) 11))])) _
  refine XS.lload X0.here hx rfl (hb hby at_102) rfl ?_
  show Steps p.tables e below (T0.setTop (mkF m 104 #[.val (.int p1), .val (.int p2), .val (.int dc), .val (.int fc), .val (.long (fc.toInt64)), .second, .val (.long (1 : Int64)), .second, .val (.long (fc.toInt64)), .second, .val (.long (own_f (fc.toInt64) 2)), .second, .val (.long (own_f (fc.toInt64) 3)), .second, .val (.long (own_f (fc.toInt64) 4)), .second, .val (.long (own_f (fc.toInt64) 5)), .second, .val (.long (own_f (fc.toInt64) 6)), .second, .val (.long (own_f (fc.toInt64) 7)), .second, .val (.long (own_f (fc.toInt64) 8)), .second, .val (.long (own_f (fc.toInt64) 9)), .second, .val (.long (own_f (fc.toInt64) 10)), .second, .val (.long (own_f (fc.toInt64) 11)), .second, .unset, .unset, .unset, .unset, .unset, .unset, .unset, .unset, .unset] [(.long (fc.toInt64)), (.long (own_f (fc.toInt64) 11))])) _
  refine XS.lmul X0.here hx rfl (hb hby at_104) rfl ?_
  show Steps p.tables e below (T0.setTop (mkF m 105 #[.val (.int p1), .val (.int p2), .val (.int dc), .val (.int fc), .val (.long (fc.toInt64)), .second, .val (.long (1 : Int64)), .second, .val (.long (fc.toInt64)), .second, .val (.long (own_f (fc.toInt64) 2)), .second, .val (.long (own_f (fc.toInt64) 3)), .second, .val (.long (own_f (fc.toInt64) 4)), .second, .val (.long (own_f (fc.toInt64) 5)), .second, .val (.long (own_f (fc.toInt64) 6)), .second, .val (.long (own_f (fc.toInt64) 7)), .second, .val (.long (own_f (fc.toInt64) 8)), .second, .val (.long (own_f (fc.toInt64) 9)), .second, .val (.long (own_f (fc.toInt64) 10)), .second, .val (.long (own_f (fc.toInt64) 11)), .second, .unset, .unset, .unset, .unset, .unset, .unset, .unset, .unset, .unset] [(.long (own_f (fc.toInt64) 12))])) _
  refine XS.lstore X0.here hx rfl (hb hby at_105) rfl (l' := #[.val (.int p1), .val (.int p2), .val (.int dc), .val (.int fc), .val (.long (fc.toInt64)), .second, .val (.long (1 : Int64)), .second, .val (.long (fc.toInt64)), .second, .val (.long (own_f (fc.toInt64) 2)), .second, .val (.long (own_f (fc.toInt64) 3)), .second, .val (.long (own_f (fc.toInt64) 4)), .second, .val (.long (own_f (fc.toInt64) 5)), .second, .val (.long (own_f (fc.toInt64) 6)), .second, .val (.long (own_f (fc.toInt64) 7)), .second, .val (.long (own_f (fc.toInt64) 8)), .second, .val (.long (own_f (fc.toInt64) 9)), .second, .val (.long (own_f (fc.toInt64) 10)), .second, .val (.long (own_f (fc.toInt64) 11)), .second, .val (.long (own_f (fc.toInt64) 12)), .second, .unset, .unset, .unset, .unset, .unset, .unset, .unset]) rfl ?_
  show Steps p.tables e below (T0.setTop (mkF m 107 #[.val (.int p1), .val (.int p2), .val (.int dc), .val (.int fc), .val (.long (fc.toInt64)), .second, .val (.long (1 : Int64)), .second, .val (.long (fc.toInt64)), .second, .val (.long (own_f (fc.toInt64) 2)), .second, .val (.long (own_f (fc.toInt64) 3)), .second, .val (.long (own_f (fc.toInt64) 4)), .second, .val (.long (own_f (fc.toInt64) 5)), .second, .val (.long (own_f (fc.toInt64) 6)), .second, .val (.long (own_f (fc.toInt64) 7)), .second, .val (.long (own_f (fc.toInt64) 8)), .second, .val (.long (own_f (fc.toInt64) 9)), .second, .val (.long (own_f (fc.toInt64) 10)), .second, .val (.long (own_f (fc.toInt64) 11)), .second, .val (.long (own_f (fc.toInt64) 12)), .second, .unset, .unset, .unset, .unset, .unset, .unset, .unset] [])) _
  refine XS.lload X0.here hx rfl (hb hby at_107) rfl ?_
  show Steps p.tables e below (T0.setTop (mkF m 109 #[.val (.int p1), .val (.int p2), .val (.int dc), .val (.int fc), .val (.long (fc.toInt64)), .second, .val (.long (1 : Int64)), .second, .val (.long (fc.toInt64)), .second, .val (.long (own_f (fc.toInt64) 2)), .second, .val (.long (own_f (fc.toInt64) 3)), .second, .val (.long (own_f (fc.toInt64) 4)), .second, .val (.long (own_f (fc.toInt64) 5)), .second, .val (.long (own_f (fc.toInt64) 6)), .second, .val (.long (own_f (fc.toInt64) 7)), .second, .val (.long (own_f (fc.toInt64) 8)), .second, .val (.long (own_f (fc.toInt64) 9)), .second, .val (.long (own_f (fc.toInt64) 10)), .second, .val (.long (own_f (fc.toInt64) 11)), .second, .val (.long (own_f (fc.toInt64) 12)), .second, .unset, .unset, .unset, .unset, .unset, .unset, .unset] [(.long (own_f (fc.toInt64) 12))])) _
  refine XS.lload X0.here hx rfl (hb hby at_109) rfl ?_
  show Steps p.tables e below (T0.setTop (mkF m 111 #[.val (.int p1), .val (.int p2), .val (.int dc), .val (.int fc), .val (.long (fc.toInt64)), .second, .val (.long (1 : Int64)), .second, .val (.long (fc.toInt64)), .second, .val (.long (own_f (fc.toInt64) 2)), .second, .val (.long (own_f (fc.toInt64) 3)), .second, .val (.long (own_f (fc.toInt64) 4)), .second, .val (.long (own_f (fc.toInt64) 5)), .second, .val (.long (own_f (fc.toInt64) 6)), .second, .val (.long (own_f (fc.toInt64) 7)), .second, .val (.long (own_f (fc.toInt64) 8)), .second, .val (.long (own_f (fc.toInt64) 9)), .second, .val (.long (own_f (fc.toInt64) 10)), .second, .val (.long (own_f (fc.toInt64) 11)), .second, .val (.long (own_f (fc.toInt64) 12)), .second, .unset, .unset, .unset, .unset, .unset, .unset, .unset] [(.long (fc.toInt64)), (.long (own_f (fc.toInt64) 12))])) _
  refine XS.lmul X0.here hx rfl (hb hby at_111) rfl ?_
  show Steps p.tables e below (T0.setTop (mkF m 112 #[.val (.int p1), .val (.int p2), .val (.int dc), .val (.int fc), .val (.long (fc.toInt64)), .second, .val (.long (1 : Int64)), .second, .val (.long (fc.toInt64)), .second, .val (.long (own_f (fc.toInt64) 2)), .second, .val (.long (own_f (fc.toInt64) 3)), .second, .val (.long (own_f (fc.toInt64) 4)), .second, .val (.long (own_f (fc.toInt64) 5)), .second, .val (.long (own_f (fc.toInt64) 6)), .second, .val (.long (own_f (fc.toInt64) 7)), .second, .val (.long (own_f (fc.toInt64) 8)), .second, .val (.long (own_f (fc.toInt64) 9)), .second, .val (.long (own_f (fc.toInt64) 10)), .second, .val (.long (own_f (fc.toInt64) 11)), .second, .val (.long (own_f (fc.toInt64) 12)), .second, .unset, .unset, .unset, .unset, .unset, .unset, .unset] [(.long (own_f (fc.toInt64) 13))])) _
  refine XS.lstore X0.here hx rfl (hb hby at_112) rfl (l' := #[.val (.int p1), .val (.int p2), .val (.int dc), .val (.int fc), .val (.long (fc.toInt64)), .second, .val (.long (1 : Int64)), .second, .val (.long (fc.toInt64)), .second, .val (.long (own_f (fc.toInt64) 2)), .second, .val (.long (own_f (fc.toInt64) 3)), .second, .val (.long (own_f (fc.toInt64) 4)), .second, .val (.long (own_f (fc.toInt64) 5)), .second, .val (.long (own_f (fc.toInt64) 6)), .second, .val (.long (own_f (fc.toInt64) 7)), .second, .val (.long (own_f (fc.toInt64) 8)), .second, .val (.long (own_f (fc.toInt64) 9)), .second, .val (.long (own_f (fc.toInt64) 10)), .second, .val (.long (own_f (fc.toInt64) 11)), .second, .val (.long (own_f (fc.toInt64) 12)), .second, .val (.long (own_f (fc.toInt64) 13)), .second, .unset, .unset, .unset, .unset, .unset]) rfl ?_
  show Steps p.tables e below (T0.setTop (mkF m 114 #[.val (.int p1), .val (.int p2), .val (.int dc), .val (.int fc), .val (.long (fc.toInt64)), .second, .val (.long (1 : Int64)), .second, .val (.long (fc.toInt64)), .second, .val (.long (own_f (fc.toInt64) 2)), .second, .val (.long (own_f (fc.toInt64) 3)), .second, .val (.long (own_f (fc.toInt64) 4)), .second, .val (.long (own_f (fc.toInt64) 5)), .second, .val (.long (own_f (fc.toInt64) 6)), .second, .val (.long (own_f (fc.toInt64) 7)), .second, .val (.long (own_f (fc.toInt64) 8)), .second, .val (.long (own_f (fc.toInt64) 9)), .second, .val (.long (own_f (fc.toInt64) 10)), .second, .val (.long (own_f (fc.toInt64) 11)), .second, .val (.long (own_f (fc.toInt64) 12)), .second, .val (.long (own_f (fc.toInt64) 13)), .second, .unset, .unset, .unset, .unset, .unset] [])) _
  refine XS.lload X0.here hx rfl (hb hby at_114) rfl ?_
  show Steps p.tables e below (T0.setTop (mkF m 116 #[.val (.int p1), .val (.int p2), .val (.int dc), .val (.int fc), .val (.long (fc.toInt64)), .second, .val (.long (1 : Int64)), .second, .val (.long (fc.toInt64)), .second, .val (.long (own_f (fc.toInt64) 2)), .second, .val (.long (own_f (fc.toInt64) 3)), .second, .val (.long (own_f (fc.toInt64) 4)), .second, .val (.long (own_f (fc.toInt64) 5)), .second, .val (.long (own_f (fc.toInt64) 6)), .second, .val (.long (own_f (fc.toInt64) 7)), .second, .val (.long (own_f (fc.toInt64) 8)), .second, .val (.long (own_f (fc.toInt64) 9)), .second, .val (.long (own_f (fc.toInt64) 10)), .second, .val (.long (own_f (fc.toInt64) 11)), .second, .val (.long (own_f (fc.toInt64) 12)), .second, .val (.long (own_f (fc.toInt64) 13)), .second, .unset, .unset, .unset, .unset, .unset] [(.long (own_f (fc.toInt64) 13))])) _
  refine XS.lload X0.here hx rfl (hb hby at_116) rfl ?_
  show Steps p.tables e below (T0.setTop (mkF m 118 #[.val (.int p1), .val (.int p2), .val (.int dc), .val (.int fc), .val (.long (fc.toInt64)), .second, .val (.long (1 : Int64)), .second, .val (.long (fc.toInt64)), .second, .val (.long (own_f (fc.toInt64) 2)), .second, .val (.long (own_f (fc.toInt64) 3)), .second, .val (.long (own_f (fc.toInt64) 4)), .second, .val (.long (own_f (fc.toInt64) 5)), .second, .val (.long (own_f (fc.toInt64) 6)), .second, .val (.long (own_f (fc.toInt64) 7)), .second, .val (.long (own_f (fc.toInt64) 8)), .second, .val (.long (own_f (fc.toInt64) 9)), .second, .val (.long (own_f (fc.toInt64) 10)), .second, .val (.long (own_f (fc.toInt64) 11)), .second, .val (.long (own_f (fc.toInt64) 12)), .second, .val (.long (own_f (fc.toInt64) 13)), .second, .unset, .unset, .unset, .unset, .unset] [(.long (fc.toInt64)), (.long (own_f (fc.toInt64) 13))])) _
  refine XS.lmul X0.here hx rfl (hb hby at_118) rfl ?_
  show Steps p.tables e below (T0.setTop (mkF m 119 #[.val (.int p1), .val (.int p2), .val (.int dc), .val (.int fc), .val (.long (fc.toInt64)), .second, .val (.long (1 : Int64)), .second, .val (.long (fc.toInt64)), .second, .val (.long (own_f (fc.toInt64) 2)), .second, .val (.long (own_f (fc.toInt64) 3)), .second, .val (.long (own_f (fc.toInt64) 4)), .second, .val (.long (own_f (fc.toInt64) 5)), .second, .val (.long (own_f (fc.toInt64) 6)), .second, .val (.long (own_f (fc.toInt64) 7)), .second, .val (.long (own_f (fc.toInt64) 8)), .second, .val (.long (own_f (fc.toInt64) 9)), .second, .val (.long (own_f (fc.toInt64) 10)), .second, .val (.long (own_f (fc.toInt64) 11)), .second, .val (.long (own_f (fc.toInt64) 12)), .second, .val (.long (own_f (fc.toInt64) 13)), .second, .unset, .unset, .unset, .unset, .unset] [(.long (own_f (fc.toInt64) 14))])) _
  refine XS.lstore X0.here hx rfl (hb hby at_119) rfl (l' := #[.val (.int p1), .val (.int p2), .val (.int dc), .val (.int fc), .val (.long (fc.toInt64)), .second, .val (.long (1 : Int64)), .second, .val (.long (fc.toInt64)), .second, .val (.long (own_f (fc.toInt64) 2)), .second, .val (.long (own_f (fc.toInt64) 3)), .second, .val (.long (own_f (fc.toInt64) 4)), .second, .val (.long (own_f (fc.toInt64) 5)), .second, .val (.long (own_f (fc.toInt64) 6)), .second, .val (.long (own_f (fc.toInt64) 7)), .second, .val (.long (own_f (fc.toInt64) 8)), .second, .val (.long (own_f (fc.toInt64) 9)), .second, .val (.long (own_f (fc.toInt64) 10)), .second, .val (.long (own_f (fc.toInt64) 11)), .second, .val (.long (own_f (fc.toInt64) 12)), .second, .val (.long (own_f (fc.toInt64) 13)), .second, .val (.long (own_f (fc.toInt64) 14)), .second, .unset, .unset, .unset]) rfl ?_
  show Steps p.tables e below (T0.setTop (mkF m 121 #[.val (.int p1), .val (.int p2), .val (.int dc), .val (.int fc), .val (.long (fc.toInt64)), .second, .val (.long (1 : Int64)), .second, .val (.long (fc.toInt64)), .second, .val (.long (own_f (fc.toInt64) 2)), .second, .val (.long (own_f (fc.toInt64) 3)), .second, .val (.long (own_f (fc.toInt64) 4)), .second, .val (.long (own_f (fc.toInt64) 5)), .second, .val (.long (own_f (fc.toInt64) 6)), .second, .val (.long (own_f (fc.toInt64) 7)), .second, .val (.long (own_f (fc.toInt64) 8)), .second, .val (.long (own_f (fc.toInt64) 9)), .second, .val (.long (own_f (fc.toInt64) 10)), .second, .val (.long (own_f (fc.toInt64) 11)), .second, .val (.long (own_f (fc.toInt64) 12)), .second, .val (.long (own_f (fc.toInt64) 13)), .second, .val (.long (own_f (fc.toInt64) 14)), .second, .unset, .unset, .unset] [])) _
  refine XS.lload X0.here hx rfl (hb hby at_121) rfl ?_
  show Steps p.tables e below (T0.setTop (mkF m 123 #[.val (.int p1), .val (.int p2), .val (.int dc), .val (.int fc), .val (.long (fc.toInt64)), .second, .val (.long (1 : Int64)), .second, .val (.long (fc.toInt64)), .second, .val (.long (own_f (fc.toInt64) 2)), .second, .val (.long (own_f (fc.toInt64) 3)), .second, .val (.long (own_f (fc.toInt64) 4)), .second, .val (.long (own_f (fc.toInt64) 5)), .second, .val (.long (own_f (fc.toInt64) 6)), .second, .val (.long (own_f (fc.toInt64) 7)), .second, .val (.long (own_f (fc.toInt64) 8)), .second, .val (.long (own_f (fc.toInt64) 9)), .second, .val (.long (own_f (fc.toInt64) 10)), .second, .val (.long (own_f (fc.toInt64) 11)), .second, .val (.long (own_f (fc.toInt64) 12)), .second, .val (.long (own_f (fc.toInt64) 13)), .second, .val (.long (own_f (fc.toInt64) 14)), .second, .unset, .unset, .unset] [(.long (own_f (fc.toInt64) 14))])) _
  refine XS.lload X0.here hx rfl (hb hby at_123) rfl ?_
  show Steps p.tables e below (T0.setTop (mkF m 125 #[.val (.int p1), .val (.int p2), .val (.int dc), .val (.int fc), .val (.long (fc.toInt64)), .second, .val (.long (1 : Int64)), .second, .val (.long (fc.toInt64)), .second, .val (.long (own_f (fc.toInt64) 2)), .second, .val (.long (own_f (fc.toInt64) 3)), .second, .val (.long (own_f (fc.toInt64) 4)), .second, .val (.long (own_f (fc.toInt64) 5)), .second, .val (.long (own_f (fc.toInt64) 6)), .second, .val (.long (own_f (fc.toInt64) 7)), .second, .val (.long (own_f (fc.toInt64) 8)), .second, .val (.long (own_f (fc.toInt64) 9)), .second, .val (.long (own_f (fc.toInt64) 10)), .second, .val (.long (own_f (fc.toInt64) 11)), .second, .val (.long (own_f (fc.toInt64) 12)), .second, .val (.long (own_f (fc.toInt64) 13)), .second, .val (.long (own_f (fc.toInt64) 14)), .second, .unset, .unset, .unset] [(.long (fc.toInt64)), (.long (own_f (fc.toInt64) 14))])) _
  refine XS.lmul X0.here hx rfl (hb hby at_125) rfl ?_
  show Steps p.tables e below (T0.setTop (mkF m 126 #[.val (.int p1), .val (.int p2), .val (.int dc), .val (.int fc), .val (.long (fc.toInt64)), .second, .val (.long (1 : Int64)), .second, .val (.long (fc.toInt64)), .second, .val (.long (own_f (fc.toInt64) 2)), .second, .val (.long (own_f (fc.toInt64) 3)), .second, .val (.long (own_f (fc.toInt64) 4)), .second, .val (.long (own_f (fc.toInt64) 5)), .second, .val (.long (own_f (fc.toInt64) 6)), .second, .val (.long (own_f (fc.toInt64) 7)), .second, .val (.long (own_f (fc.toInt64) 8)), .second, .val (.long (own_f (fc.toInt64) 9)), .second, .val (.long (own_f (fc.toInt64) 10)), .second, .val (.long (own_f (fc.toInt64) 11)), .second, .val (.long (own_f (fc.toInt64) 12)), .second, .val (.long (own_f (fc.toInt64) 13)), .second, .val (.long (own_f (fc.toInt64) 14)), .second, .unset, .unset, .unset] [(.long (own_f (fc.toInt64) 15))])) _
  refine XS.lstore X0.here hx rfl (hb hby at_126) rfl (l' := #[.val (.int p1), .val (.int p2), .val (.int dc), .val (.int fc), .val (.long (fc.toInt64)), .second, .val (.long (1 : Int64)), .second, .val (.long (fc.toInt64)), .second, .val (.long (own_f (fc.toInt64) 2)), .second, .val (.long (own_f (fc.toInt64) 3)), .second, .val (.long (own_f (fc.toInt64) 4)), .second, .val (.long (own_f (fc.toInt64) 5)), .second, .val (.long (own_f (fc.toInt64) 6)), .second, .val (.long (own_f (fc.toInt64) 7)), .second, .val (.long (own_f (fc.toInt64) 8)), .second, .val (.long (own_f (fc.toInt64) 9)), .second, .val (.long (own_f (fc.toInt64) 10)), .second, .val (.long (own_f (fc.toInt64) 11)), .second, .val (.long (own_f (fc.toInt64) 12)), .second, .val (.long (own_f (fc.toInt64) 13)), .second, .val (.long (own_f (fc.toInt64) 14)), .second, .val (.long (own_f (fc.toInt64) 15)), .second, .unset]) rfl ?_
  show Steps p.tables e below (T0.setTop (mkF m 128 #[.val (.int p1), .val (.int p2), .val (.int dc), .val (.int fc), .val (.long (fc.toInt64)), .second, .val (.long (1 : Int64)), .second, .val (.long (fc.toInt64)), .second, .val (.long (own_f (fc.toInt64) 2)), .second, .val (.long (own_f (fc.toInt64) 3)), .second, .val (.long (own_f (fc.toInt64) 4)), .second, .val (.long (own_f (fc.toInt64) 5)), .second, .val (.long (own_f (fc.toInt64) 6)), .second, .val (.long (own_f (fc.toInt64) 7)), .second, .val (.long (own_f (fc.toInt64) 8)), .second, .val (.long (own_f (fc.toInt64) 9)), .second, .val (.long (own_f (fc.toInt64) 10)), .second, .val (.long (own_f (fc.toInt64) 11)), .second, .val (.long (own_f (fc.toInt64) 12)), .second, .val (.long (own_f (fc.toInt64) 13)), .second, .val (.long (own_f (fc.toInt64) 14)), .second, .val (.long (own_f (fc.toInt64) 15)), .second, .unset] [])) _
  refine XS.iloadN X0.here hx rfl (hb hby at_128) rfl ?_
  show Steps p.tables e below (T0.setTop (mkF m 129 #[.val (.int p1), .val (.int p2), .val (.int dc), .val (.int fc), .val (.long (fc.toInt64)), .second, .val (.long (1 : Int64)), .second, .val (.long (fc.toInt64)), .second, .val (.long (own_f (fc.toInt64) 2)), .second, .val (.long (own_f (fc.toInt64) 3)), .second, .val (.long (own_f (fc.toInt64) 4)), .second, .val (.long (own_f (fc.toInt64) 5)), .second, .val (.long (own_f (fc.toInt64) 6)), .second, .val (.long (own_f (fc.toInt64) 7)), .second, .val (.long (own_f (fc.toInt64) 8)), .second, .val (.long (own_f (fc.toInt64) 9)), .second, .val (.long (own_f (fc.toInt64) 10)), .second, .val (.long (own_f (fc.toInt64) 11)), .second, .val (.long (own_f (fc.toInt64) 12)), .second, .val (.long (own_f (fc.toInt64) 13)), .second, .val (.long (own_f (fc.toInt64) 14)), .second, .val (.long (own_f (fc.toInt64) 15)), .second, .unset] [(.int fc)])) _
  refine XS.iloadN X0.here hx rfl (hb hby at_129) rfl ?_
  show Steps p.tables e below (T0.setTop (mkF m 130 #[.val (.int p1), .val (.int p2), .val (.int dc), .val (.int fc), .val (.long (fc.toInt64)), .second, .val (.long (1 : Int64)), .second, .val (.long (fc.toInt64)), .second, .val (.long (own_f (fc.toInt64) 2)), .second, .val (.long (own_f (fc.toInt64) 3)), .second, .val (.long (own_f (fc.toInt64) 4)), .second, .val (.long (own_f (fc.toInt64) 5)), .second, .val (.long (own_f (fc.toInt64) 6)), .second, .val (.long (own_f (fc.toInt64) 7)), .second, .val (.long (own_f (fc.toInt64) 8)), .second, .val (.long (own_f (fc.toInt64) 9)), .second, .val (.long (own_f (fc.toInt64) 10)), .second, .val (.long (own_f (fc.toInt64) 11)), .second, .val (.long (own_f (fc.toInt64) 12)), .second, .val (.long (own_f (fc.toInt64) 13)), .second, .val (.long (own_f (fc.toInt64) 14)), .second, .val (.long (own_f (fc.toInt64) 15)), .second, .unset] [(.int dc), (.int fc)])) _
  refine st3 _ ?_
  show Steps p.tables e below (T3.setTop (mkF m 133 #[.val (.int p1), .val (.int p2), .val (.int dc), .val (.int fc), .val (.long (fc.toInt64)), .second, .val (.long (1 : Int64)), .second, .val (.long (fc.toInt64)), .second, .val (.long (own_f (fc.toInt64) 2)), .second, .val (.long (own_f (fc.toInt64) 3)), .second, .val (.long (own_f (fc.toInt64) 4)), .second, .val (.long (own_f (fc.toInt64) 5)), .second, .val (.long (own_f (fc.toInt64) 6)), .second, .val (.long (own_f (fc.toInt64) 7)), .second, .val (.long (own_f (fc.toInt64) 8)), .second, .val (.long (own_f (fc.toInt64) 9)), .second, .val (.long (own_f (fc.toInt64) 10)), .second, .val (.long (own_f (fc.toInt64) 11)), .second, .val (.long (own_f (fc.toInt64) 12)), .second, .val (.long (own_f (fc.toInt64) 13)), .second, .val (.long (own_f (fc.toInt64) 14)), .second, .val (.long (own_f (fc.toInt64) 15)), .second, .unset] [(.ref b3)])) _
  refine XS.astore X3.here hx rfl (hb hby at_133) rfl rfl (l' := #[.val (.int p1), .val (.int p2), .val (.int dc), .val (.int fc), .val (.long (fc.toInt64)), .second, .val (.long (1 : Int64)), .second, .val (.long (fc.toInt64)), .second, .val (.long (own_f (fc.toInt64) 2)), .second, .val (.long (own_f (fc.toInt64) 3)), .second, .val (.long (own_f (fc.toInt64) 4)), .second, .val (.long (own_f (fc.toInt64) 5)), .second, .val (.long (own_f (fc.toInt64) 6)), .second, .val (.long (own_f (fc.toInt64) 7)), .second, .val (.long (own_f (fc.toInt64) 8)), .second, .val (.long (own_f (fc.toInt64) 9)), .second, .val (.long (own_f (fc.toInt64) 10)), .second, .val (.long (own_f (fc.toInt64) 11)), .second, .val (.long (own_f (fc.toInt64) 12)), .second, .val (.long (own_f (fc.toInt64) 13)), .second, .val (.long (own_f (fc.toInt64) 14)), .second, .val (.long (own_f (fc.toInt64) 15)), .second, .val (.ref b3)]) rfl ?_
  show Steps p.tables e below (T3.setTop (mkF m 135 #[.val (.int p1), .val (.int p2), .val (.int dc), .val (.int fc), .val (.long (fc.toInt64)), .second, .val (.long (1 : Int64)), .second, .val (.long (fc.toInt64)), .second, .val (.long (own_f (fc.toInt64) 2)), .second, .val (.long (own_f (fc.toInt64) 3)), .second, .val (.long (own_f (fc.toInt64) 4)), .second, .val (.long (own_f (fc.toInt64) 5)), .second, .val (.long (own_f (fc.toInt64) 6)), .second, .val (.long (own_f (fc.toInt64) 7)), .second, .val (.long (own_f (fc.toInt64) 8)), .second, .val (.long (own_f (fc.toInt64) 9)), .second, .val (.long (own_f (fc.toInt64) 10)), .second, .val (.long (own_f (fc.toInt64) 11)), .second, .val (.long (own_f (fc.toInt64) 12)), .second, .val (.long (own_f (fc.toInt64) 13)), .second, .val (.long (own_f (fc.toInt64) 14)), .second, .val (.long (own_f (fc.toInt64) 15)), .second, .val (.ref b3)] [])) _
  refine XS.aload X3.here hx rfl (hb hby at_135) rfl rfl ?_
  show Steps p.tables e below (T3.setTop (mkF m 137 #[.val (.int p1), .val (.int p2), .val (.int dc), .val (.int fc), .val (.long (fc.toInt64)), .second, .val (.long (1 : Int64)), .second, .val (.long (fc.toInt64)), .second, .val (.long (own_f (fc.toInt64) 2)), .second, .val (.long (own_f (fc.toInt64) 3)), .second, .val (.long (own_f (fc.toInt64) 4)), .second, .val (.long (own_f (fc.toInt64) 5)), .second, .val (.long (own_f (fc.toInt64) 6)), .second, .val (.long (own_f (fc.toInt64) 7)), .second, .val (.long (own_f (fc.toInt64) 8)), .second, .val (.long (own_f (fc.toInt64) 9)), .second, .val (.long (own_f (fc.toInt64) 10)), .second, .val (.long (own_f (fc.toInt64) 11)), .second, .val (.long (own_f (fc.toInt64) 12)), .second, .val (.long (own_f (fc.toInt64) 13)), .second, .val (.long (own_f (fc.toInt64) 14)), .second, .val (.long (own_f (fc.toInt64) 15)), .second, .val (.ref b3)] [(.ref b3)])) _
  refine X3.arraylength hx (cell := cl) Ar.1 (State.isArrayOf_alike hZ.alike Ar.2.1) (g := (mkF m 137 #[.val (.int p1), .val (.int p2), .val (.int dc), .val (.int fc), .val (.long (fc.toInt64)), .second, .val (.long (1 : Int64)), .second, .val (.long (fc.toInt64)), .second, .val (.long (own_f (fc.toInt64) 2)), .second, .val (.long (own_f (fc.toInt64) 3)), .second, .val (.long (own_f (fc.toInt64) 4)), .second, .val (.long (own_f (fc.toInt64) 5)), .second, .val (.long (own_f (fc.toInt64) 6)), .second, .val (.long (own_f (fc.toInt64) 7)), .second, .val (.long (own_f (fc.toInt64) 8)), .second, .val (.long (own_f (fc.toInt64) 9)), .second, .val (.long (own_f (fc.toInt64) 10)), .second, .val (.long (own_f (fc.toInt64) 11)), .second, .val (.long (own_f (fc.toInt64) 12)), .second, .val (.long (own_f (fc.toInt64) 13)), .second, .val (.long (own_f (fc.toInt64) 14)), .second, .val (.long (own_f (fc.toInt64) 15)), .second, .val (.ref b3)] [(.ref b3)])) rfl rfl (hb hby at_137) _ ?_
  rw [len_of S' hn]
  show Steps p.tables e below (T3.setTop (mkF m 138 #[.val (.int p1), .val (.int p2), .val (.int dc), .val (.int fc), .val (.long (fc.toInt64)), .second, .val (.long (1 : Int64)), .second, .val (.long (fc.toInt64)), .second, .val (.long (own_f (fc.toInt64) 2)), .second, .val (.long (own_f (fc.toInt64) 3)), .second, .val (.long (own_f (fc.toInt64) 4)), .second, .val (.long (own_f (fc.toInt64) 5)), .second, .val (.long (own_f (fc.toInt64) 6)), .second, .val (.long (own_f (fc.toInt64) 7)), .second, .val (.long (own_f (fc.toInt64) 8)), .second, .val (.long (own_f (fc.toInt64) 9)), .second, .val (.long (own_f (fc.toInt64) 10)), .second, .val (.long (own_f (fc.toInt64) 11)), .second, .val (.long (own_f (fc.toInt64) 12)), .second, .val (.long (own_f (fc.toInt64) 13)), .second, .val (.long (own_f (fc.toInt64) 14)), .second, .val (.long (own_f (fc.toInt64) 15)), .second, .val (.ref b3)] [(.int (dc + (1 : Int32)))])) _
  refine XS.iloadN X3.here hx rfl (hb hby at_138) rfl ?_
  show Steps p.tables e below (T3.setTop (mkF m 139 #[.val (.int p1), .val (.int p2), .val (.int dc), .val (.int fc), .val (.long (fc.toInt64)), .second, .val (.long (1 : Int64)), .second, .val (.long (fc.toInt64)), .second, .val (.long (own_f (fc.toInt64) 2)), .second, .val (.long (own_f (fc.toInt64) 3)), .second, .val (.long (own_f (fc.toInt64) 4)), .second, .val (.long (own_f (fc.toInt64) 5)), .second, .val (.long (own_f (fc.toInt64) 6)), .second, .val (.long (own_f (fc.toInt64) 7)), .second, .val (.long (own_f (fc.toInt64) 8)), .second, .val (.long (own_f (fc.toInt64) 9)), .second, .val (.long (own_f (fc.toInt64) 10)), .second, .val (.long (own_f (fc.toInt64) 11)), .second, .val (.long (own_f (fc.toInt64) 12)), .second, .val (.long (own_f (fc.toInt64) 13)), .second, .val (.long (own_f (fc.toInt64) 14)), .second, .val (.long (own_f (fc.toInt64) 15)), .second, .val (.ref b3)] [(.int dc), (.int (dc + (1 : Int32)))])) _
  refine XS.iconst X3.here hx rfl (hb hby at_139) ?_
  show Steps p.tables e below (T3.setTop (mkF m 140 #[.val (.int p1), .val (.int p2), .val (.int dc), .val (.int fc), .val (.long (fc.toInt64)), .second, .val (.long (1 : Int64)), .second, .val (.long (fc.toInt64)), .second, .val (.long (own_f (fc.toInt64) 2)), .second, .val (.long (own_f (fc.toInt64) 3)), .second, .val (.long (own_f (fc.toInt64) 4)), .second, .val (.long (own_f (fc.toInt64) 5)), .second, .val (.long (own_f (fc.toInt64) 6)), .second, .val (.long (own_f (fc.toInt64) 7)), .second, .val (.long (own_f (fc.toInt64) 8)), .second, .val (.long (own_f (fc.toInt64) 9)), .second, .val (.long (own_f (fc.toInt64) 10)), .second, .val (.long (own_f (fc.toInt64) 11)), .second, .val (.long (own_f (fc.toInt64) 12)), .second, .val (.long (own_f (fc.toInt64) 13)), .second, .val (.long (own_f (fc.toInt64) 14)), .second, .val (.long (own_f (fc.toInt64) 15)), .second, .val (.ref b3)] [(.int (1 : Int32)), (.int dc), (.int (dc + (1 : Int32)))])) _
  refine XS.iadd X3.here hx rfl (hb hby at_140) rfl ?_
  show Steps p.tables e below (T3.setTop (mkF m 141 #[.val (.int p1), .val (.int p2), .val (.int dc), .val (.int fc), .val (.long (fc.toInt64)), .second, .val (.long (1 : Int64)), .second, .val (.long (fc.toInt64)), .second, .val (.long (own_f (fc.toInt64) 2)), .second, .val (.long (own_f (fc.toInt64) 3)), .second, .val (.long (own_f (fc.toInt64) 4)), .second, .val (.long (own_f (fc.toInt64) 5)), .second, .val (.long (own_f (fc.toInt64) 6)), .second, .val (.long (own_f (fc.toInt64) 7)), .second, .val (.long (own_f (fc.toInt64) 8)), .second, .val (.long (own_f (fc.toInt64) 9)), .second, .val (.long (own_f (fc.toInt64) 10)), .second, .val (.long (own_f (fc.toInt64) 11)), .second, .val (.long (own_f (fc.toInt64) 12)), .second, .val (.long (own_f (fc.toInt64) 13)), .second, .val (.long (own_f (fc.toInt64) 14)), .second, .val (.long (own_f (fc.toInt64) 15)), .second, .val (.ref b3)] [(.int (dc + (1 : Int32))), (.int (dc + (1 : Int32)))])) _
  refine XS.icmpNo X3.here hx rfl (hb hby at_141) rfl (teq (rfl : (dc + (1 : Int32)) = (dc + (1 : Int32)))).2 ?_
  show Steps p.tables e below (T3.setTop (mkF m 144 #[.val (.int p1), .val (.int p2), .val (.int dc), .val (.int fc), .val (.long (fc.toInt64)), .second, .val (.long (1 : Int64)), .second, .val (.long (fc.toInt64)), .second, .val (.long (own_f (fc.toInt64) 2)), .second, .val (.long (own_f (fc.toInt64) 3)), .second, .val (.long (own_f (fc.toInt64) 4)), .second, .val (.long (own_f (fc.toInt64) 5)), .second, .val (.long (own_f (fc.toInt64) 6)), .second, .val (.long (own_f (fc.toInt64) 7)), .second, .val (.long (own_f (fc.toInt64) 8)), .second, .val (.long (own_f (fc.toInt64) 9)), .second, .val (.long (own_f (fc.toInt64) 10)), .second, .val (.long (own_f (fc.toInt64) 11)), .second, .val (.long (own_f (fc.toInt64) 12)), .second, .val (.long (own_f (fc.toInt64) 13)), .second, .val (.long (own_f (fc.toInt64) 14)), .second, .val (.long (own_f (fc.toInt64) 15)), .second, .val (.ref b3)] [])) _
  exact (st4 _ (st5 _ (st6 _ (st7 _ (st8 _ (st9 _ (st10 _ (st11 _ (st12 _ (st13 _ (st14 _ (st15 _ (st16 _ (st17 _ (st18 _ (st19 _ h))))))))))))))))
def Q0 (Z : State) (p1 : Int32) (p2 : Int32) (h0 : Heap) (n0 : Nat) (v : Option Value) (h : Heap) (L : List Loc) : Prop := v = some (.int (1 : Int32)) ∧ Fr n0 L
set_option maxRecDepth 65536 in
set_option maxHeartbeats 40000000 in
theorem rm0 (l : Launch) (Z : State) (a0 : Array Value) (hw : ∀ d ∈ tables_1, d.before a0 Z = true) (ws : List Jvm.Cond) (p1 : Int32) (p2 : Int32) (h0 : Heap) (n0 : Nat) (Z0 : n0 ≤ h0.size) :
    MetFree l x (head1 (Jvm.Cond.code x code maxLocals ret :: ws) room_1) (fun a U => a = #[(.int p1), (.int p2)] ∧ Z.Warmed39 U.vm ∧ U.heap = h0) (fun _ _ _ _ _ => True) (fun _ U o U' => ∃ v L, o = .returned v ∧ Q0 Z p1 p2 h0 n0 v U'.heap L ∧ FrameEnd U o U' L room_1.cells room_1.slots) := by
  refine MetFree.of_bodySF (plainFor_of_name pn_0) hisR ?_
  intro p e s m args below meth c s₁ Bd hml0 hP hK
  obtain ⟨rfl, hZ, hh⟩ := hP
  have hx := Bd.exec
  have hby := Bd.bytes
  have hml : c.maxLocals = 39 := hml0
  have hown : s.vm.findClass "facedown/CombinationsUpToPinLaw" = some m.cls := findClass_of_methodNamed Bd.named
  have hnm := (name_of_methodNamed Bd.named Bd.method).1
  have X0 : Stand p l e room_1 s m #[(.int p1), (.int p2)] below meth c s₁ [] 0 0 := Stand.of_body Bd
  have e0 : s₁.heap = h0 := by rw [← hh, Bd.state]; rfl
  have N0 := Fr.nil n0
  have pre0 : ∀ t, Steps p.tables e below (s₁.setTop (mkF m 0 #[.val (.int p1), .val (.int p2), .unset, .unset, .unset, .unset, .unset, .unset, .unset, .unset, .unset, .unset, .unset, .unset, .unset, .unset, .unset, .unset, .unset, .unset, .unset, .unset, .unset, .unset, .unset, .unset, .unset, .unset, .unset, .unset, .unset, .unset, .unset, .unset, .unset, .unset, .unset, .unset, .unset] [])) t → Steps p.tables e below (s₁.setTop (entryFrame m #[(.int p1), (.int p2)] maxLocals)) t := fun t k => castTop (ef_0 m p1 p2) k
  obtain ⟨D, hD, hdc⟩ := own_D p1
  by_cases hc7 : (2 : Int32) < (p1 &&& (15 : Int32))
  · have hnz17 : ¬ ((17 : Int32) = (0 : Int32)) := by decide
    obtain ⟨T9, L9, b9, X9, N9, st9⟩ := tail0 p1 p2 (p1 &&& (15 : Int32)) (p2 % (17 : Int32)) D hD hdc (own_ok (fun j hj => own_big p2 j (by omega))) X0 hx hZ hw hby hml hown e0 n0 Z0 N0
    obtain ⟨fs, hr, hrun, hended, hW, hsame⟩ := X9.leave (v := some (.int (1 : Int32))) (fun h => by rw [Bd.returns] at h; cases h)
    refine ⟨_, _, pre0 _ ?_, hrun, hended, _, _, rfl, ?_, ⟨_, rfl⟩, hW, hsame.mono (by decide) (by decide)⟩
    · show Steps p.tables e below (s₁.setTop (mkF m 0 #[.val (.int p1), .val (.int p2), .unset, .unset, .unset, .unset, .unset, .unset, .unset, .unset, .unset, .unset, .unset, .unset, .unset, .unset, .unset, .unset, .unset, .unset, .unset, .unset, .unset, .unset, .unset, .unset, .unset, .unset, .unset, .unset, .unset, .unset, .unset, .unset, .unset, .unset, .unset, .unset, .unset] [])) _
      refine XS.iloadN X0.here hx rfl (hb hby at_0) rfl ?_
      show Steps p.tables e below (s₁.setTop (mkF m 1 #[.val (.int p1), .val (.int p2), .unset, .unset, .unset, .unset, .unset, .unset, .unset, .unset, .unset, .unset, .unset, .unset, .unset, .unset, .unset, .unset, .unset, .unset, .unset, .unset, .unset, .unset, .unset, .unset, .unset, .unset, .unset, .unset, .unset, .unset, .unset, .unset, .unset, .unset, .unset, .unset, .unset] [(.int p1)])) _
      refine XS.bipush X0.here hx rfl (hb hby at_1) ?_
      show Steps p.tables e below (s₁.setTop (mkF m 3 #[.val (.int p1), .val (.int p2), .unset, .unset, .unset, .unset, .unset, .unset, .unset, .unset, .unset, .unset, .unset, .unset, .unset, .unset, .unset, .unset, .unset, .unset, .unset, .unset, .unset, .unset, .unset, .unset, .unset, .unset, .unset, .unset, .unset, .unset, .unset, .unset, .unset, .unset, .unset, .unset, .unset] [(.int (15 : Int32)), (.int p1)])) _
      refine XS.iand X0.here hx rfl (hb hby at_3) rfl ?_
      show Steps p.tables e below (s₁.setTop (mkF m 4 #[.val (.int p1), .val (.int p2), .unset, .unset, .unset, .unset, .unset, .unset, .unset, .unset, .unset, .unset, .unset, .unset, .unset, .unset, .unset, .unset, .unset, .unset, .unset, .unset, .unset, .unset, .unset, .unset, .unset, .unset, .unset, .unset, .unset, .unset, .unset, .unset, .unset, .unset, .unset, .unset, .unset] [(.int (p1 &&& (15 : Int32)))])) _
      refine XS.istoreN X0.here hx rfl (hb hby at_4) rfl (l' := #[.val (.int p1), .val (.int p2), .val (.int (p1 &&& (15 : Int32))), .unset, .unset, .unset, .unset, .unset, .unset, .unset, .unset, .unset, .unset, .unset, .unset, .unset, .unset, .unset, .unset, .unset, .unset, .unset, .unset, .unset, .unset, .unset, .unset, .unset, .unset, .unset, .unset, .unset, .unset, .unset, .unset, .unset, .unset, .unset, .unset]) rfl ?_
      show Steps p.tables e below (s₁.setTop (mkF m 5 #[.val (.int p1), .val (.int p2), .val (.int (p1 &&& (15 : Int32))), .unset, .unset, .unset, .unset, .unset, .unset, .unset, .unset, .unset, .unset, .unset, .unset, .unset, .unset, .unset, .unset, .unset, .unset, .unset, .unset, .unset, .unset, .unset, .unset, .unset, .unset, .unset, .unset, .unset, .unset, .unset, .unset, .unset, .unset, .unset, .unset] [])) _
      refine XS.iloadN X0.here hx rfl (hb hby at_5) rfl ?_
      show Steps p.tables e below (s₁.setTop (mkF m 6 #[.val (.int p1), .val (.int p2), .val (.int (p1 &&& (15 : Int32))), .unset, .unset, .unset, .unset, .unset, .unset, .unset, .unset, .unset, .unset, .unset, .unset, .unset, .unset, .unset, .unset, .unset, .unset, .unset, .unset, .unset, .unset, .unset, .unset, .unset, .unset, .unset, .unset, .unset, .unset, .unset, .unset, .unset, .unset, .unset, .unset] [(.int (p1 &&& (15 : Int32)))])) _
      refine XS.iconst X0.here hx rfl (hb hby at_6) ?_
      show Steps p.tables e below (s₁.setTop (mkF m 7 #[.val (.int p1), .val (.int p2), .val (.int (p1 &&& (15 : Int32))), .unset, .unset, .unset, .unset, .unset, .unset, .unset, .unset, .unset, .unset, .unset, .unset, .unset, .unset, .unset, .unset, .unset, .unset, .unset, .unset, .unset, .unset, .unset, .unset, .unset, .unset, .unset, .unset, .unset, .unset, .unset, .unset, .unset, .unset, .unset, .unset] [(.int (2 : Int32)), (.int (p1 &&& (15 : Int32)))])) _
      refine XS.icmpYes X0.here hx rfl (pc0 := 7) (pc' := 14) rfl (hb hby at_7) rfl (tlt hc7).2.2.1 (by decide) (by decide) ?_
      show Steps p.tables e below (s₁.setTop (mkF m 14 #[.val (.int p1), .val (.int p2), .val (.int (p1 &&& (15 : Int32))), .unset, .unset, .unset, .unset, .unset, .unset, .unset, .unset, .unset, .unset, .unset, .unset, .unset, .unset, .unset, .unset, .unset, .unset, .unset, .unset, .unset, .unset, .unset, .unset, .unset, .unset, .unset, .unset, .unset, .unset, .unset, .unset, .unset, .unset, .unset, .unset] [])) _
      refine XS.iloadN X0.here hx rfl (hb hby at_14) rfl ?_
      show Steps p.tables e below (s₁.setTop (mkF m 15 #[.val (.int p1), .val (.int p2), .val (.int (p1 &&& (15 : Int32))), .unset, .unset, .unset, .unset, .unset, .unset, .unset, .unset, .unset, .unset, .unset, .unset, .unset, .unset, .unset, .unset, .unset, .unset, .unset, .unset, .unset, .unset, .unset, .unset, .unset, .unset, .unset, .unset, .unset, .unset, .unset, .unset, .unset, .unset, .unset, .unset] [(.int p2)])) _
      refine XS.bipush X0.here hx rfl (hb hby at_15) ?_
      show Steps p.tables e below (s₁.setTop (mkF m 17 #[.val (.int p1), .val (.int p2), .val (.int (p1 &&& (15 : Int32))), .unset, .unset, .unset, .unset, .unset, .unset, .unset, .unset, .unset, .unset, .unset, .unset, .unset, .unset, .unset, .unset, .unset, .unset, .unset, .unset, .unset, .unset, .unset, .unset, .unset, .unset, .unset, .unset, .unset, .unset, .unset, .unset, .unset, .unset, .unset, .unset] [(.int (17 : Int32)), (.int p2)])) _
      refine iremM X0 hx rfl (hb hby at_17) rfl hnz17 ?_
      show Steps p.tables e below (s₁.setTop (mkF m 18 #[.val (.int p1), .val (.int p2), .val (.int (p1 &&& (15 : Int32))), .unset, .unset, .unset, .unset, .unset, .unset, .unset, .unset, .unset, .unset, .unset, .unset, .unset, .unset, .unset, .unset, .unset, .unset, .unset, .unset, .unset, .unset, .unset, .unset, .unset, .unset, .unset, .unset, .unset, .unset, .unset, .unset, .unset, .unset, .unset, .unset] [(.int (p2 % (17 : Int32)))])) _
      refine XS.istoreN X0.here hx rfl (hb hby at_18) rfl (l' := #[.val (.int p1), .val (.int p2), .val (.int (p1 &&& (15 : Int32))), .val (.int (p2 % (17 : Int32))), .unset, .unset, .unset, .unset, .unset, .unset, .unset, .unset, .unset, .unset, .unset, .unset, .unset, .unset, .unset, .unset, .unset, .unset, .unset, .unset, .unset, .unset, .unset, .unset, .unset, .unset, .unset, .unset, .unset, .unset, .unset, .unset, .unset, .unset, .unset]) rfl ?_
      show Steps p.tables e below (s₁.setTop (mkF m 19 #[.val (.int p1), .val (.int p2), .val (.int (p1 &&& (15 : Int32))), .val (.int (p2 % (17 : Int32))), .unset, .unset, .unset, .unset, .unset, .unset, .unset, .unset, .unset, .unset, .unset, .unset, .unset, .unset, .unset, .unset, .unset, .unset, .unset, .unset, .unset, .unset, .unset, .unset, .unset, .unset, .unset, .unset, .unset, .unset, .unset, .unset, .unset, .unset, .unset] [])) _
      refine st9 _ ?_
      show Steps p.tables e below (T9.setTop (mkF m 346 #[.val (.int p1), .val (.int p2), .val (.int (p1 &&& (15 : Int32))), .val (.int (p2 % (17 : Int32))), .val (.long ((p2 % (17 : Int32)).toInt64)), .second, .val (.long (1 : Int64)), .second, .val (.long ((p2 % (17 : Int32)).toInt64)), .second, .val (.long (own_f ((p2 % (17 : Int32)).toInt64) 2)), .second, .val (.long (own_f ((p2 % (17 : Int32)).toInt64) 3)), .second, .val (.long (own_f ((p2 % (17 : Int32)).toInt64) 4)), .second, .val (.long (own_f ((p2 % (17 : Int32)).toInt64) 5)), .second, .val (.long (own_f ((p2 % (17 : Int32)).toInt64) 6)), .second, .val (.long (own_f ((p2 % (17 : Int32)).toInt64) 7)), .second, .val (.long (own_f ((p2 % (17 : Int32)).toInt64) 8)), .second, .val (.long (own_f ((p2 % (17 : Int32)).toInt64) 9)), .second, .val (.long (own_f ((p2 % (17 : Int32)).toInt64) 10)), .second, .val (.long (own_f ((p2 % (17 : Int32)).toInt64) 11)), .second, .val (.long (own_f ((p2 % (17 : Int32)).toInt64) 12)), .second, .val (.long (own_f ((p2 % (17 : Int32)).toInt64) 13)), .second, .val (.long (own_f ((p2 % (17 : Int32)).toInt64) 14)), .second, .val (.long (own_f ((p2 % (17 : Int32)).toInt64) 15)), .second, .val (.ref b9)] [])) _
      refine XS.iconst X9.here hx rfl (hb hby at_346) ?_
      show Steps p.tables e below (T9.setTop (mkF m 347 #[.val (.int p1), .val (.int p2), .val (.int (p1 &&& (15 : Int32))), .val (.int (p2 % (17 : Int32))), .val (.long ((p2 % (17 : Int32)).toInt64)), .second, .val (.long (1 : Int64)), .second, .val (.long ((p2 % (17 : Int32)).toInt64)), .second, .val (.long (own_f ((p2 % (17 : Int32)).toInt64) 2)), .second, .val (.long (own_f ((p2 % (17 : Int32)).toInt64) 3)), .second, .val (.long (own_f ((p2 % (17 : Int32)).toInt64) 4)), .second, .val (.long (own_f ((p2 % (17 : Int32)).toInt64) 5)), .second, .val (.long (own_f ((p2 % (17 : Int32)).toInt64) 6)), .second, .val (.long (own_f ((p2 % (17 : Int32)).toInt64) 7)), .second, .val (.long (own_f ((p2 % (17 : Int32)).toInt64) 8)), .second, .val (.long (own_f ((p2 % (17 : Int32)).toInt64) 9)), .second, .val (.long (own_f ((p2 % (17 : Int32)).toInt64) 10)), .second, .val (.long (own_f ((p2 % (17 : Int32)).toInt64) 11)), .second, .val (.long (own_f ((p2 % (17 : Int32)).toInt64) 12)), .second, .val (.long (own_f ((p2 % (17 : Int32)).toInt64) 13)), .second, .val (.long (own_f ((p2 % (17 : Int32)).toInt64) 14)), .second, .val (.long (own_f ((p2 % (17 : Int32)).toInt64) 15)), .second, .val (.ref b9)] [(.int (1 : Int32))])) _
      refine XS.goto X9.here hx rfl (pc0 := 347) (pc' := 351) rfl (hb hby at_347) (by decide) (by decide) ?_
      show Steps p.tables e below (T9.setTop (mkF m 351 #[.val (.int p1), .val (.int p2), .val (.int (p1 &&& (15 : Int32))), .val (.int (p2 % (17 : Int32))), .val (.long ((p2 % (17 : Int32)).toInt64)), .second, .val (.long (1 : Int64)), .second, .val (.long ((p2 % (17 : Int32)).toInt64)), .second, .val (.long (own_f ((p2 % (17 : Int32)).toInt64) 2)), .second, .val (.long (own_f ((p2 % (17 : Int32)).toInt64) 3)), .second, .val (.long (own_f ((p2 % (17 : Int32)).toInt64) 4)), .second, .val (.long (own_f ((p2 % (17 : Int32)).toInt64) 5)), .second, .val (.long (own_f ((p2 % (17 : Int32)).toInt64) 6)), .second, .val (.long (own_f ((p2 % (17 : Int32)).toInt64) 7)), .second, .val (.long (own_f ((p2 % (17 : Int32)).toInt64) 8)), .second, .val (.long (own_f ((p2 % (17 : Int32)).toInt64) 9)), .second, .val (.long (own_f ((p2 % (17 : Int32)).toInt64) 10)), .second, .val (.long (own_f ((p2 % (17 : Int32)).toInt64) 11)), .second, .val (.long (own_f ((p2 % (17 : Int32)).toInt64) 12)), .second, .val (.long (own_f ((p2 % (17 : Int32)).toInt64) 13)), .second, .val (.long (own_f ((p2 % (17 : Int32)).toInt64) 14)), .second, .val (.long (own_f ((p2 % (17 : Int32)).toInt64) 15)), .second, .val (.ref b9)] [(.int (1 : Int32))])) _
      exact retN X9 hx (t := .boolean) Bd.returns (by simp) (hb hby at_351) hr
    · show Q0 Z p1 p2 h0 n0 _ T9.heap _
      exact ⟨rfl, N9⟩
  · have h2 : (2 : Int32).toInt = 2 := by decide
    have hc7' := hc7
    rw [own_lt, h2] at hc7'
    obtain ⟨T9, L9, b9, X9, N9, st9⟩ := tail0 p1 p2 (p1 &&& (15 : Int32)) p2 D hD hdc (own_ok (fun j hj => own_small p2 j (by omega))) X0 hx hZ hw hby hml hown e0 n0 Z0 N0
    obtain ⟨fs, hr, hrun, hended, hW, hsame⟩ := X9.leave (v := some (.int (1 : Int32))) (fun h => by rw [Bd.returns] at h; cases h)
    refine ⟨_, _, pre0 _ ?_, hrun, hended, _, _, rfl, ?_, ⟨_, rfl⟩, hW, hsame.mono (by decide) (by decide)⟩
    · show Steps p.tables e below (s₁.setTop (mkF m 0 #[.val (.int p1), .val (.int p2), .unset, .unset, .unset, .unset, .unset, .unset, .unset, .unset, .unset, .unset, .unset, .unset, .unset, .unset, .unset, .unset, .unset, .unset, .unset, .unset, .unset, .unset, .unset, .unset, .unset, .unset, .unset, .unset, .unset, .unset, .unset, .unset, .unset, .unset, .unset, .unset, .unset] [])) _
      refine XS.iloadN X0.here hx rfl (hb hby at_0) rfl ?_
      show Steps p.tables e below (s₁.setTop (mkF m 1 #[.val (.int p1), .val (.int p2), .unset, .unset, .unset, .unset, .unset, .unset, .unset, .unset, .unset, .unset, .unset, .unset, .unset, .unset, .unset, .unset, .unset, .unset, .unset, .unset, .unset, .unset, .unset, .unset, .unset, .unset, .unset, .unset, .unset, .unset, .unset, .unset, .unset, .unset, .unset, .unset, .unset] [(.int p1)])) _
      refine XS.bipush X0.here hx rfl (hb hby at_1) ?_
      show Steps p.tables e below (s₁.setTop (mkF m 3 #[.val (.int p1), .val (.int p2), .unset, .unset, .unset, .unset, .unset, .unset, .unset, .unset, .unset, .unset, .unset, .unset, .unset, .unset, .unset, .unset, .unset, .unset, .unset, .unset, .unset, .unset, .unset, .unset, .unset, .unset, .unset, .unset, .unset, .unset, .unset, .unset, .unset, .unset, .unset, .unset, .unset] [(.int (15 : Int32)), (.int p1)])) _
      refine XS.iand X0.here hx rfl (hb hby at_3) rfl ?_
      show Steps p.tables e below (s₁.setTop (mkF m 4 #[.val (.int p1), .val (.int p2), .unset, .unset, .unset, .unset, .unset, .unset, .unset, .unset, .unset, .unset, .unset, .unset, .unset, .unset, .unset, .unset, .unset, .unset, .unset, .unset, .unset, .unset, .unset, .unset, .unset, .unset, .unset, .unset, .unset, .unset, .unset, .unset, .unset, .unset, .unset, .unset, .unset] [(.int (p1 &&& (15 : Int32)))])) _
      refine XS.istoreN X0.here hx rfl (hb hby at_4) rfl (l' := #[.val (.int p1), .val (.int p2), .val (.int (p1 &&& (15 : Int32))), .unset, .unset, .unset, .unset, .unset, .unset, .unset, .unset, .unset, .unset, .unset, .unset, .unset, .unset, .unset, .unset, .unset, .unset, .unset, .unset, .unset, .unset, .unset, .unset, .unset, .unset, .unset, .unset, .unset, .unset, .unset, .unset, .unset, .unset, .unset, .unset]) rfl ?_
      show Steps p.tables e below (s₁.setTop (mkF m 5 #[.val (.int p1), .val (.int p2), .val (.int (p1 &&& (15 : Int32))), .unset, .unset, .unset, .unset, .unset, .unset, .unset, .unset, .unset, .unset, .unset, .unset, .unset, .unset, .unset, .unset, .unset, .unset, .unset, .unset, .unset, .unset, .unset, .unset, .unset, .unset, .unset, .unset, .unset, .unset, .unset, .unset, .unset, .unset, .unset, .unset] [])) _
      refine XS.iloadN X0.here hx rfl (hb hby at_5) rfl ?_
      show Steps p.tables e below (s₁.setTop (mkF m 6 #[.val (.int p1), .val (.int p2), .val (.int (p1 &&& (15 : Int32))), .unset, .unset, .unset, .unset, .unset, .unset, .unset, .unset, .unset, .unset, .unset, .unset, .unset, .unset, .unset, .unset, .unset, .unset, .unset, .unset, .unset, .unset, .unset, .unset, .unset, .unset, .unset, .unset, .unset, .unset, .unset, .unset, .unset, .unset, .unset, .unset] [(.int (p1 &&& (15 : Int32)))])) _
      refine XS.iconst X0.here hx rfl (hb hby at_6) ?_
      show Steps p.tables e below (s₁.setTop (mkF m 7 #[.val (.int p1), .val (.int p2), .val (.int (p1 &&& (15 : Int32))), .unset, .unset, .unset, .unset, .unset, .unset, .unset, .unset, .unset, .unset, .unset, .unset, .unset, .unset, .unset, .unset, .unset, .unset, .unset, .unset, .unset, .unset, .unset, .unset, .unset, .unset, .unset, .unset, .unset, .unset, .unset, .unset, .unset, .unset, .unset, .unset] [(.int (2 : Int32)), (.int (p1 &&& (15 : Int32)))])) _
      refine XS.icmpNo X0.here hx rfl (hb hby at_7) rfl (flt hc7).2.2.1 ?_
      show Steps p.tables e below (s₁.setTop (mkF m 10 #[.val (.int p1), .val (.int p2), .val (.int (p1 &&& (15 : Int32))), .unset, .unset, .unset, .unset, .unset, .unset, .unset, .unset, .unset, .unset, .unset, .unset, .unset, .unset, .unset, .unset, .unset, .unset, .unset, .unset, .unset, .unset, .unset, .unset, .unset, .unset, .unset, .unset, .unset, .unset, .unset, .unset, .unset, .unset, .unset, .unset] [])) _
      refine XS.iloadN X0.here hx rfl (hb hby at_10) rfl ?_
      show Steps p.tables e below (s₁.setTop (mkF m 11 #[.val (.int p1), .val (.int p2), .val (.int (p1 &&& (15 : Int32))), .unset, .unset, .unset, .unset, .unset, .unset, .unset, .unset, .unset, .unset, .unset, .unset, .unset, .unset, .unset, .unset, .unset, .unset, .unset, .unset, .unset, .unset, .unset, .unset, .unset, .unset, .unset, .unset, .unset, .unset, .unset, .unset, .unset, .unset, .unset, .unset] [(.int p2)])) _
      refine XS.goto X0.here hx rfl (pc0 := 11) (pc' := 18) rfl (hb hby at_11) (by decide) (by decide) ?_
      show Steps p.tables e below (s₁.setTop (mkF m 18 #[.val (.int p1), .val (.int p2), .val (.int (p1 &&& (15 : Int32))), .unset, .unset, .unset, .unset, .unset, .unset, .unset, .unset, .unset, .unset, .unset, .unset, .unset, .unset, .unset, .unset, .unset, .unset, .unset, .unset, .unset, .unset, .unset, .unset, .unset, .unset, .unset, .unset, .unset, .unset, .unset, .unset, .unset, .unset, .unset, .unset] [(.int p2)])) _
      refine XS.istoreN X0.here hx rfl (hb hby at_18) rfl (l' := #[.val (.int p1), .val (.int p2), .val (.int (p1 &&& (15 : Int32))), .val (.int p2), .unset, .unset, .unset, .unset, .unset, .unset, .unset, .unset, .unset, .unset, .unset, .unset, .unset, .unset, .unset, .unset, .unset, .unset, .unset, .unset, .unset, .unset, .unset, .unset, .unset, .unset, .unset, .unset, .unset, .unset, .unset, .unset, .unset, .unset, .unset]) rfl ?_
      show Steps p.tables e below (s₁.setTop (mkF m 19 #[.val (.int p1), .val (.int p2), .val (.int (p1 &&& (15 : Int32))), .val (.int p2), .unset, .unset, .unset, .unset, .unset, .unset, .unset, .unset, .unset, .unset, .unset, .unset, .unset, .unset, .unset, .unset, .unset, .unset, .unset, .unset, .unset, .unset, .unset, .unset, .unset, .unset, .unset, .unset, .unset, .unset, .unset, .unset, .unset, .unset, .unset] [])) _
      refine st9 _ ?_
      show Steps p.tables e below (T9.setTop (mkF m 346 #[.val (.int p1), .val (.int p2), .val (.int (p1 &&& (15 : Int32))), .val (.int p2), .val (.long (p2.toInt64)), .second, .val (.long (1 : Int64)), .second, .val (.long (p2.toInt64)), .second, .val (.long (own_f (p2.toInt64) 2)), .second, .val (.long (own_f (p2.toInt64) 3)), .second, .val (.long (own_f (p2.toInt64) 4)), .second, .val (.long (own_f (p2.toInt64) 5)), .second, .val (.long (own_f (p2.toInt64) 6)), .second, .val (.long (own_f (p2.toInt64) 7)), .second, .val (.long (own_f (p2.toInt64) 8)), .second, .val (.long (own_f (p2.toInt64) 9)), .second, .val (.long (own_f (p2.toInt64) 10)), .second, .val (.long (own_f (p2.toInt64) 11)), .second, .val (.long (own_f (p2.toInt64) 12)), .second, .val (.long (own_f (p2.toInt64) 13)), .second, .val (.long (own_f (p2.toInt64) 14)), .second, .val (.long (own_f (p2.toInt64) 15)), .second, .val (.ref b9)] [])) _
      refine XS.iconst X9.here hx rfl (hb hby at_346) ?_
      show Steps p.tables e below (T9.setTop (mkF m 347 #[.val (.int p1), .val (.int p2), .val (.int (p1 &&& (15 : Int32))), .val (.int p2), .val (.long (p2.toInt64)), .second, .val (.long (1 : Int64)), .second, .val (.long (p2.toInt64)), .second, .val (.long (own_f (p2.toInt64) 2)), .second, .val (.long (own_f (p2.toInt64) 3)), .second, .val (.long (own_f (p2.toInt64) 4)), .second, .val (.long (own_f (p2.toInt64) 5)), .second, .val (.long (own_f (p2.toInt64) 6)), .second, .val (.long (own_f (p2.toInt64) 7)), .second, .val (.long (own_f (p2.toInt64) 8)), .second, .val (.long (own_f (p2.toInt64) 9)), .second, .val (.long (own_f (p2.toInt64) 10)), .second, .val (.long (own_f (p2.toInt64) 11)), .second, .val (.long (own_f (p2.toInt64) 12)), .second, .val (.long (own_f (p2.toInt64) 13)), .second, .val (.long (own_f (p2.toInt64) 14)), .second, .val (.long (own_f (p2.toInt64) 15)), .second, .val (.ref b9)] [(.int (1 : Int32))])) _
      refine XS.goto X9.here hx rfl (pc0 := 347) (pc' := 351) rfl (hb hby at_347) (by decide) (by decide) ?_
      show Steps p.tables e below (T9.setTop (mkF m 351 #[.val (.int p1), .val (.int p2), .val (.int (p1 &&& (15 : Int32))), .val (.int p2), .val (.long (p2.toInt64)), .second, .val (.long (1 : Int64)), .second, .val (.long (p2.toInt64)), .second, .val (.long (own_f (p2.toInt64) 2)), .second, .val (.long (own_f (p2.toInt64) 3)), .second, .val (.long (own_f (p2.toInt64) 4)), .second, .val (.long (own_f (p2.toInt64) 5)), .second, .val (.long (own_f (p2.toInt64) 6)), .second, .val (.long (own_f (p2.toInt64) 7)), .second, .val (.long (own_f (p2.toInt64) 8)), .second, .val (.long (own_f (p2.toInt64) 9)), .second, .val (.long (own_f (p2.toInt64) 10)), .second, .val (.long (own_f (p2.toInt64) 11)), .second, .val (.long (own_f (p2.toInt64) 12)), .second, .val (.long (own_f (p2.toInt64) 13)), .second, .val (.long (own_f (p2.toInt64) 14)), .second, .val (.long (own_f (p2.toInt64) 15)), .second, .val (.ref b9)] [(.int (1 : Int32))])) _
      exact retN X9 hx (t := .boolean) Bd.returns (by simp) (hb hby at_351) hr
    · show Q0 Z p1 p2 h0 n0 _ T9.heap _
      exact ⟨rfl, N9⟩
set_option maxRecDepth 65536 in
set_option maxHeartbeats 40000000 in
theorem comes_1 {Post : Tables → Env → Array Value → State → Outcome → State → Prop} (hpost : ∀ tb e args s v u, (limb_1_1.after args s (.returned v) u = true ∧ limb_1_2.after args s (.returned v) u = true ∧ True) → FrameEnd s (.returned v) u (Jvm.fieldLocs frame_1_writes args s ++ Jvm.arrayLocs frame_1_arrays args s ++ Jvm.staticLocs frame_1_statics s) 16 128 → Post tb e args s (.returned v) u) :
    ArmFor flags0 classFile x code maxLocals ret World_1 tables_1 room_1 Calls_1 rest_1 Pre_1 Post := by
  intro l hfl _ _ p e ha hc hk s m args below hf hA hF happ hP
  obtain ⟨hcalls, hrest, hpre⟩ := hP
  obtain ⟨-, -, -, hnamed, -, -, -, hat⟩ := (Spec.applies_iff hf).mp happ
  obtain ⟨hg, hn⟩ := and_e (Cond.before_iff.mp (show (Jvm.Cond.and given_1 narrow_1).before args s = true from hpre))
  obtain ⟨g20, g21⟩ := and_e hg
  obtain ⟨g22, g23⟩ := and_e g21
  obtain ⟨w0, w1, rfl⟩ : ∃ w0 w1 : Value, args = #[w0, w1] := by
    have hs : args.size = 2 := by simpa [Cond.value, given_1] using g20
    obtain ⟨L⟩ := args
    match L, hs with
    | [w0, w1], _ => exact ⟨w0, w1, rfl⟩
  have hw := fun d (hd : d ∈ tables_1) => atoms_spec (ws := Jvm.Cond.code x code maxLocals ret :: tables_1) hat d (List.mem_cons_of_mem _ hd)
  have hfit : Fit s := fun {y c} hc i hi => by
    obtain ⟨ha, rfl⟩ := Array.getElem?_eq_some_iff.mp hc
    have q := List.all_eq_true.mp ((Array.all_eq_true_iff_forall_mem.mp hF) _ (Array.getElem_mem ha)) i (List.mem_range.mpr hi)
    simpa [Array.getElem?_eq_getElem hi] using q
  obtain ⟨i0, ei0⟩ := is_v g22
  obtain rfl : w0 = (.int i0) := Option.some.inj ei0
  obtain ⟨i1, ei1⟩ := is_v g23
  obtain rfl : w1 = (.int i1) := Option.some.inj ei1
  obtain ⟨n, o, h1, h2, h3, _, L, rfl, ⟨rfl, N⟩, hq⟩ := rm0 l s _ hw tables_1 i0 i1 s.heap s.heap.size (Nat.le_refl _) p e ha hc hk s m _ below hf ((Spec.applies_iff_loose hf).mp happ).1 ⟨rfl, State.Warmed39.refl s, rfl⟩ trivial
  refine ⟨n, _, h1, h2, h3, hpost _ _ _ _ _ _ ⟨Cond.after_iff.mpr rfl, Cond.after_iff.mpr (eq_i res_at (Term.int_eval (1)) rfl), trivial⟩ ⟨hq.1, hq.2.1, (hq.2.2.sift fun y hy => Or.inr (N y hy)).mono (by decide) (by decide)⟩⟩
theorem main_1_1 : Claimed_1_1 := comes_1 fun _ _ _ _ _ _ h hF => ⟨h.1, hF⟩
theorem main_1_2 : Claimed_1_2 := comes_1 fun _ _ _ _ _ _ h hF => ⟨h.2.1, hF⟩
end Jvm.Pilot.@@N@@
namespace Jvm.Pilot.@@N@@
open Jvm Jvm.ClassFile Sem Op Lib Jvm.Free Jvm.Stand Jvm.Pilot.@@N@@.Jvm.D
/-! MADE BY PROGRAM (witnessworld.py) out of the Statement's table words and the real class files: 12 classes; the members and pool entries that the words name. The judged class is class 1, her method 2. -/
namespace start1
open Jvm.ClassFile
def u (s : String) : CpInfo := .utf8 (stringToUtf16 s)
/-- a pool by its gaps: so many unusable entries, then the entry; so many at the end -/
def gap : Nat → List CpInfo → List CpInfo
  | 0, r => r
  | n + 1, r => .unusable :: gap n r
def poolList (es : List (Nat × CpInfo)) (last : Nat) : List CpInfo := es.foldr (fun e r => gap e.1 (e.2 :: r)) (gap last [])
def pool (es : List (Nat × CpInfo)) (last : Nat) : Array CpInfo := ⟨poolList es last⟩
def fileOf (pool : Array CpInfo) (this : Nat) (attrs : Array Attribute := #[]) (ms : Array MethodInfo := #[]) (fl : Nat := 33) (sup : Nat := 0) (ifs : Array Nat := #[]) (fds : Array FieldInfo := #[]) : ClassFile where
  minorVersion := 0
  majorVersion := 65
  constantPool := pool
  accessFlags := fl
  thisClass := this
  superClass := sup
  interfaces := ifs
  fields := fds
  methods := ms
  attributes := attrs
def plain (name : String) (sup : Option ClassId) : Class where
  name := name
  kind := .ordinary
  loader := none
  accessFlags := 33
  super := sup
  interfaces := #[]
  cf := none
  fields := #[]
  methods := #[]
  instanceTypes := #[]
  staticTypes := #[]
  resolved := #[]
  callSites := []
  init := .initialized
  statics := none
  mirror := none

def pool0 : Array CpInfo := pool [(5, u "<init>"), (0, u "()V"), (1, .class_ 10), (1, u "java/lang/Object")] 113

def k0m0 : Method := { name := "<init>", desc := "()V", sig := { parameters := [], returnType := none }, accessFlags := 1, code := none }
/-- java/lang/Object -/
def k0 : Class := { plain "java/lang/Object" none with
  accessFlags := 33
  interfaces := #[]
  cf := some (fileOf pool0 8 #[] #[{ accessFlags := 1, nameIndex := 5, descriptorIndex := 6, attributes := #[] }] 33 0 #[] #[])
  fields := #[]
  methods := #[k0m0]
  instanceTypes := #[]
  staticTypes := #[]
  resolved := Array.replicate 124 none
  statics := none }

def pool1 : Array CpInfo := pool [(2, .class_ 4), (1, u "java/lang/Object"), (0, u "<init>"), (0, u "()V"), (0, .methodref 8 9), (0, .class_ 10), (0, .nameAndType 11 12), (0, u "facedown/Combinations"), (0, u "upTo"), (0, u "(II)[J"), (0, .methodref 14 15), (0, .class_ 16), (0, .nameAndType 17 18), (0, u "facedown/CombinationsUpToPinLaw"), (0, u "ok"), (0, u "([JIIJ)Z"), (3, u "law"), (0, u "(II)Z")] 4

def k1m0 : Method := { name := "<init>", desc := "()V", sig := { parameters := [], returnType := none }, accessFlags := 2, code := none }
def k1c1 : Code := { maxStack := 4, maxLocals := 5, code := method_2_code, exceptionTable := #[], attributes := #[] }
def k1m1 : Method := { name := "ok", desc := "([JIIJ)Z", sig := { parameters := [(.array .long), .int, .int, .long], returnType := some .boolean }, accessFlags := 10, code := some k1c1 }
def k1c2 : Code := { maxStack := 5, maxLocals := 39, code := code, exceptionTable := #[], attributes := #[] }
def k1m2 : Method := { name := "law", desc := "(II)Z", sig := { parameters := [.int, .int], returnType := some .boolean }, accessFlags := 9, code := some k1c2 }
/-- facedown/CombinationsUpToPinLaw -/
def k1 : Class := { plain "facedown/CombinationsUpToPinLaw" (some 0) with
  accessFlags := 49
  interfaces := #[]
  cf := some (fileOf pool1 14 #[] #[{ accessFlags := 2, nameIndex := 5, descriptorIndex := 6, attributes := #[] }, { accessFlags := 10, nameIndex := 17, descriptorIndex := 18, attributes := #[] }, { accessFlags := 9, nameIndex := 22, descriptorIndex := 23, attributes := #[] }] 49 2 #[] #[])
  fields := #[]
  methods := #[k1m0, k1m1, k1m2]
  instanceTypes := #[]
  staticTypes := #[]
  resolved := Array.replicate 28 none
  statics := none }

def pool2 : Array CpInfo := pool [(2, .class_ 4), (1, u "java/lang/Object"), (0, u "<init>"), (0, u "()V"), (0, .methodref 8 9), (0, .class_ 10), (0, .nameAndType 11 12), (0, u "java/lang/Math"), (0, u "multiplyExact"), (0, u "(JI)J"), (0, .class_ 14), (0, u "facedown/Combinations"), (6, u "upTo"), (0, u "(II)[J")] 4

def k2m0 : Method := { name := "<init>", desc := "()V", sig := { parameters := [], returnType := none }, accessFlags := 2, code := none }
def k2c1 : Code := { maxStack := 5, maxLocals := 4, code := prog_5_method_4_code, exceptionTable := #[], attributes := #[] }
def k2m1 : Method := { name := "upTo", desc := "(II)[J", sig := { parameters := [.int, .int], returnType := some (.array .long) }, accessFlags := 8, code := some k2c1 }
/-- facedown/Combinations -/
def k2 : Class := { plain "facedown/Combinations" (some 0) with
  accessFlags := 48
  interfaces := #[]
  cf := some (fileOf pool2 13 #[] #[{ accessFlags := 2, nameIndex := 5, descriptorIndex := 6, attributes := #[] }, { accessFlags := 8, nameIndex := 21, descriptorIndex := 22, attributes := #[] }] 48 2 #[] #[])
  fields := #[]
  methods := #[k2m0, k2m1]
  instanceTypes := #[]
  staticTypes := #[]
  resolved := Array.replicate 27 none
  statics := none }

def pool3 : Array CpInfo := pool [(1, .class_ 2), (0, u "java/lang/Math"), (1, .class_ 6), (1, u "java/lang/Object"), (0, u "<init>"), (0, u "()V"), (89, .class_ 100), (1, u "java/lang/Math$RandomNumberGeneratorHolder"), (17, .methodref 1 119), (0, .nameAndType 120 121), (0, u "multiplyExact"), (0, u "(JJ)J"), (0, .methodref 1 123), (0, .nameAndType 124 125), (0, u "abs"), (0, u "(J)J"), (2, .long 9223372036854775808), (43, u "negativeZeroFloatBits"), (0, u "J"), (2, u "negativeZeroDoubleBits"), (68, u "$assertionsDisabled"), (0, u "Z"), (91, u "twoToTheDoubleScaleDown"), (0, u "D"), (4, u "twoToTheDoubleScaleUp"), (9, u "E"), (3, u "PI"), (2, u "TAU"), (2, u "DEGREES_TO_RADIANS"), (0, u "RADIANS_TO_DEGREES"), (29, u "(JI)J")] 64

def k3m0 : Method := { name := "<init>", desc := "()V", sig := { parameters := [], returnType := none }, accessFlags := 2, code := none }
def k3c1 : Code := { maxStack := 4, maxLocals := 3, code := jdk_29_method_29_code, exceptionTable := #[], attributes := #[] }
def k3m1 : Method := { name := "multiplyExact", desc := "(JI)J", sig := { parameters := [.long, .int], returnType := some .long }, accessFlags := 9, code := some k3c1 }
def k3c2 : Code := { maxStack := 4, maxLocals := 10, code := jdk_29_method_30_code, exceptionTable := #[], attributes := #[] }
def k3m2 : Method := { name := "multiplyExact", desc := "(JJ)J", sig := { parameters := [.long, .long], returnType := some .long }, accessFlags := 9, code := some k3c2 }
def k3c3 : Code := { maxStack := 4, maxLocals := 2, code := jdk_29_method_61_code, exceptionTable := #[], attributes := #[] }
def k3m3 : Method := { name := "abs", desc := "(J)J", sig := { parameters := [.long], returnType := some .long }, accessFlags := 9, code := some k3c3 }
/-- java/lang/Math -/
def k3 : Class := { plain "java/lang/Math" (some 0) with
  accessFlags := 49
  interfaces := #[]
  cf := some (fileOf pool3 1 #[.nestMembers #[98]] #[{ accessFlags := 2, nameIndex := 7, descriptorIndex := 8, attributes := #[] }, { accessFlags := 9, nameIndex := 120, descriptorIndex := 395, attributes := #[] }, { accessFlags := 9, nameIndex := 120, descriptorIndex := 121, attributes := #[] }, { accessFlags := 9, nameIndex := 124, descriptorIndex := 125, attributes := #[] }] 49 4 #[] #[{ accessFlags := 25, nameIndex := 354, descriptorIndex := 339, attributes := #[] }, { accessFlags := 25, nameIndex := 358, descriptorIndex := 339, attributes := #[] }, { accessFlags := 25, nameIndex := 361, descriptorIndex := 339, attributes := #[] }, { accessFlags := 26, nameIndex := 364, descriptorIndex := 339, attributes := #[] }, { accessFlags := 26, nameIndex := 365, descriptorIndex := 339, attributes := #[] }, { accessFlags := 26, nameIndex := 172, descriptorIndex := 173, attributes := #[] }, { accessFlags := 26, nameIndex := 176, descriptorIndex := 173, attributes := #[] }, { accessFlags := 8, nameIndex := 344, descriptorIndex := 339, attributes := #[] }, { accessFlags := 8, nameIndex := 338, descriptorIndex := 339, attributes := #[] }, { accessFlags := 4120, nameIndex := 245, descriptorIndex := 246, attributes := #[] }])
  fields := #[{ name := "E", type := .double, accessFlags := 25, slot := 0, constantValue := 0 }, { name := "PI", type := .double, accessFlags := 25, slot := 1, constantValue := 0 }, { name := "TAU", type := .double, accessFlags := 25, slot := 2, constantValue := 0 }, { name := "DEGREES_TO_RADIANS", type := .double, accessFlags := 26, slot := 3, constantValue := 0 }, { name := "RADIANS_TO_DEGREES", type := .double, accessFlags := 26, slot := 4, constantValue := 0 }, { name := "negativeZeroFloatBits", type := .long, accessFlags := 26, slot := 5, constantValue := 0 }, { name := "negativeZeroDoubleBits", type := .long, accessFlags := 26, slot := 6, constantValue := 0 }, { name := "twoToTheDoubleScaleUp", type := .double, accessFlags := 8, slot := 7, constantValue := 0 }, { name := "twoToTheDoubleScaleDown", type := .double, accessFlags := 8, slot := 8, constantValue := 0 }, { name := "$assertionsDisabled", type := .boolean, accessFlags := 4120, slot := 9, constantValue := 0 }]
  methods := #[k3m0, k3m1, k3m2, k3m3]
  instanceTypes := #[]
  staticTypes := #[.double, .double, .double, .double, .double, .long, .long, .double, .double, .boolean]
  resolved := Array.replicate 460 none
  statics := none }

def pool4 : Array CpInfo := pool [(1, u "java/lang/Cloneable"), (0, .class_ 1), (0, u "java/lang/Object"), (0, .class_ 3)] 3

/-- java/lang/Cloneable -/
def k4 : Class := { plain "java/lang/Cloneable" (some 0) with
  accessFlags := 1537
  interfaces := #[]
  cf := some (fileOf pool4 2 #[] #[] 1537 4 #[] #[])
  fields := #[]
  methods := #[]
  instanceTypes := #[]
  staticTypes := #[]
  resolved := Array.replicate 8 none
  statics := none }

def pool5 : Array CpInfo := pool [(1, u "java/io/Serializable"), (0, .class_ 1), (0, u "java/lang/Object"), (0, .class_ 3)] 3

/-- java/io/Serializable -/
def k5 : Class := { plain "java/io/Serializable" (some 0) with
  accessFlags := 1537
  interfaces := #[]
  cf := some (fileOf pool5 2 #[] #[] 1537 4 #[] #[])
  fields := #[]
  methods := #[]
  instanceTypes := #[]
  staticTypes := #[]
  resolved := Array.replicate 8 none
  statics := none }

/-- the primitive byte -/
def k6 : Class := { plain "byte" none with kind := .primitive 'B', accessFlags := 0x411 }
/-- [B -/
def k7 : Class := { plain "[B" (some 0) with kind := .array 6 .byte, interfaces := #[4, 5], accessFlags := 1041 }

/-- the primitive int -/
def k8 : Class := { plain "int" none with kind := .primitive 'I', accessFlags := 0x411 }
/-- [I -/
def k9 : Class := { plain "[I" (some 0) with kind := .array 8 .int, interfaces := #[4, 5], accessFlags := 1041 }

/-- the primitive long -/
def k10 : Class := { plain "long" none with kind := .primitive 'J', accessFlags := 0x411 }
/-- [J -/
def k11 : Class := { plain "[J" (some 0) with kind := .array 10 .long, interfaces := #[4, 5], accessFlags := 1041 }

def heap : Heap := #[]
def classes : Array Class := #[k0, k1, k2, k3, k4, k5, k6, k7, k8, k9, k10, k11]
def interned : List (Array UInt16 × Addr) := []
def slotsUsed : Nat := 0
def theMethod : MethodId := ⟨1, 2⟩
def args0 : Array Value := #[.int 3, .int 6]
def aboutOver (below : List Frame) : State where
  vm := { classes := classes, interned := interned.toArray }
  heap := heap
  slotsUsed := slotsUsed
  threads := #[{ frames := .invoking theMethod args0 :: below }]
def below0 : List Frame := [.native { method := ⟨0, 0⟩, args := #[] }]
def about1 : State := aboutOver below0
def p0 : Program := .bare "" "" ""
def e0 : Env := launch0.env 0 0 0
theorem w_frames : about1.frames = Frame.invoking theMethod args0 :: below0 := rfl
set_option maxRecDepth 65536 in
theorem w_args : argsFit about1.vm theMethod args0 = true := by decide +kernel
set_option maxRecDepth 65536 in
theorem w_heap : heapFits about1 = true := by decide +kernel
set_option maxRecDepth 65536 in
theorem w_runnable : about1.curStatus? = some .runnable := by decide +kernel
set_option maxRecDepth 65536 in
theorem w_alone : about1.alone = true := by decide +kernel
set_option maxRecDepth 65536 in
theorem w_named : about1.methodNamed? x = some theMethod := by decide +kernel
set_option maxRecDepth 65536 in
theorem w_hears : about1.hears theMethod below0 = true := by decide +kernel
set_option maxRecDepth 65536 in
theorem w_ripe : about1.ripe theMethod args0 below0 = true := by decide +kernel
theorem w_running : about1.status = .running := rfl
set_option maxRecDepth 65536 in
theorem w_room : about1.hasRoom e0.platform room_1 = true :=
  launch0.hasRoom_least _ room_1 (by decide +kernel) (by decide +kernel) (by decide +kernel) (by decide +kernel) (by decide +kernel) (by decide +kernel)
theorem allAtoms_all (ts : List Jvm.Cond) (a : Array Jvm.Value) (st : Jvm.State) : (allAtoms ts).before a st = ts.all (fun c => c.before a st) := by
  induction ts with
  | nil => rfl
  | cons c t ih =>
    show (Jvm.Cond.and c (allAtoms t)).before a st = _
    rw [Jvm.Cond.before_and, ih, List.all_cons]
def words1 : List Jvm.Cond := Jvm.Cond.code x code maxLocals ret :: tables_1
/-- a 'code' word, met by the world's own term for the bytes: nothing is compared byte by byte -/
theorem code_word {y : MethodName} {bytes : ByteArray} {mx : Nat} {rt : Option FieldType} {a : Array Value} {s : State} {m : MethodId} {meth : Method} {c : Code} (h1 : s.methodNamed? y = some m) (h2 : s.vm.method? m = some meth) (h3 : meth.code = some c) (h4 : c.code = bytes)
    (h5 : (c.maxLocals == mx && c.exceptionTable.isEmpty && decide (c.maxStack ≤ mostOperands) && decide (meth.sig.returnType = rt) && !meth.locks && decide (parseMethodDescriptor y.desc = some meth.sig)) = true) : (Jvm.Cond.code y bytes mx rt).before a s = true := by
  simp only [Bool.and_eq_true, beq_iff_eq, Bool.not_eq_true', decide_eq_true_eq] at h5
  obtain ⟨⟨⟨⟨⟨g1, g2⟩, g3⟩, g4⟩, g5⟩, g6⟩ := h5
  simp [Cond.before, Cond.holds, Cond.value, h1, h2, h3, h4, g1, g2, g3, g4, g5, g6]
def isCode : Jvm.Cond → Bool
  | .code _ _ _ _ => true
  | _ => false
theorem all_split {L : List Jvm.Cond} {P : Jvm.Cond → Bool} (h1 : L.all (fun c => isCode c || P c) = true) (h2 : ∀ c ∈ L.filter isCode, P c = true) : L.all P = true := by
  refine List.all_eq_true.mpr fun c hc => ?_
  have h := List.all_eq_true.mp h1 c hc
  rcases Bool.eq_false_or_eq_true (isCode c) with hi | hi
  · exact h2 c (List.mem_filter.mpr ⟨hc, hi⟩)
  · simpa [hi] using h
set_option maxRecDepth 65536 in
theorem w_c0 : (Jvm.Cond.code x code maxLocals ret).before args0 about1 = true := code_word (m := ⟨1, 2⟩) (meth := k1m2) (c := k1c2) (by decide +kernel) rfl rfl rfl (by decide +kernel)
set_option maxRecDepth 65536 in
theorem w_c1 : (Jvm.Cond.code ({ cls := "facedown/Combinations", name := "upTo", desc := "(II)[J" } : Jvm.MethodName) prog_5_method_4_code (4 : Nat) (Option.some (Jvm.ClassFile.FieldType.array Jvm.ClassFile.FieldType.long))).before args0 about1 = true := code_word (m := ⟨2, 1⟩) (meth := k2m1) (c := k2c1) (by decide +kernel) rfl rfl rfl (by decide +kernel)
set_option maxRecDepth 65536 in
theorem w_c2 : (Jvm.Cond.code ({ cls := "facedown/CombinationsUpToPinLaw", name := "ok", desc := "([JIIJ)Z" } : Jvm.MethodName) method_2_code (5 : Nat) (Option.some Jvm.ClassFile.FieldType.boolean)).before args0 about1 = true := code_word (m := ⟨1, 1⟩) (meth := k1m1) (c := k1c1) (by decide +kernel) rfl rfl rfl (by decide +kernel)
set_option maxRecDepth 65536 in
theorem w_c3 : (Jvm.Cond.code ({ cls := "java/lang/Math", name := "multiplyExact", desc := "(JI)J" } : Jvm.MethodName) jdk_29_method_29_code (3 : Nat) (Option.some Jvm.ClassFile.FieldType.long)).before args0 about1 = true := code_word (m := ⟨3, 1⟩) (meth := k3m1) (c := k3c1) (by decide +kernel) rfl rfl rfl (by decide +kernel)
set_option maxRecDepth 65536 in
theorem w_c4 : (Jvm.Cond.code ({ cls := "java/lang/Math", name := "multiplyExact", desc := "(JJ)J" } : Jvm.MethodName) jdk_29_method_30_code (10 : Nat) (Option.some Jvm.ClassFile.FieldType.long)).before args0 about1 = true := code_word (m := ⟨3, 2⟩) (meth := k3m2) (c := k3c2) (by decide +kernel) rfl rfl rfl (by decide +kernel)
set_option maxRecDepth 65536 in
theorem w_c5 : (Jvm.Cond.code ({ cls := "java/lang/Math", name := "abs", desc := "(J)J" } : Jvm.MethodName) jdk_29_method_61_code (2 : Nat) (Option.some Jvm.ClassFile.FieldType.long)).before args0 about1 = true := code_word (m := ⟨3, 3⟩) (meth := k3m3) (c := k3c3) (by decide +kernel) rfl rfl rfl (by decide +kernel)
def codes1 : List Jvm.Cond := [Jvm.Cond.code x code maxLocals ret, Jvm.Cond.code ({ cls := "facedown/Combinations", name := "upTo", desc := "(II)[J" } : Jvm.MethodName) prog_5_method_4_code (4 : Nat) (Option.some (Jvm.ClassFile.FieldType.array Jvm.ClassFile.FieldType.long)), Jvm.Cond.code ({ cls := "facedown/CombinationsUpToPinLaw", name := "ok", desc := "([JIIJ)Z" } : Jvm.MethodName) method_2_code (5 : Nat) (Option.some Jvm.ClassFile.FieldType.boolean), Jvm.Cond.code ({ cls := "java/lang/Math", name := "multiplyExact", desc := "(JI)J" } : Jvm.MethodName) jdk_29_method_29_code (3 : Nat) (Option.some Jvm.ClassFile.FieldType.long), Jvm.Cond.code ({ cls := "java/lang/Math", name := "multiplyExact", desc := "(JJ)J" } : Jvm.MethodName) jdk_29_method_30_code (10 : Nat) (Option.some Jvm.ClassFile.FieldType.long), Jvm.Cond.code ({ cls := "java/lang/Math", name := "abs", desc := "(J)J" } : Jvm.MethodName) jdk_29_method_61_code (2 : Nat) (Option.some Jvm.ClassFile.FieldType.long)]
set_option maxRecDepth 65536 in
theorem codes_eq : words1.filter isCode = codes1 := rfl
theorem w_codes : ∀ c ∈ words1.filter isCode, c.before args0 about1 = true := by
  rw [codes_eq]
  intro c hc
  simp only [codes1, List.mem_cons, List.not_mem_nil, or_false] at hc
  rcases hc with rfl | rfl | rfl | rfl | rfl | rfl
  · exact w_c0
  · exact w_c1
  · exact w_c2
  · exact w_c3
  · exact w_c4
  · exact w_c5
set_option maxRecDepth 65536 in
theorem w_t1 : words1.all (fun c => isCode c || c.before args0 about1) = true := by decide +kernel
theorem w_tables : (allAtoms (Jvm.Cond.code x code maxLocals ret :: tables_1)).before args0 about1 = true := by
  rw [allAtoms_all]
  show words1.all (fun c => c.before args0 about1) = true
  refine all_split ?_ w_codes
  rw [w_t1]
set_option maxRecDepth 65536 in
theorem w_case : (Jvm.Cond.and given_1 narrow_1).before args0 about1 = true := by decide +kernel
theorem w_applies : (headSpec (Jvm.Cond.code x code maxLocals ret :: tables_1) room_1).applies x e0.platform about1 = true :=
  (Spec.applies_iff w_frames).mpr ⟨w_running, w_runnable, w_alone, w_named, w_hears, w_ripe, w_room, w_tables⟩
theorem atStart : AtStart classFile x code maxLocals ret World_1 tables_1 room_1 Calls_1 rest_1 Pre_1 launch0 p0 e0 about1 theMethod args0 below0 :=
  ⟨lists_1, trivial, launch0.admits_env _ _ _, launch0.least_env, fairChoices_fair.cas, fairChoices_fair.clock, w_frames, w_args, w_heap, w_applies, trivial, trivial, w_case⟩
end start1
theorem witness_1 : WitnessClaimed_1 := ⟨start1.p0, start1.e0, start1.about1, start1.theMethod, start1.args0, start1.below0, start1.atStart⟩
end Jvm.Pilot.@@N@@
