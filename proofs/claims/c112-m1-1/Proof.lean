import JvmDerived
import JvmDerived.Pilot.@@N@@Statement
import JvmDerived.Pilot.@@N@@Code
set_option linter.unusedVariables false
set_option linter.unusedSimpArgs false
namespace Jvm.RoadKit
open Sem ClassFile Op Lib Jvm.Stand Jvm.Free Jvm.LawKit
section New
variable {p : Program} {l : Launch} {e : Env} {R : Room} {s : State} {m : MethodId} {args : Array Value} {below : List Frame} {meth : Method} {c : Code} {T : State} {locs : List Loc} {cells slots : Nat}
theorem retI (X : Stand p l e R s m args below meth c T locs cells slots) (hx : p.tables.exec = Jvm.exec) {pc : Nat} {Ls : Array Slot} {z : Int32} {rest : List Value} (hret : meth.sig.returnType = some .int) (hd : decode c.code pc = .ok (.ireturn, 1)) {fs : List Frame}
    (hl : ∀ (f : JFrame) (acts : List Action), f.method = m → f.locked = none → f.entered = [] → (doReturn e (T.setTop f) acts (some (.int z))).1 = T.setFrames fs) : Steps p.tables e below (T.setTop (mkF m pc Ls (.int z :: rest))) (T.setFrames fs) := by
  have hm' : T.vm.method? m = some meth := X.method'
  have hn : narrow .int (.int z) = .int z := rfl
  show Steps p.tables e below (T.setTop { method := m, pc := pc, locals := Ls, stack := _ :: rest, locked := none }) _
  jvm_step X.here [X.here.top, hx, hd, hm', hret, hn]
  first | (intro acts; rw [hl _ acts rfl rfl rfl]) | rw [hl _ _ rfl rfl rfl]
  exact Steps.refl _
theorem retJ (X : Stand p l e R s m args below meth c T locs cells slots) (hx : p.tables.exec = Jvm.exec) {pc : Nat} {Ls : Array Slot} {z : Int64} {rest : List Value} (hret : meth.sig.returnType = some .long) (hd : decode c.code pc = .ok (.lreturn, 1)) {fs : List Frame}
    (hl : ∀ (f : JFrame) (acts : List Action), f.method = m → f.locked = none → f.entered = [] → (doReturn e (T.setTop f) acts (some (.long z))).1 = T.setFrames fs) : Steps p.tables e below (T.setTop (mkF m pc Ls (.long z :: rest))) (T.setFrames fs) := by
  have hm' : T.vm.method? m = some meth := X.method'
  have hn : narrow .long (.long z) = .long z := rfl
  show Steps p.tables e below (T.setTop { method := m, pc := pc, locals := Ls, stack := _ :: rest, locked := none }) _
  jvm_step X.here [X.here.top, hx, hd, hm', hret, hn]
  first | (intro acts; rw [hl _ acts rfl rfl rfl]) | rw [hl _ _ rfl rfl rfl]
  exact Steps.refl _
end New
end Jvm.RoadKit
namespace Jvm.Pilot.@@N@@
open Jvm Jvm.ClassFile Sem Op Lib Jvm.Free Jvm.Stand Jvm.LawKit Jvm.RoadKit Bundle Jvm.Pilot.@@N@@.Jvm.D
def own_max (x y : Int32) : Int32 := if x < y then y else x
def own_min (x y : Int32) : Int32 := if y < x then y else x
def own_minL (x y : Int64) : Int64 := if y < x then y else x
def own_maxL (x y : Int64) : Int64 := if x < y then y else x
def own_ext (b r : Int32) : Int64 := (((b.toInt64) <<< ((32 : Int32) &&& 0x3f).toInt64) ||| (r.toInt64))
def own_key (q : Int32) : Int64 := (((q.toInt64) + (1 : Int64)) <<< ((32 : Int32) &&& 0x3f).toInt64)
theorem own_lt {x y : Int32} : x < y ↔ x.toInt < y.toInt := Int32.lt_iff_toInt_lt
theorem own_ltL {x y : Int64} : x < y ↔ x.toInt < y.toInt := Int64.lt_iff_toInt_lt
theorem own_i0 : (0 : Int32).toInt = 0 := by decide
theorem own_i1 : (1 : Int32).toInt = 1 := by decide
theorem own_l1 : (1 : Int64).toInt = 1 := by decide
theorem own_l0 : (0 : Int64).toInt = 0 := by decide
theorem own_lM : (2147483647 : Int64).toInt = 2147483647 := by decide
theorem own_lN : (2147483646 : Int64).toInt = 2147483646 := by decide
theorem own_iN : (2147483646 : Int32).toInt = 2147483646 := by decide
theorem own_minL_i (x y : Int64) : ((own_minL x y).toInt = x.toInt ∧ x.toInt ≤ y.toInt) ∨ ((own_minL x y).toInt = y.toInt ∧ y.toInt ≤ x.toInt) := by
  by_cases h : y < x
  · rw [own_minL, if_pos h]; rw [own_ltL] at h; omega
  · rw [own_minL, if_neg h]; rw [own_ltL] at h; omega
theorem own_maxL_i (x y : Int64) : ((own_maxL x y).toInt = x.toInt ∧ y.toInt ≤ x.toInt) ∨ ((own_maxL x y).toInt = y.toInt ∧ x.toInt ≤ y.toInt) := by
  by_cases h : x < y
  · rw [own_maxL, if_pos h]; rw [own_ltL] at h; omega
  · rw [own_maxL, if_neg h]; rw [own_ltL] at h; omega
theorem own_min_i (x y : Int32) : ((own_min x y).toInt = x.toInt ∧ x.toInt ≤ y.toInt) ∨ ((own_min x y).toInt = y.toInt ∧ y.toInt ≤ x.toInt) := by
  by_cases h : y < x
  · rw [own_min, if_pos h]; rw [own_lt] at h; omega
  · rw [own_min, if_neg h]; rw [own_lt] at h; omega
theorem own_max_i (x y : Int32) : ((own_max x y).toInt = x.toInt ∧ y.toInt ≤ x.toInt) ∨ ((own_max x y).toInt = y.toInt ∧ x.toInt ≤ y.toInt) := by
  by_cases h : x < y
  · rw [own_max, if_pos h]; rw [own_lt] at h; omega
  · rw [own_max, if_neg h]; rw [own_lt] at h; omega
theorem own_l2i {x : Int64} (h0 : -2147483648 ≤ x.toInt) (h1 : x.toInt ≤ 2147483647) : (x.toInt32).toInt = x.toInt := by
  have h := c_l2i x
  have r := rng32 x.toInt32
  omega
theorem own_nextI (b : Int32) (g : Int64) (h0 : 0 ≤ g.toInt) (h1 : g.toInt ≤ 4294967296) : b.toInt ≤ ((own_minL ((b.toInt64) + g) (2147483647 : Int64)).toInt32).toInt := by
  have h2 := c_ladd (b.toInt64) g
  have h3 := c_i2l b
  have r1 := rng32 b
  have r2 := rng64 ((b.toInt64) + g)
  have h4 := own_minL_i ((b.toInt64) + g) (2147483647 : Int64)
  have m := own_lM
  rw [own_l2i (by omega) (by omega)]
  omega
theorem own_rawI (x : Int32) : 0 ≤ (x &&& (2097151 : Int32)).toInt ∧ (x &&& (2097151 : Int32)).toInt < 2097152 := by
  have h := c_mask x 2097151 21 (by decide) (by decide)
  omega
theorem own_half (x : Int32) : 0 ≤ ((x.toUInt32 >>> ((1 : Int32) &&& 31).toUInt32).toInt32).toInt ∧ ((x.toUInt32 >>> ((1 : Int32) &&& 31).toUInt32).toInt32).toInt ≤ 2147483647 := by
  have h := c_iushr x 1 1 (by decide) (by decide)
  omega
theorem own_gap1 (x : Int32) : 0 ≤ ((x.toUInt32 >>> ((1 : Int32) &&& 31).toUInt32).toInt32.toInt64).toInt ∧ ((x.toUInt32 >>> ((1 : Int32) &&& 31).toUInt32).toInt32.toInt64).toInt ≤ 4294967296 := by
  have h := own_half x
  rw [c_i2l]
  omega
theorem own_gap0 (x : Int32) : 0 ≤ ((x &&& (3 : Int32)).toInt64).toInt ∧ ((x &&& (3 : Int32)).toInt64).toInt ≤ 4294967296 := by
  have h := c_mask x 3 2 (by decide) (by decide)
  rw [c_i2l]
  omega
theorem own_endI {b o : Int32} (hb : 0 ≤ b.toInt) (ho : 0 ≤ o.toInt) : 0 ≤ ((own_minL ((b.toInt64) + (o.toInt64)) (2147483647 : Int64)).toInt32).toInt := by
  have h := own_nextI b (o.toInt64) (by rw [c_i2l]; exact ho) (by rw [c_i2l]; have := rng32 o; omega)
  omega
theorem own_posI (x : Int64) : 0 ≤ ((own_maxL (0 : Int64) (own_minL x (2147483646 : Int64))).toInt32).toInt ∧ ((own_maxL (0 : Int64) (own_minL x (2147483646 : Int64))).toInt32).toInt ≤ 2147483646 := by
  have h1 := own_minL_i x (2147483646 : Int64)
  have h2 := own_maxL_i (0 : Int64) (own_minL x (2147483646 : Int64))
  have m := own_lN
  have z := own_l0
  rw [own_l2i (by omega) (by omega)]
  omega
theorem own_posM (x : Int32) : 0 ≤ (own_min ((x.toUInt32 >>> ((1 : Int32) &&& 31).toUInt32).toInt32) (2147483646 : Int32)).toInt ∧ (own_min ((x.toUInt32 >>> ((1 : Int32) &&& 31).toUInt32).toInt32) (2147483646 : Int32)).toInt ≤ 2147483646 := by
  have h := own_half x
  have h1 := own_min_i ((x.toUInt32 >>> ((1 : Int32) &&& 31).toUInt32).toInt32) (2147483646 : Int32)
  have m := own_iN
  omega
theorem own_b0 (x : Int32) : 1 ≤ (own_max (1 : Int32) (x &&& (2147483647 : Int32))).toInt := by
  have h := own_max_i (1 : Int32) (x &&& (2147483647 : Int32))
  have i := own_i1
  omega
theorem own_n (x : Int32) : ∃ N : Nat, N ≤ 4 ∧ ((x &&& (7 : Int32)) % (5 : Int32)).toInt = (N : Int) := by
  have h := c_mask x 7 3 (by decide) (by decide)
  have h2 := (c_irem (x &&& (7 : Int32)) 5 5 (by decide)).1 (by omega)
  exact ⟨(((x &&& (7 : Int32)) % (5 : Int32)).toInt).toNat, by omega, by omega⟩
theorem own_byte (x : Int32) : 0 ≤ (x &&& (255 : Int32)).toInt ∧ (x &&& (255 : Int32)).toInt ≤ 255 := by
  have h := c_mask x 255 8 (by decide) (by decide)
  omega
theorem own_sum (x y : Int32) (h0 : 0 ≤ x.toInt) (h1 : x.toInt ≤ 765) : 0 ≤ (x + (y &&& (255 : Int32))).toInt ∧ (x + (y &&& (255 : Int32))).toInt ≤ x.toInt + 255 := by
  have h := own_byte y
  have a := c_iadd x (y &&& (255 : Int32))
  have r := rng32 (x + (y &&& (255 : Int32)))
  omega
theorem own_shlI {x : Int64} (h0 : 0 ≤ x.toInt) (h1 : x.toInt ≤ 2147483647) : ((x <<< ((32 : Int32) &&& 0x3f).toInt64)).toInt = x.toInt * 4294967296 := by
  have h := c_lshl x (32 : Int32) 32 (by decide)
  have r := rng64 ((x <<< ((32 : Int32) &&& 0x3f).toInt64))
  have e : ((2 ^ 32 : Nat) : Int) = 4294967296 := by decide
  rw [e] at h
  omega
theorem own_extI {b r : Int32} (hb : 0 ≤ b.toInt) (hr : 0 ≤ r.toInt) : (own_ext b r).toInt = b.toInt * 4294967296 + r.toInt := by
  have rb := rng32 b
  have rr := rng32 r
  have h1 : (((b.toInt64) <<< ((32 : Int32) &&& 0x3f).toInt64)).toInt = b.toInt * 4294967296 := by
    rw [own_shlI (by rw [c_i2l]; exact hb) (by rw [c_i2l]; omega), c_i2l]
  have h2 := c_orL (((b.toInt64) <<< ((32 : Int32) &&& 0x3f).toInt64)) (r.toInt64) 32 (by decide) 4294967296 (by decide) (by rw [h1]; omega) (by rw [c_i2l]; exact hr) (by rw [c_i2l]; omega)
  rw [h1, c_i2l] at h2
  have r3 := rng64 (own_ext b r)
  have h3 : ((own_ext b r).toInt - (b.toInt * 4294967296 + r.toInt)) % 18446744073709551616 = 0 := h2
  omega
theorem own_keyI {q : Int32} (h0 : 0 ≤ q.toInt) (h1 : q.toInt ≤ 2147483646) : (own_key q).toInt = (q.toInt + 1) * 4294967296 := by
  have e : ((q.toInt64) + (1 : Int64)).toInt = q.toInt + 1 := by
    have h := c_ladd (q.toInt64) (1 : Int64)
    have r := rng64 ((q.toInt64) + (1 : Int64))
    have i := c_i2l q
    have l := own_l1
    omega
  rw [own_key, own_shlI (by omega) (by omega), e]
theorem own_cmp {b r q : Int32} (hb : 0 ≤ b.toInt) (hr : 0 ≤ r.toInt) (h0 : 0 ≤ q.toInt) (h1 : q.toInt ≤ 2147483646) : own_ext b r < own_key q ↔ ¬ q < b := by
  rw [own_ltL, own_extI hb hr, own_keyI h0 h1, own_lt]
  have := rng32 r
  omega
theorem own_nat {x : Int32} {k : Nat} (h : x.toInt = (k : Int)) : x.toNatClampNeg = k := by
  have := nat_of (j := x) (by rw [own_lt, own_i0]; omega)
  omega
theorem own_inb {cl : Cell} {N : Nat} {x : Int32} {k : Nat} (S : cl.slots.size = N) (h : x.toInt = (k : Int)) (hk : k < N) : ¬ (x < 0 ∨ cl.slots.size ≤ x.toNatClampNeg) := by
  rw [S, own_nat h, own_lt, own_i0]
  omega
theorem own_add1 (x : Int32) (h1 : -100 ≤ x.toInt) (h2 : x.toInt ≤ 100) : (x + (1 : Int32)).toInt = x.toInt + 1 := by
  have h := c_iadd x 1
  have r := rng32 (x + 1)
  have i1 := own_i1
  omega
theorem own_mid (x y : Int32) (lo hi : Nat) (hx : x.toInt = (lo : Int)) (hy : y.toInt = (hi : Int)) (hl : lo ≤ 100) (hh : hi ≤ 100) : ((((x + y).toUInt32 >>> ((1 : Int32) &&& 31).toUInt32).toInt32)).toInt = (((lo + hi) / 2 : Nat) : Int) := by
  have h := c_iadd x y
  have r := rng32 (x + y)
  have s := c_iushr (x + y) 1 1 (by decide) (by decide)
  omega
/-- an array by its values -/
def own_A (Z : State) (h : Heap) (a : Addr) (ty : FieldType) (N : Nat) (f : Nat → Value) : Prop := ∃ cl : Cell, Arr Z h a cl ty ∧ cl.slots.size = N ∧ ∀ j, j < N → cl.slots[j]? = some (f j)
theorem own_ofV {Z : State} {h : Heap} {a : Addr} {k : ClassId} {ty : FieldType} {z : Int32} {vs : List Value} {d : Value} (V : Arv Z h a k ty z vs d) : own_A Z h a ty z.toNatClampNeg (fun j => vs.getD j d) := by
  obtain ⟨cl, Ar, -, S, -, H, -⟩ := V
  exact ⟨cl, Ar, S, fun j hj => H j (by rw [S]; exact hj)⟩
theorem own_congr {Z : State} {h : Heap} {a : Addr} {ty : FieldType} {N : Nat} {f g : Nat → Value} (A : own_A Z h a ty N f) (q : ∀ j, j < N → f j = g j) : own_A Z h a ty N g := by
  obtain ⟨cl, Ar, S, H⟩ := A
  exact ⟨cl, Ar, S, fun j hj => by rw [← q j hj]; exact H j hj⟩
theorem own_set {Z : State} {h h' : Heap} {a : Addr} {ty : FieldType} {N : Nat} {f : Nat → Value} {k k' : Nat} {v : Value} (A : own_A Z h a ty N f) (W : Wr h h' a k' v) (hk : k' = k) : own_A Z h' a ty N (fun j => if j = k then v else f j) := by
  subst hk
  obtain ⟨cl, Ar, S, H⟩ := A
  refine ⟨cl.setSlot k' v, Ar.same W, by rw [sz_set]; exact S, fun j hj => ?_⟩
  by_cases u : k' = j
  · subst u
    simp [Cell.setSlot, S, hj]
  · have u' : ¬ j = k' := fun e => u e.symm
    have := H j hj
    simp only [Cell.setSlot, if_neg u']
    rw [Array.getElem?_setIfInBounds_ne u]
    exact this
theorem own_other {Z : State} {h h' : Heap} {a b : Addr} {ty : FieldType} {N : Nat} {f : Nat → Value} {sl : Nat} {v : Value} (A : own_A Z h b ty N f) (W : Wr h h' a sl v) (q : b ≠ a) : own_A Z h' b ty N f := by
  obtain ⟨cl, Ar, r⟩ := A
  exact ⟨cl, Ar.other W q, r⟩
theorem own_Aext {Z : State} {h h' : Heap} {b : Addr} {ty : FieldType} {N : Nat} {f : Nat → Value} (A : own_A Z h b ty N f) (E : Ext h h') : own_A Z h' b ty N f := by
  obtain ⟨cl, Ar, r⟩ := A
  exact ⟨cl, Ar.ext E, r⟩
theorem own_Alt {Z : State} {h : Heap} {b : Addr} {ty : FieldType} {N : Nat} {f : Nat → Value} (A : own_A Z h b ty N f) : b < h.size := by
  obtain ⟨cl, Ar, r⟩ := A
  exact Ar.lt
/-- an Occurrences: its fields, its two arrays, all of it new -/
def own_O (Z : State) (h : Heap) (n0 : Nat) (b ea ua : Addr) (sz : Int32) (E : Nat → Int64) (U : Nat → Int32) : Prop :=
  Exa Z h b "com/example/umbel/umbel/query/Occurrences" ∧ Fld Z h b "com/example/umbel/umbel/query/Occurrences" "extents" "[J" (.ref ea) ∧ Fld Z h b "com/example/umbel/umbel/query/Occurrences" "used" "[Z" (.ref ua) ∧ Fld Z h b "com/example/umbel/umbel/query/Occurrences" "size" "I" (.int sz) ∧ own_A Z h ea .long 8 (fun j => .long (E j)) ∧ own_A Z h ua .boolean 8 (fun j => .int (U j)) ∧ (b ≠ ea ∧ b ≠ ua ∧ ea ≠ ua) ∧ (n0 ≤ b ∧ n0 ≤ ea ∧ n0 ≤ ua) ∧ n0 ≤ h.size
def own_res (k N : Nat) (P : Nat → Prop) (r : Int32) : Prop := (r = (-1 : Int32) ∧ ∀ j, k ≤ j → j < N → ¬ P j) ∨ ∃ j, k ≤ j ∧ j < N ∧ r.toInt = (j : Int) ∧ P j ∧ ∀ i, k ≤ i → i < j → ¬ P i
theorem own_uniq {k N : Nat} {P : Nat → Prop} {r r' : Int32} (h : own_res k N P r) (h' : own_res k N P r') : r = r' := by
  rcases h with ⟨rfl, a⟩ | ⟨j, j1, j2, j3, j4, j5⟩
  · rcases h' with ⟨rfl, a'⟩ | ⟨j', j1', j2', j3', j4', j5'⟩
    · rfl
    · exact absurd j4' (a j' j1' j2')
  · rcases h' with ⟨rfl, a'⟩ | ⟨j', j1', j2', j3', j4', j5'⟩
    · exact absurd j4 (a' j j1 j2)
    · have e : j = j' := by
        rcases Nat.lt_trichotomy j j' with q | q | q
        · exact absurd j4 (j5' j j1 q)
        · exact q
        · exact absurd j4' (j5 j' j1' q)
      subst e
      exact Int32.toInt_inj.mp (j3.trans j3'.symm)
theorem own_rescongr {k N : Nat} {P Q : Nat → Prop} {r : Int32} (h : own_res k N P r) (q : ∀ j, j < N → (P j ↔ Q j)) : own_res k N Q r := by
  rcases h with ⟨e, a⟩ | ⟨j, j1, j2, j3, j4, j5⟩
  · exact Or.inl ⟨e, fun j h1 h2 h3 => a j h1 h2 ((q j h2).mpr h3)⟩
  · exact Or.inr ⟨j, j1, j2, j3, (q j j2).mp j4, fun i h1 h2 h3 => j5 i h1 h2 ((q i (by omega)).mpr h3)⟩
theorem own_resyes {k N : Nat} {P : Nat → Prop} {x : Int32} (hx : x.toInt = (k : Int)) (hk : k < N) (hP : P k) : own_res k N P x :=
  Or.inr ⟨k, Nat.le_refl _, hk, hx, hP, fun i h1 h2 => absurd h2 (by omega)⟩
theorem own_resno {k N : Nat} {P : Nat → Prop} {r : Int32} (h : own_res (k + 1) N P r) (hP : ¬ (k < N ∧ P k)) : own_res k N P r := by
  rcases h with ⟨e, a⟩ | ⟨j, j1, j2, j3, j4, j5⟩
  · refine Or.inl ⟨e, fun j h1 h2 h3 => ?_⟩
    by_cases q : j = k
    · subst q; exact hP ⟨h2, h3⟩
    · exact a j (by omega) h2 h3
  · refine Or.inr ⟨j, by omega, j2, j3, j4, fun i h1 h2 h3 => ?_⟩
    by_cases q : i = k
    · subst q; exact hP ⟨by omega, h3⟩
    · exact j5 i (by omega) h2 h3
theorem own_min4 {x : Int} {N : Nat} (h : x = ((min N (3 + 1) : Nat) : Int)) (hN : N ≤ 4) : x = (N : Int) := by
  rw [h]
  omega
def own_sel (a b c d : Int32) : Nat → Int32
  | 0 => a
  | 1 => b
  | 2 => c
  | _ => d
def own_Two (s s' : Slot) : Prop := (s = .unset ∧ s' = .unset) ∨ ∃ q : Int64, s = .val (.long q) ∧ s' = .second
theorem d1_0 : decode jdk_29_method_65_code 0 = .ok (.iload_n 0, 1) := by decide +kernel
theorem d1_1 : decode jdk_29_method_65_code 1 = .ok (.iload_n 1, 1) := by decide +kernel
theorem d1_2 : decode jdk_29_method_65_code 2 = .ok (.if_icmp .lt 7, 3) := by decide +kernel
theorem d1_9 : decode jdk_29_method_65_code 9 = .ok (.iload_n 1, 1) := by decide +kernel
theorem d1_10 : decode jdk_29_method_65_code 10 = .ok (.ireturn, 1) := by decide +kernel
theorem ef_1 (m : MethodId) (x0 : Int32) (x1 : Int32) : entryFrame m #[(.int x0), (.int x1)] 2 = mkF m 0 #[.val (.int x0), .val (.int x1)] [] := by first | (simp [entryFrame, mkF, argsToLocals, Value.category]; done) | rfl
def Q1 (Z : State) (p1 : Int32) (p2 : Int32) (h0 : Heap) (n0 : Nat) (v : Option Value) (h : Heap) (L : List Loc) : Prop := v = some (.int (own_max p1 p2)) ∧ Fr n0 L ∧ h = h0
set_option maxRecDepth 65536 in
set_option maxHeartbeats 40000000 in
theorem rm1_t (l : Launch) (Z : State) (a0 : Array Value) (hw : ∀ d ∈ tables_1, d.before a0 Z = true) (ws : List Jvm.Cond) (p1 : Int32) (p2 : Int32) (h0 : Heap) (n0 : Nat) (Z0 : n0 ≤ h0.size) (hc2 : p1 < p2) :
    MetFree l (⟨"java/lang/Math", "max", "(II)I"⟩ : MethodName) (head1 (Jvm.Cond.code (⟨"java/lang/Math", "max", "(II)I"⟩ : MethodName) jdk_29_method_65_code 2 (some .int) :: ws) ({ frames := 0, cells := 0, slots := 0, locals := 0 } : Room)) (fun a U => a = #[(.int p1), (.int p2)] ∧ Z.Warmed39 U.vm ∧ U.heap = h0) (fun _ _ _ _ _ => True) (fun _ U o U' => ∃ v L, o = .returned v ∧ Q1 Z p1 p2 h0 n0 v U'.heap L ∧ FrameEnd U o U' L ({ frames := 0, cells := 0, slots := 0, locals := 0 } : Room).cells ({ frames := 0, cells := 0, slots := 0, locals := 0 } : Room).slots) := by
  refine MetFree.of_bodySF (Jvm.Free.JP.mathPlain rfl (by decide +kernel)) hisR ?_
  intro p e s m args below meth c s₁ Bd hml0 hP hK
  obtain ⟨rfl, hZ, hh⟩ := hP
  have hx := Bd.exec
  have hby := Bd.bytes
  have hml : c.maxLocals = 2 := hml0
  have hown : s.vm.findClass "java/lang/Math" = some m.cls := findClass_of_methodNamed Bd.named
  have hnm := (name_of_methodNamed Bd.named Bd.method).1
  have X0 : Stand p l e ({ frames := 0, cells := 0, slots := 0, locals := 0 } : Room) s m #[(.int p1), (.int p2)] below meth c s₁ [] 0 0 := Stand.of_body Bd
  have e0 : s₁.heap = h0 := by rw [← hh, Bd.state]; rfl
  have N0 := Fr.nil n0
  have pre0 : ∀ t, Steps p.tables e below (s₁.setTop (mkF m 0 #[.val (.int p1), .val (.int p2)] [])) t → Steps p.tables e below (s₁.setTop (entryFrame m #[(.int p1), (.int p2)] 2)) t := fun t k => castTop (ef_1 m p1 p2) k
  obtain ⟨fs, hr, hrun, hended, hW, hsame⟩ := X0.leave (v := some (.int p2)) (fun h => by rw [Bd.returns] at h; cases h)
  refine ⟨_, _, pre0 _ ?_, hrun, hended, _, _, rfl, ?_, ⟨_, rfl⟩, hW, hsame.mono (by decide) (by decide)⟩
  · show Steps p.tables e below (s₁.setTop (mkF m 0 #[.val (.int p1), .val (.int p2)] [])) _
    refine XS.iloadN X0.here hx rfl (hb hby d1_0) rfl ?_
    show Steps p.tables e below (s₁.setTop (mkF m 1 #[.val (.int p1), .val (.int p2)] [(.int p1)])) _
    refine XS.iloadN X0.here hx rfl (hb hby d1_1) rfl ?_
    show Steps p.tables e below (s₁.setTop (mkF m 2 #[.val (.int p1), .val (.int p2)] [(.int p2), (.int p1)])) _
    refine XS.icmpYes X0.here hx rfl (pc0 := 2) (pc' := 9) rfl (hb hby d1_2) rfl (tlt hc2).1 (by decide) (by decide) ?_
    show Steps p.tables e below (s₁.setTop (mkF m 9 #[.val (.int p1), .val (.int p2)] [])) _
    refine XS.iloadN X0.here hx rfl (hb hby d1_9) rfl ?_
    show Steps p.tables e below (s₁.setTop (mkF m 10 #[.val (.int p1), .val (.int p2)] [(.int p2)])) _
    exact retI X0 hx Bd.returns (hb hby d1_10) hr
  · show Q1 Z p1 p2 h0 n0 _ s₁.heap _
    rw [e0]
    exact ⟨by rw [own_max, if_pos hc2], N0, rfl⟩
theorem d1_5 : decode jdk_29_method_65_code 5 = .ok (.iload_n 0, 1) := by decide +kernel
theorem d1_6 : decode jdk_29_method_65_code 6 = .ok (.goto 4, 3) := by decide +kernel
set_option maxRecDepth 65536 in
set_option maxHeartbeats 40000000 in
theorem rm1_f (l : Launch) (Z : State) (a0 : Array Value) (hw : ∀ d ∈ tables_1, d.before a0 Z = true) (ws : List Jvm.Cond) (p1 : Int32) (p2 : Int32) (h0 : Heap) (n0 : Nat) (Z0 : n0 ≤ h0.size) (hc2 : ¬ (p1 < p2)) :
    MetFree l (⟨"java/lang/Math", "max", "(II)I"⟩ : MethodName) (head1 (Jvm.Cond.code (⟨"java/lang/Math", "max", "(II)I"⟩ : MethodName) jdk_29_method_65_code 2 (some .int) :: ws) ({ frames := 0, cells := 0, slots := 0, locals := 0 } : Room)) (fun a U => a = #[(.int p1), (.int p2)] ∧ Z.Warmed39 U.vm ∧ U.heap = h0) (fun _ _ _ _ _ => True) (fun _ U o U' => ∃ v L, o = .returned v ∧ Q1 Z p1 p2 h0 n0 v U'.heap L ∧ FrameEnd U o U' L ({ frames := 0, cells := 0, slots := 0, locals := 0 } : Room).cells ({ frames := 0, cells := 0, slots := 0, locals := 0 } : Room).slots) := by
  refine MetFree.of_bodySF (Jvm.Free.JP.mathPlain rfl (by decide +kernel)) hisR ?_
  intro p e s m args below meth c s₁ Bd hml0 hP hK
  obtain ⟨rfl, hZ, hh⟩ := hP
  have hx := Bd.exec
  have hby := Bd.bytes
  have hml : c.maxLocals = 2 := hml0
  have hown : s.vm.findClass "java/lang/Math" = some m.cls := findClass_of_methodNamed Bd.named
  have hnm := (name_of_methodNamed Bd.named Bd.method).1
  have X0 : Stand p l e ({ frames := 0, cells := 0, slots := 0, locals := 0 } : Room) s m #[(.int p1), (.int p2)] below meth c s₁ [] 0 0 := Stand.of_body Bd
  have e0 : s₁.heap = h0 := by rw [← hh, Bd.state]; rfl
  have N0 := Fr.nil n0
  have pre0 : ∀ t, Steps p.tables e below (s₁.setTop (mkF m 0 #[.val (.int p1), .val (.int p2)] [])) t → Steps p.tables e below (s₁.setTop (entryFrame m #[(.int p1), (.int p2)] 2)) t := fun t k => castTop (ef_1 m p1 p2) k
  obtain ⟨fs, hr, hrun, hended, hW, hsame⟩ := X0.leave (v := some (.int p1)) (fun h => by rw [Bd.returns] at h; cases h)
  refine ⟨_, _, pre0 _ ?_, hrun, hended, _, _, rfl, ?_, ⟨_, rfl⟩, hW, hsame.mono (by decide) (by decide)⟩
  · show Steps p.tables e below (s₁.setTop (mkF m 0 #[.val (.int p1), .val (.int p2)] [])) _
    refine XS.iloadN X0.here hx rfl (hb hby d1_0) rfl ?_
    show Steps p.tables e below (s₁.setTop (mkF m 1 #[.val (.int p1), .val (.int p2)] [(.int p1)])) _
    refine XS.iloadN X0.here hx rfl (hb hby d1_1) rfl ?_
    show Steps p.tables e below (s₁.setTop (mkF m 2 #[.val (.int p1), .val (.int p2)] [(.int p2), (.int p1)])) _
    refine XS.icmpNo X0.here hx rfl (hb hby d1_2) rfl (flt hc2).1 ?_
    show Steps p.tables e below (s₁.setTop (mkF m 5 #[.val (.int p1), .val (.int p2)] [])) _
    refine XS.iloadN X0.here hx rfl (hb hby d1_5) rfl ?_
    show Steps p.tables e below (s₁.setTop (mkF m 6 #[.val (.int p1), .val (.int p2)] [(.int p1)])) _
    refine XS.goto X0.here hx rfl (pc0 := 6) (pc' := 10) rfl (hb hby d1_6) (by decide) (by decide) ?_
    show Steps p.tables e below (s₁.setTop (mkF m 10 #[.val (.int p1), .val (.int p2)] [(.int p1)])) _
    exact retI X0 hx Bd.returns (hb hby d1_10) hr
  · show Q1 Z p1 p2 h0 n0 _ s₁.heap _
    rw [e0]
    exact ⟨by rw [own_max, if_neg hc2], N0, rfl⟩
set_option maxRecDepth 65536 in
set_option maxHeartbeats 40000000 in
theorem rm1 (l : Launch) (Z : State) (a0 : Array Value) (hw : ∀ d ∈ tables_1, d.before a0 Z = true) (ws : List Jvm.Cond) (p1 : Int32) (p2 : Int32) (h0 : Heap) (n0 : Nat) (Z0 : n0 ≤ h0.size) :
    MetFree l (⟨"java/lang/Math", "max", "(II)I"⟩ : MethodName) (head1 (Jvm.Cond.code (⟨"java/lang/Math", "max", "(II)I"⟩ : MethodName) jdk_29_method_65_code 2 (some .int) :: ws) ({ frames := 0, cells := 0, slots := 0, locals := 0 } : Room)) (fun a U => a = #[(.int p1), (.int p2)] ∧ Z.Warmed39 U.vm ∧ U.heap = h0) (fun _ _ _ _ _ => True) (fun _ U o U' => ∃ v L, o = .returned v ∧ Q1 Z p1 p2 h0 n0 v U'.heap L ∧ FrameEnd U o U' L ({ frames := 0, cells := 0, slots := 0, locals := 0 } : Room).cells ({ frames := 0, cells := 0, slots := 0, locals := 0 } : Room).slots) := by
  by_cases c1 : p1 < p2
  · exact rm1_t l Z a0 hw ws p1 p2 h0 n0 Z0 c1
  · exact rm1_f l Z a0 hw ws p1 p2 h0 n0 Z0 c1
theorem d4_0 : decode jdk_29_method_69_code 0 = .ok (.iload_n 0, 1) := by decide +kernel
theorem d4_1 : decode jdk_29_method_69_code 1 = .ok (.iload_n 1, 1) := by decide +kernel
theorem d4_2 : decode jdk_29_method_69_code 2 = .ok (.if_icmp .gt 7, 3) := by decide +kernel
theorem d4_9 : decode jdk_29_method_69_code 9 = .ok (.iload_n 1, 1) := by decide +kernel
theorem d4_10 : decode jdk_29_method_69_code 10 = .ok (.ireturn, 1) := by decide +kernel
theorem ef_4 (m : MethodId) (x0 : Int32) (x1 : Int32) : entryFrame m #[(.int x0), (.int x1)] 2 = mkF m 0 #[.val (.int x0), .val (.int x1)] [] := by first | (simp [entryFrame, mkF, argsToLocals, Value.category]; done) | rfl
def Q4 (Z : State) (p1 : Int32) (p2 : Int32) (h0 : Heap) (n0 : Nat) (v : Option Value) (h : Heap) (L : List Loc) : Prop := v = some (.int (own_min p1 p2)) ∧ Fr n0 L ∧ h = h0
set_option maxRecDepth 65536 in
set_option maxHeartbeats 40000000 in
theorem rm4_t (l : Launch) (Z : State) (a0 : Array Value) (hw : ∀ d ∈ tables_1, d.before a0 Z = true) (ws : List Jvm.Cond) (p1 : Int32) (p2 : Int32) (h0 : Heap) (n0 : Nat) (Z0 : n0 ≤ h0.size) (hc2 : p2 < p1) :
    MetFree l (⟨"java/lang/Math", "min", "(II)I"⟩ : MethodName) (head1 (Jvm.Cond.code (⟨"java/lang/Math", "min", "(II)I"⟩ : MethodName) jdk_29_method_69_code 2 (some .int) :: ws) ({ frames := 0, cells := 0, slots := 0, locals := 0 } : Room)) (fun a U => a = #[(.int p1), (.int p2)] ∧ Z.Warmed39 U.vm ∧ U.heap = h0) (fun _ _ _ _ _ => True) (fun _ U o U' => ∃ v L, o = .returned v ∧ Q4 Z p1 p2 h0 n0 v U'.heap L ∧ FrameEnd U o U' L ({ frames := 0, cells := 0, slots := 0, locals := 0 } : Room).cells ({ frames := 0, cells := 0, slots := 0, locals := 0 } : Room).slots) := by
  refine MetFree.of_bodySF (Jvm.Free.JP.mathPlain rfl (by decide +kernel)) hisR ?_
  intro p e s m args below meth c s₁ Bd hml0 hP hK
  obtain ⟨rfl, hZ, hh⟩ := hP
  have hx := Bd.exec
  have hby := Bd.bytes
  have hml : c.maxLocals = 2 := hml0
  have hown : s.vm.findClass "java/lang/Math" = some m.cls := findClass_of_methodNamed Bd.named
  have hnm := (name_of_methodNamed Bd.named Bd.method).1
  have X0 : Stand p l e ({ frames := 0, cells := 0, slots := 0, locals := 0 } : Room) s m #[(.int p1), (.int p2)] below meth c s₁ [] 0 0 := Stand.of_body Bd
  have e0 : s₁.heap = h0 := by rw [← hh, Bd.state]; rfl
  have N0 := Fr.nil n0
  have pre0 : ∀ t, Steps p.tables e below (s₁.setTop (mkF m 0 #[.val (.int p1), .val (.int p2)] [])) t → Steps p.tables e below (s₁.setTop (entryFrame m #[(.int p1), (.int p2)] 2)) t := fun t k => castTop (ef_4 m p1 p2) k
  obtain ⟨fs, hr, hrun, hended, hW, hsame⟩ := X0.leave (v := some (.int p2)) (fun h => by rw [Bd.returns] at h; cases h)
  refine ⟨_, _, pre0 _ ?_, hrun, hended, _, _, rfl, ?_, ⟨_, rfl⟩, hW, hsame.mono (by decide) (by decide)⟩
  · show Steps p.tables e below (s₁.setTop (mkF m 0 #[.val (.int p1), .val (.int p2)] [])) _
    refine XS.iloadN X0.here hx rfl (hb hby d4_0) rfl ?_
    show Steps p.tables e below (s₁.setTop (mkF m 1 #[.val (.int p1), .val (.int p2)] [(.int p1)])) _
    refine XS.iloadN X0.here hx rfl (hb hby d4_1) rfl ?_
    show Steps p.tables e below (s₁.setTop (mkF m 2 #[.val (.int p1), .val (.int p2)] [(.int p2), (.int p1)])) _
    refine XS.icmpYes X0.here hx rfl (pc0 := 2) (pc' := 9) rfl (hb hby d4_2) rfl (tlt hc2).2.2.1 (by decide) (by decide) ?_
    show Steps p.tables e below (s₁.setTop (mkF m 9 #[.val (.int p1), .val (.int p2)] [])) _
    refine XS.iloadN X0.here hx rfl (hb hby d4_9) rfl ?_
    show Steps p.tables e below (s₁.setTop (mkF m 10 #[.val (.int p1), .val (.int p2)] [(.int p2)])) _
    exact retI X0 hx Bd.returns (hb hby d4_10) hr
  · show Q4 Z p1 p2 h0 n0 _ s₁.heap _
    rw [e0]
    exact ⟨by rw [own_min, if_pos hc2], N0, rfl⟩
theorem d4_5 : decode jdk_29_method_69_code 5 = .ok (.iload_n 0, 1) := by decide +kernel
theorem d4_6 : decode jdk_29_method_69_code 6 = .ok (.goto 4, 3) := by decide +kernel
set_option maxRecDepth 65536 in
set_option maxHeartbeats 40000000 in
theorem rm4_f (l : Launch) (Z : State) (a0 : Array Value) (hw : ∀ d ∈ tables_1, d.before a0 Z = true) (ws : List Jvm.Cond) (p1 : Int32) (p2 : Int32) (h0 : Heap) (n0 : Nat) (Z0 : n0 ≤ h0.size) (hc2 : ¬ (p2 < p1)) :
    MetFree l (⟨"java/lang/Math", "min", "(II)I"⟩ : MethodName) (head1 (Jvm.Cond.code (⟨"java/lang/Math", "min", "(II)I"⟩ : MethodName) jdk_29_method_69_code 2 (some .int) :: ws) ({ frames := 0, cells := 0, slots := 0, locals := 0 } : Room)) (fun a U => a = #[(.int p1), (.int p2)] ∧ Z.Warmed39 U.vm ∧ U.heap = h0) (fun _ _ _ _ _ => True) (fun _ U o U' => ∃ v L, o = .returned v ∧ Q4 Z p1 p2 h0 n0 v U'.heap L ∧ FrameEnd U o U' L ({ frames := 0, cells := 0, slots := 0, locals := 0 } : Room).cells ({ frames := 0, cells := 0, slots := 0, locals := 0 } : Room).slots) := by
  refine MetFree.of_bodySF (Jvm.Free.JP.mathPlain rfl (by decide +kernel)) hisR ?_
  intro p e s m args below meth c s₁ Bd hml0 hP hK
  obtain ⟨rfl, hZ, hh⟩ := hP
  have hx := Bd.exec
  have hby := Bd.bytes
  have hml : c.maxLocals = 2 := hml0
  have hown : s.vm.findClass "java/lang/Math" = some m.cls := findClass_of_methodNamed Bd.named
  have hnm := (name_of_methodNamed Bd.named Bd.method).1
  have X0 : Stand p l e ({ frames := 0, cells := 0, slots := 0, locals := 0 } : Room) s m #[(.int p1), (.int p2)] below meth c s₁ [] 0 0 := Stand.of_body Bd
  have e0 : s₁.heap = h0 := by rw [← hh, Bd.state]; rfl
  have N0 := Fr.nil n0
  have pre0 : ∀ t, Steps p.tables e below (s₁.setTop (mkF m 0 #[.val (.int p1), .val (.int p2)] [])) t → Steps p.tables e below (s₁.setTop (entryFrame m #[(.int p1), (.int p2)] 2)) t := fun t k => castTop (ef_4 m p1 p2) k
  obtain ⟨fs, hr, hrun, hended, hW, hsame⟩ := X0.leave (v := some (.int p1)) (fun h => by rw [Bd.returns] at h; cases h)
  refine ⟨_, _, pre0 _ ?_, hrun, hended, _, _, rfl, ?_, ⟨_, rfl⟩, hW, hsame.mono (by decide) (by decide)⟩
  · show Steps p.tables e below (s₁.setTop (mkF m 0 #[.val (.int p1), .val (.int p2)] [])) _
    refine XS.iloadN X0.here hx rfl (hb hby d4_0) rfl ?_
    show Steps p.tables e below (s₁.setTop (mkF m 1 #[.val (.int p1), .val (.int p2)] [(.int p1)])) _
    refine XS.iloadN X0.here hx rfl (hb hby d4_1) rfl ?_
    show Steps p.tables e below (s₁.setTop (mkF m 2 #[.val (.int p1), .val (.int p2)] [(.int p2), (.int p1)])) _
    refine XS.icmpNo X0.here hx rfl (hb hby d4_2) rfl (flt hc2).2.2.1 ?_
    show Steps p.tables e below (s₁.setTop (mkF m 5 #[.val (.int p1), .val (.int p2)] [])) _
    refine XS.iloadN X0.here hx rfl (hb hby d4_5) rfl ?_
    show Steps p.tables e below (s₁.setTop (mkF m 6 #[.val (.int p1), .val (.int p2)] [(.int p1)])) _
    refine XS.goto X0.here hx rfl (pc0 := 6) (pc' := 10) rfl (hb hby d4_6) (by decide) (by decide) ?_
    show Steps p.tables e below (s₁.setTop (mkF m 10 #[.val (.int p1), .val (.int p2)] [(.int p1)])) _
    exact retI X0 hx Bd.returns (hb hby d4_10) hr
  · show Q4 Z p1 p2 h0 n0 _ s₁.heap _
    rw [e0]
    exact ⟨by rw [own_min, if_neg hc2], N0, rfl⟩
set_option maxRecDepth 65536 in
set_option maxHeartbeats 40000000 in
theorem rm4 (l : Launch) (Z : State) (a0 : Array Value) (hw : ∀ d ∈ tables_1, d.before a0 Z = true) (ws : List Jvm.Cond) (p1 : Int32) (p2 : Int32) (h0 : Heap) (n0 : Nat) (Z0 : n0 ≤ h0.size) :
    MetFree l (⟨"java/lang/Math", "min", "(II)I"⟩ : MethodName) (head1 (Jvm.Cond.code (⟨"java/lang/Math", "min", "(II)I"⟩ : MethodName) jdk_29_method_69_code 2 (some .int) :: ws) ({ frames := 0, cells := 0, slots := 0, locals := 0 } : Room)) (fun a U => a = #[(.int p1), (.int p2)] ∧ Z.Warmed39 U.vm ∧ U.heap = h0) (fun _ _ _ _ _ => True) (fun _ U o U' => ∃ v L, o = .returned v ∧ Q4 Z p1 p2 h0 n0 v U'.heap L ∧ FrameEnd U o U' L ({ frames := 0, cells := 0, slots := 0, locals := 0 } : Room).cells ({ frames := 0, cells := 0, slots := 0, locals := 0 } : Room).slots) := by
  by_cases c1 : p2 < p1
  · exact rm4_t l Z a0 hw ws p1 p2 h0 n0 Z0 c1
  · exact rm4_f l Z a0 hw ws p1 p2 h0 n0 Z0 c1
theorem d3_0 : decode jdk_29_method_70_code 0 = .ok (.lload_n 0, 1) := by decide +kernel
theorem d3_1 : decode jdk_29_method_70_code 1 = .ok (.lload_n 2, 1) := by decide +kernel
theorem d3_2 : decode jdk_29_method_70_code 2 = .ok (.lcmp, 1) := by decide +kernel
theorem d3_3 : decode jdk_29_method_70_code 3 = .ok (.ifCond .gt 7, 3) := by decide +kernel
theorem d3_10 : decode jdk_29_method_70_code 10 = .ok (.lload_n 2, 1) := by decide +kernel
theorem d3_11 : decode jdk_29_method_70_code 11 = .ok (.lreturn, 1) := by decide +kernel
theorem ef_3 (m : MethodId) (x0 : Int64) (x1 : Int64) : entryFrame m #[(.long x0), (.long x1)] 4 = mkF m 0 #[.val (.long x0), .second, .val (.long x1), .second] [] := by first | (simp [entryFrame, mkF, argsToLocals, Value.category]; done) | rfl
def Q3 (Z : State) (q1 : Int64) (q2 : Int64) (h0 : Heap) (n0 : Nat) (v : Option Value) (h : Heap) (L : List Loc) : Prop := v = some (.long (own_minL q1 q2)) ∧ Fr n0 L ∧ h = h0
set_option maxRecDepth 65536 in
set_option maxHeartbeats 40000000 in
theorem rm3_t (l : Launch) (Z : State) (a0 : Array Value) (hw : ∀ d ∈ tables_1, d.before a0 Z = true) (ws : List Jvm.Cond) (q1 : Int64) (q2 : Int64) (h0 : Heap) (n0 : Nat) (Z0 : n0 ≤ h0.size) (hc3 : (0 : Int32) < (lcmpW q1 q2)) :
    MetFree l (⟨"java/lang/Math", "min", "(JJ)J"⟩ : MethodName) (head1 (Jvm.Cond.code (⟨"java/lang/Math", "min", "(JJ)J"⟩ : MethodName) jdk_29_method_70_code 4 (some .long) :: ws) ({ frames := 0, cells := 0, slots := 0, locals := 0 } : Room)) (fun a U => a = #[(.long q1), (.long q2)] ∧ Z.Warmed39 U.vm ∧ U.heap = h0) (fun _ _ _ _ _ => True) (fun _ U o U' => ∃ v L, o = .returned v ∧ Q3 Z q1 q2 h0 n0 v U'.heap L ∧ FrameEnd U o U' L ({ frames := 0, cells := 0, slots := 0, locals := 0 } : Room).cells ({ frames := 0, cells := 0, slots := 0, locals := 0 } : Room).slots) := by
  refine MetFree.of_bodySF (Jvm.Free.JP.mathPlain rfl (by decide +kernel)) hisR ?_
  intro p e s m args below meth c s₁ Bd hml0 hP hK
  obtain ⟨rfl, hZ, hh⟩ := hP
  have hx := Bd.exec
  have hby := Bd.bytes
  have hml : c.maxLocals = 4 := hml0
  have hown : s.vm.findClass "java/lang/Math" = some m.cls := findClass_of_methodNamed Bd.named
  have hnm := (name_of_methodNamed Bd.named Bd.method).1
  have X0 : Stand p l e ({ frames := 0, cells := 0, slots := 0, locals := 0 } : Room) s m #[(.long q1), (.long q2)] below meth c s₁ [] 0 0 := Stand.of_body Bd
  have e0 : s₁.heap = h0 := by rw [← hh, Bd.state]; rfl
  have N0 := Fr.nil n0
  have pre0 : ∀ t, Steps p.tables e below (s₁.setTop (mkF m 0 #[.val (.long q1), .second, .val (.long q2), .second] [])) t → Steps p.tables e below (s₁.setTop (entryFrame m #[(.long q1), (.long q2)] 4)) t := fun t k => castTop (ef_3 m q1 q2) k
  obtain ⟨fs, hr, hrun, hended, hW, hsame⟩ := X0.leave (v := some (.long q2)) (fun h => by rw [Bd.returns] at h; cases h)
  refine ⟨_, _, pre0 _ ?_, hrun, hended, _, _, rfl, ?_, ⟨_, rfl⟩, hW, hsame.mono (by decide) (by decide)⟩
  · show Steps p.tables e below (s₁.setTop (mkF m 0 #[.val (.long q1), .second, .val (.long q2), .second] [])) _
    refine XS.lloadN X0.here hx rfl (hb hby d3_0) rfl ?_
    show Steps p.tables e below (s₁.setTop (mkF m 1 #[.val (.long q1), .second, .val (.long q2), .second] [(.long q1)])) _
    refine XS.lloadN X0.here hx rfl (hb hby d3_1) rfl ?_
    show Steps p.tables e below (s₁.setTop (mkF m 2 #[.val (.long q1), .second, .val (.long q2), .second] [(.long q2), (.long q1)])) _
    refine XS.lcmp X0.here hx rfl (hb hby d3_2) rfl ?_
    show Steps p.tables e below (s₁.setTop (mkF m 3 #[.val (.long q1), .second, .val (.long q2), .second] [(.int (lcmpW q1 q2))])) _
    refine XS.ifYes X0.here hx rfl (pc0 := 3) (pc' := 10) rfl (hb hby d3_3) rfl ((if0 _ _).trans (tlt hc3).2.2.1) (by decide) (by decide) ?_
    show Steps p.tables e below (s₁.setTop (mkF m 10 #[.val (.long q1), .second, .val (.long q2), .second] [])) _
    refine XS.lloadN X0.here hx rfl (hb hby d3_10) rfl ?_
    show Steps p.tables e below (s₁.setTop (mkF m 11 #[.val (.long q1), .second, .val (.long q2), .second] [(.long q2)])) _
    exact retJ X0 hx Bd.returns (hb hby d3_11) hr
  · show Q3 Z q1 q2 h0 n0 _ s₁.heap _
    rw [e0]
    exact ⟨by rw [own_minL, if_pos ((lw_gt _ _).mp hc3)], N0, rfl⟩
theorem d3_6 : decode jdk_29_method_70_code 6 = .ok (.lload_n 0, 1) := by decide +kernel
theorem d3_7 : decode jdk_29_method_70_code 7 = .ok (.goto 4, 3) := by decide +kernel
set_option maxRecDepth 65536 in
set_option maxHeartbeats 40000000 in
theorem rm3_f (l : Launch) (Z : State) (a0 : Array Value) (hw : ∀ d ∈ tables_1, d.before a0 Z = true) (ws : List Jvm.Cond) (q1 : Int64) (q2 : Int64) (h0 : Heap) (n0 : Nat) (Z0 : n0 ≤ h0.size) (hc3 : ¬ ((0 : Int32) < (lcmpW q1 q2))) :
    MetFree l (⟨"java/lang/Math", "min", "(JJ)J"⟩ : MethodName) (head1 (Jvm.Cond.code (⟨"java/lang/Math", "min", "(JJ)J"⟩ : MethodName) jdk_29_method_70_code 4 (some .long) :: ws) ({ frames := 0, cells := 0, slots := 0, locals := 0 } : Room)) (fun a U => a = #[(.long q1), (.long q2)] ∧ Z.Warmed39 U.vm ∧ U.heap = h0) (fun _ _ _ _ _ => True) (fun _ U o U' => ∃ v L, o = .returned v ∧ Q3 Z q1 q2 h0 n0 v U'.heap L ∧ FrameEnd U o U' L ({ frames := 0, cells := 0, slots := 0, locals := 0 } : Room).cells ({ frames := 0, cells := 0, slots := 0, locals := 0 } : Room).slots) := by
  refine MetFree.of_bodySF (Jvm.Free.JP.mathPlain rfl (by decide +kernel)) hisR ?_
  intro p e s m args below meth c s₁ Bd hml0 hP hK
  obtain ⟨rfl, hZ, hh⟩ := hP
  have hx := Bd.exec
  have hby := Bd.bytes
  have hml : c.maxLocals = 4 := hml0
  have hown : s.vm.findClass "java/lang/Math" = some m.cls := findClass_of_methodNamed Bd.named
  have hnm := (name_of_methodNamed Bd.named Bd.method).1
  have X0 : Stand p l e ({ frames := 0, cells := 0, slots := 0, locals := 0 } : Room) s m #[(.long q1), (.long q2)] below meth c s₁ [] 0 0 := Stand.of_body Bd
  have e0 : s₁.heap = h0 := by rw [← hh, Bd.state]; rfl
  have N0 := Fr.nil n0
  have pre0 : ∀ t, Steps p.tables e below (s₁.setTop (mkF m 0 #[.val (.long q1), .second, .val (.long q2), .second] [])) t → Steps p.tables e below (s₁.setTop (entryFrame m #[(.long q1), (.long q2)] 4)) t := fun t k => castTop (ef_3 m q1 q2) k
  obtain ⟨fs, hr, hrun, hended, hW, hsame⟩ := X0.leave (v := some (.long q1)) (fun h => by rw [Bd.returns] at h; cases h)
  refine ⟨_, _, pre0 _ ?_, hrun, hended, _, _, rfl, ?_, ⟨_, rfl⟩, hW, hsame.mono (by decide) (by decide)⟩
  · show Steps p.tables e below (s₁.setTop (mkF m 0 #[.val (.long q1), .second, .val (.long q2), .second] [])) _
    refine XS.lloadN X0.here hx rfl (hb hby d3_0) rfl ?_
    show Steps p.tables e below (s₁.setTop (mkF m 1 #[.val (.long q1), .second, .val (.long q2), .second] [(.long q1)])) _
    refine XS.lloadN X0.here hx rfl (hb hby d3_1) rfl ?_
    show Steps p.tables e below (s₁.setTop (mkF m 2 #[.val (.long q1), .second, .val (.long q2), .second] [(.long q2), (.long q1)])) _
    refine XS.lcmp X0.here hx rfl (hb hby d3_2) rfl ?_
    show Steps p.tables e below (s₁.setTop (mkF m 3 #[.val (.long q1), .second, .val (.long q2), .second] [(.int (lcmpW q1 q2))])) _
    refine XS.ifNo X0.here hx rfl (hb hby d3_3) rfl ((if0 _ _).trans (flt hc3).2.2.1) ?_
    show Steps p.tables e below (s₁.setTop (mkF m 6 #[.val (.long q1), .second, .val (.long q2), .second] [])) _
    refine XS.lloadN X0.here hx rfl (hb hby d3_6) rfl ?_
    show Steps p.tables e below (s₁.setTop (mkF m 7 #[.val (.long q1), .second, .val (.long q2), .second] [(.long q1)])) _
    refine XS.goto X0.here hx rfl (pc0 := 7) (pc' := 11) rfl (hb hby d3_7) (by decide) (by decide) ?_
    show Steps p.tables e below (s₁.setTop (mkF m 11 #[.val (.long q1), .second, .val (.long q2), .second] [(.long q1)])) _
    exact retJ X0 hx Bd.returns (hb hby d3_11) hr
  · show Q3 Z q1 q2 h0 n0 _ s₁.heap _
    rw [e0]
    exact ⟨by rw [own_minL, if_neg (fun h => hc3 ((lw_gt _ _).mpr h))], N0, rfl⟩
set_option maxRecDepth 65536 in
set_option maxHeartbeats 40000000 in
theorem rm3 (l : Launch) (Z : State) (a0 : Array Value) (hw : ∀ d ∈ tables_1, d.before a0 Z = true) (ws : List Jvm.Cond) (q1 : Int64) (q2 : Int64) (h0 : Heap) (n0 : Nat) (Z0 : n0 ≤ h0.size) :
    MetFree l (⟨"java/lang/Math", "min", "(JJ)J"⟩ : MethodName) (head1 (Jvm.Cond.code (⟨"java/lang/Math", "min", "(JJ)J"⟩ : MethodName) jdk_29_method_70_code 4 (some .long) :: ws) ({ frames := 0, cells := 0, slots := 0, locals := 0 } : Room)) (fun a U => a = #[(.long q1), (.long q2)] ∧ Z.Warmed39 U.vm ∧ U.heap = h0) (fun _ _ _ _ _ => True) (fun _ U o U' => ∃ v L, o = .returned v ∧ Q3 Z q1 q2 h0 n0 v U'.heap L ∧ FrameEnd U o U' L ({ frames := 0, cells := 0, slots := 0, locals := 0 } : Room).cells ({ frames := 0, cells := 0, slots := 0, locals := 0 } : Room).slots) := by
  by_cases c1 : (0 : Int32) < (lcmpW q1 q2)
  · exact rm3_t l Z a0 hw ws q1 q2 h0 n0 Z0 c1
  · exact rm3_f l Z a0 hw ws q1 q2 h0 n0 Z0 c1
theorem d11_0 : decode jdk_29_method_66_code 0 = .ok (.lload_n 0, 1) := by decide +kernel
theorem d11_1 : decode jdk_29_method_66_code 1 = .ok (.lload_n 2, 1) := by decide +kernel
theorem d11_2 : decode jdk_29_method_66_code 2 = .ok (.lcmp, 1) := by decide +kernel
theorem d11_3 : decode jdk_29_method_66_code 3 = .ok (.ifCond .lt 7, 3) := by decide +kernel
theorem d11_10 : decode jdk_29_method_66_code 10 = .ok (.lload_n 2, 1) := by decide +kernel
theorem d11_11 : decode jdk_29_method_66_code 11 = .ok (.lreturn, 1) := by decide +kernel
theorem ef_11 (m : MethodId) (x0 : Int64) (x1 : Int64) : entryFrame m #[(.long x0), (.long x1)] 4 = mkF m 0 #[.val (.long x0), .second, .val (.long x1), .second] [] := by first | (simp [entryFrame, mkF, argsToLocals, Value.category]; done) | rfl
def Q11 (Z : State) (q1 : Int64) (q2 : Int64) (h0 : Heap) (n0 : Nat) (v : Option Value) (h : Heap) (L : List Loc) : Prop := v = some (.long (own_maxL q1 q2)) ∧ Fr n0 L ∧ h = h0
set_option maxRecDepth 65536 in
set_option maxHeartbeats 40000000 in
theorem rm11_t (l : Launch) (Z : State) (a0 : Array Value) (hw : ∀ d ∈ tables_1, d.before a0 Z = true) (ws : List Jvm.Cond) (q1 : Int64) (q2 : Int64) (h0 : Heap) (n0 : Nat) (Z0 : n0 ≤ h0.size) (hc3 : (lcmpW q1 q2) < (0 : Int32)) :
    MetFree l (⟨"java/lang/Math", "max", "(JJ)J"⟩ : MethodName) (head1 (Jvm.Cond.code (⟨"java/lang/Math", "max", "(JJ)J"⟩ : MethodName) jdk_29_method_66_code 4 (some .long) :: ws) ({ frames := 0, cells := 0, slots := 0, locals := 0 } : Room)) (fun a U => a = #[(.long q1), (.long q2)] ∧ Z.Warmed39 U.vm ∧ U.heap = h0) (fun _ _ _ _ _ => True) (fun _ U o U' => ∃ v L, o = .returned v ∧ Q11 Z q1 q2 h0 n0 v U'.heap L ∧ FrameEnd U o U' L ({ frames := 0, cells := 0, slots := 0, locals := 0 } : Room).cells ({ frames := 0, cells := 0, slots := 0, locals := 0 } : Room).slots) := by
  refine MetFree.of_bodySF (Jvm.Free.JP.mathPlain rfl (by decide +kernel)) hisR ?_
  intro p e s m args below meth c s₁ Bd hml0 hP hK
  obtain ⟨rfl, hZ, hh⟩ := hP
  have hx := Bd.exec
  have hby := Bd.bytes
  have hml : c.maxLocals = 4 := hml0
  have hown : s.vm.findClass "java/lang/Math" = some m.cls := findClass_of_methodNamed Bd.named
  have hnm := (name_of_methodNamed Bd.named Bd.method).1
  have X0 : Stand p l e ({ frames := 0, cells := 0, slots := 0, locals := 0 } : Room) s m #[(.long q1), (.long q2)] below meth c s₁ [] 0 0 := Stand.of_body Bd
  have e0 : s₁.heap = h0 := by rw [← hh, Bd.state]; rfl
  have N0 := Fr.nil n0
  have pre0 : ∀ t, Steps p.tables e below (s₁.setTop (mkF m 0 #[.val (.long q1), .second, .val (.long q2), .second] [])) t → Steps p.tables e below (s₁.setTop (entryFrame m #[(.long q1), (.long q2)] 4)) t := fun t k => castTop (ef_11 m q1 q2) k
  obtain ⟨fs, hr, hrun, hended, hW, hsame⟩ := X0.leave (v := some (.long q2)) (fun h => by rw [Bd.returns] at h; cases h)
  refine ⟨_, _, pre0 _ ?_, hrun, hended, _, _, rfl, ?_, ⟨_, rfl⟩, hW, hsame.mono (by decide) (by decide)⟩
  · show Steps p.tables e below (s₁.setTop (mkF m 0 #[.val (.long q1), .second, .val (.long q2), .second] [])) _
    refine XS.lloadN X0.here hx rfl (hb hby d11_0) rfl ?_
    show Steps p.tables e below (s₁.setTop (mkF m 1 #[.val (.long q1), .second, .val (.long q2), .second] [(.long q1)])) _
    refine XS.lloadN X0.here hx rfl (hb hby d11_1) rfl ?_
    show Steps p.tables e below (s₁.setTop (mkF m 2 #[.val (.long q1), .second, .val (.long q2), .second] [(.long q2), (.long q1)])) _
    refine XS.lcmp X0.here hx rfl (hb hby d11_2) rfl ?_
    show Steps p.tables e below (s₁.setTop (mkF m 3 #[.val (.long q1), .second, .val (.long q2), .second] [(.int (lcmpW q1 q2))])) _
    refine XS.ifYes X0.here hx rfl (pc0 := 3) (pc' := 10) rfl (hb hby d11_3) rfl ((if0 _ _).trans (tlt hc3).1) (by decide) (by decide) ?_
    show Steps p.tables e below (s₁.setTop (mkF m 10 #[.val (.long q1), .second, .val (.long q2), .second] [])) _
    refine XS.lloadN X0.here hx rfl (hb hby d11_10) rfl ?_
    show Steps p.tables e below (s₁.setTop (mkF m 11 #[.val (.long q1), .second, .val (.long q2), .second] [(.long q2)])) _
    exact retJ X0 hx Bd.returns (hb hby d11_11) hr
  · show Q11 Z q1 q2 h0 n0 _ s₁.heap _
    rw [e0]
    exact ⟨by rw [own_maxL, if_pos ((lw_lt _ _).mp hc3)], N0, rfl⟩
theorem d11_6 : decode jdk_29_method_66_code 6 = .ok (.lload_n 0, 1) := by decide +kernel
theorem d11_7 : decode jdk_29_method_66_code 7 = .ok (.goto 4, 3) := by decide +kernel
set_option maxRecDepth 65536 in
set_option maxHeartbeats 40000000 in
theorem rm11_f (l : Launch) (Z : State) (a0 : Array Value) (hw : ∀ d ∈ tables_1, d.before a0 Z = true) (ws : List Jvm.Cond) (q1 : Int64) (q2 : Int64) (h0 : Heap) (n0 : Nat) (Z0 : n0 ≤ h0.size) (hc3 : ¬ ((lcmpW q1 q2) < (0 : Int32))) :
    MetFree l (⟨"java/lang/Math", "max", "(JJ)J"⟩ : MethodName) (head1 (Jvm.Cond.code (⟨"java/lang/Math", "max", "(JJ)J"⟩ : MethodName) jdk_29_method_66_code 4 (some .long) :: ws) ({ frames := 0, cells := 0, slots := 0, locals := 0 } : Room)) (fun a U => a = #[(.long q1), (.long q2)] ∧ Z.Warmed39 U.vm ∧ U.heap = h0) (fun _ _ _ _ _ => True) (fun _ U o U' => ∃ v L, o = .returned v ∧ Q11 Z q1 q2 h0 n0 v U'.heap L ∧ FrameEnd U o U' L ({ frames := 0, cells := 0, slots := 0, locals := 0 } : Room).cells ({ frames := 0, cells := 0, slots := 0, locals := 0 } : Room).slots) := by
  refine MetFree.of_bodySF (Jvm.Free.JP.mathPlain rfl (by decide +kernel)) hisR ?_
  intro p e s m args below meth c s₁ Bd hml0 hP hK
  obtain ⟨rfl, hZ, hh⟩ := hP
  have hx := Bd.exec
  have hby := Bd.bytes
  have hml : c.maxLocals = 4 := hml0
  have hown : s.vm.findClass "java/lang/Math" = some m.cls := findClass_of_methodNamed Bd.named
  have hnm := (name_of_methodNamed Bd.named Bd.method).1
  have X0 : Stand p l e ({ frames := 0, cells := 0, slots := 0, locals := 0 } : Room) s m #[(.long q1), (.long q2)] below meth c s₁ [] 0 0 := Stand.of_body Bd
  have e0 : s₁.heap = h0 := by rw [← hh, Bd.state]; rfl
  have N0 := Fr.nil n0
  have pre0 : ∀ t, Steps p.tables e below (s₁.setTop (mkF m 0 #[.val (.long q1), .second, .val (.long q2), .second] [])) t → Steps p.tables e below (s₁.setTop (entryFrame m #[(.long q1), (.long q2)] 4)) t := fun t k => castTop (ef_11 m q1 q2) k
  obtain ⟨fs, hr, hrun, hended, hW, hsame⟩ := X0.leave (v := some (.long q1)) (fun h => by rw [Bd.returns] at h; cases h)
  refine ⟨_, _, pre0 _ ?_, hrun, hended, _, _, rfl, ?_, ⟨_, rfl⟩, hW, hsame.mono (by decide) (by decide)⟩
  · show Steps p.tables e below (s₁.setTop (mkF m 0 #[.val (.long q1), .second, .val (.long q2), .second] [])) _
    refine XS.lloadN X0.here hx rfl (hb hby d11_0) rfl ?_
    show Steps p.tables e below (s₁.setTop (mkF m 1 #[.val (.long q1), .second, .val (.long q2), .second] [(.long q1)])) _
    refine XS.lloadN X0.here hx rfl (hb hby d11_1) rfl ?_
    show Steps p.tables e below (s₁.setTop (mkF m 2 #[.val (.long q1), .second, .val (.long q2), .second] [(.long q2), (.long q1)])) _
    refine XS.lcmp X0.here hx rfl (hb hby d11_2) rfl ?_
    show Steps p.tables e below (s₁.setTop (mkF m 3 #[.val (.long q1), .second, .val (.long q2), .second] [(.int (lcmpW q1 q2))])) _
    refine XS.ifNo X0.here hx rfl (hb hby d11_3) rfl ((if0 _ _).trans (flt hc3).1) ?_
    show Steps p.tables e below (s₁.setTop (mkF m 6 #[.val (.long q1), .second, .val (.long q2), .second] [])) _
    refine XS.lloadN X0.here hx rfl (hb hby d11_6) rfl ?_
    show Steps p.tables e below (s₁.setTop (mkF m 7 #[.val (.long q1), .second, .val (.long q2), .second] [(.long q1)])) _
    refine XS.goto X0.here hx rfl (pc0 := 7) (pc' := 11) rfl (hb hby d11_7) (by decide) (by decide) ?_
    show Steps p.tables e below (s₁.setTop (mkF m 11 #[.val (.long q1), .second, .val (.long q2), .second] [(.long q1)])) _
    exact retJ X0 hx Bd.returns (hb hby d11_11) hr
  · show Q11 Z q1 q2 h0 n0 _ s₁.heap _
    rw [e0]
    exact ⟨by rw [own_maxL, if_neg (fun h => hc3 ((lw_lt _ _).mpr h))], N0, rfl⟩
set_option maxRecDepth 65536 in
set_option maxHeartbeats 40000000 in
theorem rm11 (l : Launch) (Z : State) (a0 : Array Value) (hw : ∀ d ∈ tables_1, d.before a0 Z = true) (ws : List Jvm.Cond) (q1 : Int64) (q2 : Int64) (h0 : Heap) (n0 : Nat) (Z0 : n0 ≤ h0.size) :
    MetFree l (⟨"java/lang/Math", "max", "(JJ)J"⟩ : MethodName) (head1 (Jvm.Cond.code (⟨"java/lang/Math", "max", "(JJ)J"⟩ : MethodName) jdk_29_method_66_code 4 (some .long) :: ws) ({ frames := 0, cells := 0, slots := 0, locals := 0 } : Room)) (fun a U => a = #[(.long q1), (.long q2)] ∧ Z.Warmed39 U.vm ∧ U.heap = h0) (fun _ _ _ _ _ => True) (fun _ U o U' => ∃ v L, o = .returned v ∧ Q11 Z q1 q2 h0 n0 v U'.heap L ∧ FrameEnd U o U' L ({ frames := 0, cells := 0, slots := 0, locals := 0 } : Room).cells ({ frames := 0, cells := 0, slots := 0, locals := 0 } : Room).slots) := by
  by_cases c1 : (lcmpW q1 q2) < (0 : Int32)
  · exact rm11_t l Z a0 hw ws q1 q2 h0 n0 Z0 c1
  · exact rm11_f l Z a0 hw ws q1 q2 h0 n0 Z0 c1
theorem d2_0 : decode method_3_code 0 = .ok (.lload_n 1, 1) := by decide +kernel
theorem d2_1 : decode method_3_code 1 = .ok (.bipush 21, 2) := by decide +kernel
theorem d2_3 : decode method_3_code 3 = .ok (.iload_n 3, 1) := by decide +kernel
theorem d2_4 : decode method_3_code 4 = .ok (.imul, 1) := by decide +kernel
theorem d2_5 : decode method_3_code 5 = .ok (.lushr, 1) := by decide +kernel
theorem d2_6 : decode method_3_code 6 = .ok (.l2i, 1) := by decide +kernel
theorem d2_7 : decode method_3_code 7 = .ok (.ldc 51, 2) := by decide +kernel
theorem d2_9 : decode method_3_code 9 = .ok (.iand, 1) := by decide +kernel
theorem d2_10 : decode method_3_code 10 = .ok (.istore 4, 2) := by decide +kernel
theorem d2_12 : decode method_3_code 12 = .ok (.iload 4, 2) := by decide +kernel
theorem d2_14 : decode method_3_code 14 = .ok (.iconst 1, 1) := by decide +kernel
theorem d2_15 : decode method_3_code 15 = .ok (.iand, 1) := by decide +kernel
theorem d2_16 : decode method_3_code 16 = .ok (.ifCond .ne 13, 3) := by decide +kernel
theorem d2_19 : decode method_3_code 19 = .ok (.iload 4, 2) := by decide +kernel
theorem d2_21 : decode method_3_code 21 = .ok (.iconst 1, 1) := by decide +kernel
theorem d2_22 : decode method_3_code 22 = .ok (.iushr, 1) := by decide +kernel
theorem d2_23 : decode method_3_code 23 = .ok (.iconst 3, 1) := by decide +kernel
theorem d2_24 : decode method_3_code 24 = .ok (.iand, 1) := by decide +kernel
theorem d2_25 : decode method_3_code 25 = .ok (.i2l, 1) := by decide +kernel
theorem d2_26 : decode method_3_code 26 = .ok (.goto 8, 3) := by decide +kernel
theorem d2_34 : decode method_3_code 34 = .ok (.lstore 5, 2) := by decide +kernel
theorem d2_36 : decode method_3_code 36 = .ok (.iload_n 0, 1) := by decide +kernel
theorem d2_37 : decode method_3_code 37 = .ok (.i2l, 1) := by decide +kernel
theorem d2_38 : decode method_3_code 38 = .ok (.lload 5, 2) := by decide +kernel
theorem d2_40 : decode method_3_code 40 = .ok (.ladd, 1) := by decide +kernel
theorem d2_41 : decode method_3_code 41 = .ok (.ldc2_w 52, 3) := by decide +kernel
theorem d2_44 : decode method_3_code 44 = .ok (.invokestatic 28, 3) := by decide +kernel
theorem d2_47 : decode method_3_code 47 = .ok (.l2i, 1) := by decide +kernel
theorem d2_48 : decode method_3_code 48 = .ok (.ireturn, 1) := by decide +kernel
theorem pn_2 : plainName "com/example/umbel/umbel/query/OccurrencesFirstUnusedAfterPinLaw" = true := by first | (simp [plainName, overriddenIn]; done) | decide +kernel
theorem pd_2_2 : parseMethodDescriptor "(JJ)J" = some ⟨[.long, .long], some .long⟩ := by decide +kernel
theorem ef_2 (m : MethodId) (x0 : Int32) (x1 : Int64) (x2 : Int32) : entryFrame m #[(.int x0), (.long x1), (.int x2)] 7 = mkF m 0 #[.val (.int x0), .val (.long x1), .second, .val (.int x2), .unset, .unset, .unset] [] := by first | (simp [entryFrame, mkF, argsToLocals, Value.category]; done) | rfl
def Q2 (Z : State) (p1 : Int32) (q2 : Int64) (p3 : Int32) (h0 : Heap) (n0 : Nat) (v : Option Value) (h : Heap) (L : List Loc) : Prop := ∃ r : Int32, v = some (.int r) ∧ p1.toInt ≤ r.toInt ∧ Fr n0 L ∧ h = h0
set_option maxRecDepth 65536 in
set_option maxHeartbeats 40000000 in
theorem rm2_f (l : Launch) (Z : State) (a0 : Array Value) (hw : ∀ d ∈ tables_1, d.before a0 Z = true) (ws : List Jvm.Cond) (p1 : Int32) (q2 : Int64) (p3 : Int32) (h0 : Heap) (n0 : Nat) (Z0 : n0 ≤ h0.size) (hc16 : (((((q2.toUInt64 >>> (((21 : Int32) * p3) &&& 0x3f).toInt64.toUInt64).toInt64).toInt32) &&& (2097151 : Int32)) &&& (1 : Int32)) = (0 : Int32)) :
    MetFree l (⟨"com/example/umbel/umbel/query/OccurrencesFirstUnusedAfterPinLaw", "next", "(IJI)I"⟩ : MethodName) (head1 (Jvm.Cond.code (⟨"com/example/umbel/umbel/query/OccurrencesFirstUnusedAfterPinLaw", "next", "(IJI)I"⟩ : MethodName) method_3_code 7 (some .int) :: ws) ({ frames := 1, cells := 0, slots := 0, locals := 15 } : Room)) (fun a U => a = #[(.int p1), (.long q2), (.int p3)] ∧ Z.Warmed39 U.vm ∧ U.heap = h0) (fun _ _ _ _ _ => True) (fun _ U o U' => ∃ v L, o = .returned v ∧ Q2 Z p1 q2 p3 h0 n0 v U'.heap L ∧ FrameEnd U o U' L ({ frames := 1, cells := 0, slots := 0, locals := 15 } : Room).cells ({ frames := 1, cells := 0, slots := 0, locals := 15 } : Room).slots) := by
  refine MetFree.of_bodySF (plainFor_of_name pn_2) hisR ?_
  intro p e s m args below meth c s₁ Bd hml0 hP hK
  obtain ⟨rfl, hZ, hh⟩ := hP
  have hx := Bd.exec
  have hby := Bd.bytes
  have hml : c.maxLocals = 7 := hml0
  have hown : s.vm.findClass "com/example/umbel/umbel/query/OccurrencesFirstUnusedAfterPinLaw" = some m.cls := findClass_of_methodNamed Bd.named
  have hnm := (name_of_methodNamed Bd.named Bd.method).1
  have X0 : Stand p l e ({ frames := 1, cells := 0, slots := 0, locals := 15 } : Room) s m #[(.int p1), (.long q2), (.int p3)] below meth c s₁ [] 0 0 := Stand.of_body Bd
  have e0 : s₁.heap = h0 := by rw [← hh, Bd.state]; rfl
  have N0 := Fr.nil n0
  have pre0 : ∀ t, Steps p.tables e below (s₁.setTop (mkF m 0 #[.val (.int p1), .val (.long q2), .second, .val (.int p3), .unset, .unset, .unset] [])) t → Steps p.tables e below (s₁.setTop (entryFrame m #[(.int p1), (.long q2), (.int p3)] 7)) t := fun t k => castTop (ef_2 m p1 q2 p3) k
  obtain ⟨_, _, ⟨T4, L4, k4, n4⟩, -, X4, ⟨Lc4, hQ4, l4, y4, z4⟩, st4⟩ := Jvm.LawKit.callS X0 hx (y := (⟨"java/lang/Math", "min", "(JJ)J"⟩ : MethodName)) hown (mvT hZ (hw _ (List.mem_of_getElem? (i := 11) rfl))) (mvT hZ (hw _ (List.mem_of_getElem? (i := 12) rfl))) (mvT hZ (hw _ (List.mem_of_getElem? (i := 3) rfl))) (mvT hZ (hw _ (List.mem_of_getElem? (i := 13) rfl))) (by decide) (backOf (W := 0) (rm3 l Z a0 hw [] ((p1.toInt64) + ((((((((q2.toUInt64 >>> (((21 : Int32) * p3) &&& 0x3f).toInt64.toUInt64).toInt64).toInt32) &&& (2097151 : Int32)).toUInt32 >>> ((1 : Int32) &&& 31).toUInt32).toInt32) &&& (3 : Int32)).toInt64)) (2147483647 : Int64) h0 n0 Z0) hZ (hw _ (List.mem_of_getElem? (i := 13) rfl)) (hw _ (List.mem_of_getElem? (i := 3) rfl)) (by decide) (by decide)) (g := (mkF m 44 #[.val (.int p1), .val (.long q2), .second, .val (.int p3), .val (.int ((((q2.toUInt64 >>> (((21 : Int32) * p3) &&& 0x3f).toInt64.toUInt64).toInt64).toInt32) &&& (2097151 : Int32))), .val (.long ((((((((q2.toUInt64 >>> (((21 : Int32) * p3) &&& 0x3f).toInt64.toUInt64).toInt64).toInt32) &&& (2097151 : Int32)).toUInt32 >>> ((1 : Int32) &&& 31).toUInt32).toInt32) &&& (3 : Int32)).toInt64)), .second] [(.long (2147483647 : Int64)), (.long ((p1.toInt64) + ((((((((q2.toUInt64 >>> (((21 : Int32) * p3) &&& 0x3f).toInt64.toUInt64).toInt64).toInt32) &&& (2097151 : Int32)).toUInt32 >>> ((1 : Int32) &&& 31).toUInt32).toInt32) &&& (3 : Int32)).toInt64)))])) rfl (by rw [hml]; rfl) (argsL := [(.long ((p1.toInt64) + ((((((((q2.toUInt64 >>> (((21 : Int32) * p3) &&& 0x3f).toInt64.toUInt64).toInt64).toInt32) &&& (2097151 : Int32)).toUInt32 >>> ((1 : Int32) &&& 31).toUInt32).toInt32) &&& (3 : Int32)).toInt64))), (.long (2147483647 : Int64))]) (rest := []) (lenOf pd_2_2 rfl) rfl (by show 2 * 0 + _ ≤ _; exact Nat.le_of_eq rfl) (hb hby d2_44) (fun _ _ => ⟨rfl, e0, (by decide : 0 + 0 ≤ _), (by decide : 0 + 0 ≤ _)⟩)
  dsimp only [Pt.U, Pt.locs, Pt.cells, Pt.slots] at X4 l4 y4 z4 st4 hQ4
  subst l4 y4 z4
  obtain ⟨rfl, N4q, e4q⟩ := hQ4
  have N4 := Fr.app N0 N4q
  obtain ⟨fs, hr, hrun, hended, hW, hsame⟩ := X4.leave (v := some (.int ((own_minL ((p1.toInt64) + ((((((((q2.toUInt64 >>> (((21 : Int32) * p3) &&& 0x3f).toInt64.toUInt64).toInt64).toInt32) &&& (2097151 : Int32)).toUInt32 >>> ((1 : Int32) &&& 31).toUInt32).toInt32) &&& (3 : Int32)).toInt64)) (2147483647 : Int64)).toInt32))) (fun h => by rw [Bd.returns] at h; cases h)
  refine ⟨_, _, pre0 _ ?_, hrun, hended, _, _, rfl, ?_, ⟨_, rfl⟩, hW, hsame.mono (by decide) (by decide)⟩
  · show Steps p.tables e below (s₁.setTop (mkF m 0 #[.val (.int p1), .val (.long q2), .second, .val (.int p3), .unset, .unset, .unset] [])) _
    refine XS.lloadN X0.here hx rfl (hb hby d2_0) rfl ?_
    show Steps p.tables e below (s₁.setTop (mkF m 1 #[.val (.int p1), .val (.long q2), .second, .val (.int p3), .unset, .unset, .unset] [(.long q2)])) _
    refine XS.bipush X0.here hx rfl (hb hby d2_1) ?_
    show Steps p.tables e below (s₁.setTop (mkF m 3 #[.val (.int p1), .val (.long q2), .second, .val (.int p3), .unset, .unset, .unset] [(.int (21 : Int32)), (.long q2)])) _
    refine XS.iloadN X0.here hx rfl (hb hby d2_3) rfl ?_
    show Steps p.tables e below (s₁.setTop (mkF m 4 #[.val (.int p1), .val (.long q2), .second, .val (.int p3), .unset, .unset, .unset] [(.int p3), (.int (21 : Int32)), (.long q2)])) _
    refine XS.imul X0.here hx rfl (hb hby d2_4) rfl ?_
    show Steps p.tables e below (s₁.setTop (mkF m 5 #[.val (.int p1), .val (.long q2), .second, .val (.int p3), .unset, .unset, .unset] [(.int ((21 : Int32) * p3)), (.long q2)])) _
    refine XS.lushr X0.here hx rfl (hb hby d2_5) rfl ?_
    show Steps p.tables e below (s₁.setTop (mkF m 6 #[.val (.int p1), .val (.long q2), .second, .val (.int p3), .unset, .unset, .unset] [(.long ((q2.toUInt64 >>> (((21 : Int32) * p3) &&& 0x3f).toInt64.toUInt64).toInt64))])) _
    refine XS.l2i X0.here hx rfl (hb hby d2_6) rfl ?_
    show Steps p.tables e below (s₁.setTop (mkF m 7 #[.val (.int p1), .val (.long q2), .second, .val (.int p3), .unset, .unset, .unset] [(.int (((q2.toUInt64 >>> (((21 : Int32) * p3) &&& 0x3f).toInt64.toUInt64).toInt64).toInt32))])) _
    refine X0.ldcInt hx hown (mvT hZ (hw _ (List.mem_of_getElem? (i := 9) rfl))) (g := (mkF m 7 #[.val (.int p1), .val (.long q2), .second, .val (.int p3), .unset, .unset, .unset] [(.int (((q2.toUInt64 >>> (((21 : Int32) * p3) &&& 0x3f).toInt64.toUInt64).toInt64).toInt32))])) rfl (hb hby d2_7) _ ?_
    show Steps p.tables e below (s₁.setTop (mkF m 9 #[.val (.int p1), .val (.long q2), .second, .val (.int p3), .unset, .unset, .unset] [(.int (2097151 : Int32)), (.int (((q2.toUInt64 >>> (((21 : Int32) * p3) &&& 0x3f).toInt64.toUInt64).toInt64).toInt32))])) _
    refine XS.iand X0.here hx rfl (hb hby d2_9) rfl ?_
    show Steps p.tables e below (s₁.setTop (mkF m 10 #[.val (.int p1), .val (.long q2), .second, .val (.int p3), .unset, .unset, .unset] [(.int ((((q2.toUInt64 >>> (((21 : Int32) * p3) &&& 0x3f).toInt64.toUInt64).toInt64).toInt32) &&& (2097151 : Int32)))])) _
    refine XS.istore X0.here hx rfl (hb hby d2_10) rfl (l' := #[.val (.int p1), .val (.long q2), .second, .val (.int p3), .val (.int ((((q2.toUInt64 >>> (((21 : Int32) * p3) &&& 0x3f).toInt64.toUInt64).toInt64).toInt32) &&& (2097151 : Int32))), .unset, .unset]) rfl ?_
    show Steps p.tables e below (s₁.setTop (mkF m 12 #[.val (.int p1), .val (.long q2), .second, .val (.int p3), .val (.int ((((q2.toUInt64 >>> (((21 : Int32) * p3) &&& 0x3f).toInt64.toUInt64).toInt64).toInt32) &&& (2097151 : Int32))), .unset, .unset] [])) _
    refine XS.iload X0.here hx rfl (hb hby d2_12) rfl ?_
    show Steps p.tables e below (s₁.setTop (mkF m 14 #[.val (.int p1), .val (.long q2), .second, .val (.int p3), .val (.int ((((q2.toUInt64 >>> (((21 : Int32) * p3) &&& 0x3f).toInt64.toUInt64).toInt64).toInt32) &&& (2097151 : Int32))), .unset, .unset] [(.int ((((q2.toUInt64 >>> (((21 : Int32) * p3) &&& 0x3f).toInt64.toUInt64).toInt64).toInt32) &&& (2097151 : Int32)))])) _
    refine XS.iconst X0.here hx rfl (hb hby d2_14) ?_
    show Steps p.tables e below (s₁.setTop (mkF m 15 #[.val (.int p1), .val (.long q2), .second, .val (.int p3), .val (.int ((((q2.toUInt64 >>> (((21 : Int32) * p3) &&& 0x3f).toInt64.toUInt64).toInt64).toInt32) &&& (2097151 : Int32))), .unset, .unset] [(.int (1 : Int32)), (.int ((((q2.toUInt64 >>> (((21 : Int32) * p3) &&& 0x3f).toInt64.toUInt64).toInt64).toInt32) &&& (2097151 : Int32)))])) _
    refine XS.iand X0.here hx rfl (hb hby d2_15) rfl ?_
    show Steps p.tables e below (s₁.setTop (mkF m 16 #[.val (.int p1), .val (.long q2), .second, .val (.int p3), .val (.int ((((q2.toUInt64 >>> (((21 : Int32) * p3) &&& 0x3f).toInt64.toUInt64).toInt64).toInt32) &&& (2097151 : Int32))), .unset, .unset] [(.int (((((q2.toUInt64 >>> (((21 : Int32) * p3) &&& 0x3f).toInt64.toUInt64).toInt64).toInt32) &&& (2097151 : Int32)) &&& (1 : Int32)))])) _
    refine XS.ifNo X0.here hx rfl (hb hby d2_16) rfl ((if0 _ _).trans (teq hc16).2) ?_
    show Steps p.tables e below (s₁.setTop (mkF m 19 #[.val (.int p1), .val (.long q2), .second, .val (.int p3), .val (.int ((((q2.toUInt64 >>> (((21 : Int32) * p3) &&& 0x3f).toInt64.toUInt64).toInt64).toInt32) &&& (2097151 : Int32))), .unset, .unset] [])) _
    refine XS.iload X0.here hx rfl (hb hby d2_19) rfl ?_
    show Steps p.tables e below (s₁.setTop (mkF m 21 #[.val (.int p1), .val (.long q2), .second, .val (.int p3), .val (.int ((((q2.toUInt64 >>> (((21 : Int32) * p3) &&& 0x3f).toInt64.toUInt64).toInt64).toInt32) &&& (2097151 : Int32))), .unset, .unset] [(.int ((((q2.toUInt64 >>> (((21 : Int32) * p3) &&& 0x3f).toInt64.toUInt64).toInt64).toInt32) &&& (2097151 : Int32)))])) _
    refine XS.iconst X0.here hx rfl (hb hby d2_21) ?_
    show Steps p.tables e below (s₁.setTop (mkF m 22 #[.val (.int p1), .val (.long q2), .second, .val (.int p3), .val (.int ((((q2.toUInt64 >>> (((21 : Int32) * p3) &&& 0x3f).toInt64.toUInt64).toInt64).toInt32) &&& (2097151 : Int32))), .unset, .unset] [(.int (1 : Int32)), (.int ((((q2.toUInt64 >>> (((21 : Int32) * p3) &&& 0x3f).toInt64.toUInt64).toInt64).toInt32) &&& (2097151 : Int32)))])) _
    refine XS.iushr X0.here hx rfl (hb hby d2_22) rfl ?_
    show Steps p.tables e below (s₁.setTop (mkF m 23 #[.val (.int p1), .val (.long q2), .second, .val (.int p3), .val (.int ((((q2.toUInt64 >>> (((21 : Int32) * p3) &&& 0x3f).toInt64.toUInt64).toInt64).toInt32) &&& (2097151 : Int32))), .unset, .unset] [(.int ((((((q2.toUInt64 >>> (((21 : Int32) * p3) &&& 0x3f).toInt64.toUInt64).toInt64).toInt32) &&& (2097151 : Int32)).toUInt32 >>> ((1 : Int32) &&& 31).toUInt32).toInt32))])) _
    refine XS.iconst X0.here hx rfl (hb hby d2_23) ?_
    show Steps p.tables e below (s₁.setTop (mkF m 24 #[.val (.int p1), .val (.long q2), .second, .val (.int p3), .val (.int ((((q2.toUInt64 >>> (((21 : Int32) * p3) &&& 0x3f).toInt64.toUInt64).toInt64).toInt32) &&& (2097151 : Int32))), .unset, .unset] [(.int (3 : Int32)), (.int ((((((q2.toUInt64 >>> (((21 : Int32) * p3) &&& 0x3f).toInt64.toUInt64).toInt64).toInt32) &&& (2097151 : Int32)).toUInt32 >>> ((1 : Int32) &&& 31).toUInt32).toInt32))])) _
    refine XS.iand X0.here hx rfl (hb hby d2_24) rfl ?_
    show Steps p.tables e below (s₁.setTop (mkF m 25 #[.val (.int p1), .val (.long q2), .second, .val (.int p3), .val (.int ((((q2.toUInt64 >>> (((21 : Int32) * p3) &&& 0x3f).toInt64.toUInt64).toInt64).toInt32) &&& (2097151 : Int32))), .unset, .unset] [(.int (((((((q2.toUInt64 >>> (((21 : Int32) * p3) &&& 0x3f).toInt64.toUInt64).toInt64).toInt32) &&& (2097151 : Int32)).toUInt32 >>> ((1 : Int32) &&& 31).toUInt32).toInt32) &&& (3 : Int32)))])) _
    refine XS.i2l X0.here hx rfl (hb hby d2_25) rfl ?_
    show Steps p.tables e below (s₁.setTop (mkF m 26 #[.val (.int p1), .val (.long q2), .second, .val (.int p3), .val (.int ((((q2.toUInt64 >>> (((21 : Int32) * p3) &&& 0x3f).toInt64.toUInt64).toInt64).toInt32) &&& (2097151 : Int32))), .unset, .unset] [(.long ((((((((q2.toUInt64 >>> (((21 : Int32) * p3) &&& 0x3f).toInt64.toUInt64).toInt64).toInt32) &&& (2097151 : Int32)).toUInt32 >>> ((1 : Int32) &&& 31).toUInt32).toInt32) &&& (3 : Int32)).toInt64))])) _
    refine XS.goto X0.here hx rfl (pc0 := 26) (pc' := 34) rfl (hb hby d2_26) (by decide) (by decide) ?_
    show Steps p.tables e below (s₁.setTop (mkF m 34 #[.val (.int p1), .val (.long q2), .second, .val (.int p3), .val (.int ((((q2.toUInt64 >>> (((21 : Int32) * p3) &&& 0x3f).toInt64.toUInt64).toInt64).toInt32) &&& (2097151 : Int32))), .unset, .unset] [(.long ((((((((q2.toUInt64 >>> (((21 : Int32) * p3) &&& 0x3f).toInt64.toUInt64).toInt64).toInt32) &&& (2097151 : Int32)).toUInt32 >>> ((1 : Int32) &&& 31).toUInt32).toInt32) &&& (3 : Int32)).toInt64))])) _
    refine XS.lstore X0.here hx rfl (hb hby d2_34) rfl (l' := #[.val (.int p1), .val (.long q2), .second, .val (.int p3), .val (.int ((((q2.toUInt64 >>> (((21 : Int32) * p3) &&& 0x3f).toInt64.toUInt64).toInt64).toInt32) &&& (2097151 : Int32))), .val (.long ((((((((q2.toUInt64 >>> (((21 : Int32) * p3) &&& 0x3f).toInt64.toUInt64).toInt64).toInt32) &&& (2097151 : Int32)).toUInt32 >>> ((1 : Int32) &&& 31).toUInt32).toInt32) &&& (3 : Int32)).toInt64)), .second]) rfl ?_
    show Steps p.tables e below (s₁.setTop (mkF m 36 #[.val (.int p1), .val (.long q2), .second, .val (.int p3), .val (.int ((((q2.toUInt64 >>> (((21 : Int32) * p3) &&& 0x3f).toInt64.toUInt64).toInt64).toInt32) &&& (2097151 : Int32))), .val (.long ((((((((q2.toUInt64 >>> (((21 : Int32) * p3) &&& 0x3f).toInt64.toUInt64).toInt64).toInt32) &&& (2097151 : Int32)).toUInt32 >>> ((1 : Int32) &&& 31).toUInt32).toInt32) &&& (3 : Int32)).toInt64)), .second] [])) _
    refine XS.iloadN X0.here hx rfl (hb hby d2_36) rfl ?_
    show Steps p.tables e below (s₁.setTop (mkF m 37 #[.val (.int p1), .val (.long q2), .second, .val (.int p3), .val (.int ((((q2.toUInt64 >>> (((21 : Int32) * p3) &&& 0x3f).toInt64.toUInt64).toInt64).toInt32) &&& (2097151 : Int32))), .val (.long ((((((((q2.toUInt64 >>> (((21 : Int32) * p3) &&& 0x3f).toInt64.toUInt64).toInt64).toInt32) &&& (2097151 : Int32)).toUInt32 >>> ((1 : Int32) &&& 31).toUInt32).toInt32) &&& (3 : Int32)).toInt64)), .second] [(.int p1)])) _
    refine XS.i2l X0.here hx rfl (hb hby d2_37) rfl ?_
    show Steps p.tables e below (s₁.setTop (mkF m 38 #[.val (.int p1), .val (.long q2), .second, .val (.int p3), .val (.int ((((q2.toUInt64 >>> (((21 : Int32) * p3) &&& 0x3f).toInt64.toUInt64).toInt64).toInt32) &&& (2097151 : Int32))), .val (.long ((((((((q2.toUInt64 >>> (((21 : Int32) * p3) &&& 0x3f).toInt64.toUInt64).toInt64).toInt32) &&& (2097151 : Int32)).toUInt32 >>> ((1 : Int32) &&& 31).toUInt32).toInt32) &&& (3 : Int32)).toInt64)), .second] [(.long (p1.toInt64))])) _
    refine XS.lload X0.here hx rfl (hb hby d2_38) rfl ?_
    show Steps p.tables e below (s₁.setTop (mkF m 40 #[.val (.int p1), .val (.long q2), .second, .val (.int p3), .val (.int ((((q2.toUInt64 >>> (((21 : Int32) * p3) &&& 0x3f).toInt64.toUInt64).toInt64).toInt32) &&& (2097151 : Int32))), .val (.long ((((((((q2.toUInt64 >>> (((21 : Int32) * p3) &&& 0x3f).toInt64.toUInt64).toInt64).toInt32) &&& (2097151 : Int32)).toUInt32 >>> ((1 : Int32) &&& 31).toUInt32).toInt32) &&& (3 : Int32)).toInt64)), .second] [(.long ((((((((q2.toUInt64 >>> (((21 : Int32) * p3) &&& 0x3f).toInt64.toUInt64).toInt64).toInt32) &&& (2097151 : Int32)).toUInt32 >>> ((1 : Int32) &&& 31).toUInt32).toInt32) &&& (3 : Int32)).toInt64)), (.long (p1.toInt64))])) _
    refine XS.ladd X0.here hx rfl (hb hby d2_40) rfl ?_
    show Steps p.tables e below (s₁.setTop (mkF m 41 #[.val (.int p1), .val (.long q2), .second, .val (.int p3), .val (.int ((((q2.toUInt64 >>> (((21 : Int32) * p3) &&& 0x3f).toInt64.toUInt64).toInt64).toInt32) &&& (2097151 : Int32))), .val (.long ((((((((q2.toUInt64 >>> (((21 : Int32) * p3) &&& 0x3f).toInt64.toUInt64).toInt64).toInt32) &&& (2097151 : Int32)).toUInt32 >>> ((1 : Int32) &&& 31).toUInt32).toInt32) &&& (3 : Int32)).toInt64)), .second] [(.long ((p1.toInt64) + ((((((((q2.toUInt64 >>> (((21 : Int32) * p3) &&& 0x3f).toInt64.toUInt64).toInt64).toInt32) &&& (2097151 : Int32)).toUInt32 >>> ((1 : Int32) &&& 31).toUInt32).toInt32) &&& (3 : Int32)).toInt64)))])) _
    refine X0.ldc2Long hx hown (mvT hZ (hw _ (List.mem_of_getElem? (i := 10) rfl))) (g := (mkF m 41 #[.val (.int p1), .val (.long q2), .second, .val (.int p3), .val (.int ((((q2.toUInt64 >>> (((21 : Int32) * p3) &&& 0x3f).toInt64.toUInt64).toInt64).toInt32) &&& (2097151 : Int32))), .val (.long ((((((((q2.toUInt64 >>> (((21 : Int32) * p3) &&& 0x3f).toInt64.toUInt64).toInt64).toInt32) &&& (2097151 : Int32)).toUInt32 >>> ((1 : Int32) &&& 31).toUInt32).toInt32) &&& (3 : Int32)).toInt64)), .second] [(.long ((p1.toInt64) + ((((((((q2.toUInt64 >>> (((21 : Int32) * p3) &&& 0x3f).toInt64.toUInt64).toInt64).toInt32) &&& (2097151 : Int32)).toUInt32 >>> ((1 : Int32) &&& 31).toUInt32).toInt32) &&& (3 : Int32)).toInt64)))])) rfl (hb hby d2_41) _ ?_
    show Steps p.tables e below (s₁.setTop (mkF m 44 #[.val (.int p1), .val (.long q2), .second, .val (.int p3), .val (.int ((((q2.toUInt64 >>> (((21 : Int32) * p3) &&& 0x3f).toInt64.toUInt64).toInt64).toInt32) &&& (2097151 : Int32))), .val (.long ((((((((q2.toUInt64 >>> (((21 : Int32) * p3) &&& 0x3f).toInt64.toUInt64).toInt64).toInt32) &&& (2097151 : Int32)).toUInt32 >>> ((1 : Int32) &&& 31).toUInt32).toInt32) &&& (3 : Int32)).toInt64)), .second] [(.long (2147483647 : Int64)), (.long ((p1.toInt64) + ((((((((q2.toUInt64 >>> (((21 : Int32) * p3) &&& 0x3f).toInt64.toUInt64).toInt64).toInt32) &&& (2097151 : Int32)).toUInt32 >>> ((1 : Int32) &&& 31).toUInt32).toInt32) &&& (3 : Int32)).toInt64)))])) _
    refine st4 _ ?_
    show Steps p.tables e below (T4.setTop (mkF m 47 #[.val (.int p1), .val (.long q2), .second, .val (.int p3), .val (.int ((((q2.toUInt64 >>> (((21 : Int32) * p3) &&& 0x3f).toInt64.toUInt64).toInt64).toInt32) &&& (2097151 : Int32))), .val (.long ((((((((q2.toUInt64 >>> (((21 : Int32) * p3) &&& 0x3f).toInt64.toUInt64).toInt64).toInt32) &&& (2097151 : Int32)).toUInt32 >>> ((1 : Int32) &&& 31).toUInt32).toInt32) &&& (3 : Int32)).toInt64)), .second] [(.long (own_minL ((p1.toInt64) + ((((((((q2.toUInt64 >>> (((21 : Int32) * p3) &&& 0x3f).toInt64.toUInt64).toInt64).toInt32) &&& (2097151 : Int32)).toUInt32 >>> ((1 : Int32) &&& 31).toUInt32).toInt32) &&& (3 : Int32)).toInt64)) (2147483647 : Int64)))])) _
    refine XS.l2i X4.here hx rfl (hb hby d2_47) rfl ?_
    show Steps p.tables e below (T4.setTop (mkF m 48 #[.val (.int p1), .val (.long q2), .second, .val (.int p3), .val (.int ((((q2.toUInt64 >>> (((21 : Int32) * p3) &&& 0x3f).toInt64.toUInt64).toInt64).toInt32) &&& (2097151 : Int32))), .val (.long ((((((((q2.toUInt64 >>> (((21 : Int32) * p3) &&& 0x3f).toInt64.toUInt64).toInt64).toInt32) &&& (2097151 : Int32)).toUInt32 >>> ((1 : Int32) &&& 31).toUInt32).toInt32) &&& (3 : Int32)).toInt64)), .second] [(.int ((own_minL ((p1.toInt64) + ((((((((q2.toUInt64 >>> (((21 : Int32) * p3) &&& 0x3f).toInt64.toUInt64).toInt64).toInt32) &&& (2097151 : Int32)).toUInt32 >>> ((1 : Int32) &&& 31).toUInt32).toInt32) &&& (3 : Int32)).toInt64)) (2147483647 : Int64)).toInt32))])) _
    exact retI X4 hx Bd.returns (hb hby d2_48) hr
  · show Q2 Z p1 q2 p3 h0 n0 _ T4.heap _
    exact ⟨_, rfl, own_nextI _ _ (own_gap0 _).1 (own_gap0 _).2, N4, e4q⟩
theorem d2_29 : decode method_3_code 29 = .ok (.iload 4, 2) := by decide +kernel
theorem d2_31 : decode method_3_code 31 = .ok (.iconst 1, 1) := by decide +kernel
theorem d2_32 : decode method_3_code 32 = .ok (.iushr, 1) := by decide +kernel
theorem d2_33 : decode method_3_code 33 = .ok (.i2l, 1) := by decide +kernel
set_option maxRecDepth 65536 in
set_option maxHeartbeats 40000000 in
theorem rm2_t (l : Launch) (Z : State) (a0 : Array Value) (hw : ∀ d ∈ tables_1, d.before a0 Z = true) (ws : List Jvm.Cond) (p1 : Int32) (q2 : Int64) (p3 : Int32) (h0 : Heap) (n0 : Nat) (Z0 : n0 ≤ h0.size) (hc16 : ¬ ((((((q2.toUInt64 >>> (((21 : Int32) * p3) &&& 0x3f).toInt64.toUInt64).toInt64).toInt32) &&& (2097151 : Int32)) &&& (1 : Int32)) = (0 : Int32))) :
    MetFree l (⟨"com/example/umbel/umbel/query/OccurrencesFirstUnusedAfterPinLaw", "next", "(IJI)I"⟩ : MethodName) (head1 (Jvm.Cond.code (⟨"com/example/umbel/umbel/query/OccurrencesFirstUnusedAfterPinLaw", "next", "(IJI)I"⟩ : MethodName) method_3_code 7 (some .int) :: ws) ({ frames := 1, cells := 0, slots := 0, locals := 15 } : Room)) (fun a U => a = #[(.int p1), (.long q2), (.int p3)] ∧ Z.Warmed39 U.vm ∧ U.heap = h0) (fun _ _ _ _ _ => True) (fun _ U o U' => ∃ v L, o = .returned v ∧ Q2 Z p1 q2 p3 h0 n0 v U'.heap L ∧ FrameEnd U o U' L ({ frames := 1, cells := 0, slots := 0, locals := 15 } : Room).cells ({ frames := 1, cells := 0, slots := 0, locals := 15 } : Room).slots) := by
  refine MetFree.of_bodySF (plainFor_of_name pn_2) hisR ?_
  intro p e s m args below meth c s₁ Bd hml0 hP hK
  obtain ⟨rfl, hZ, hh⟩ := hP
  have hx := Bd.exec
  have hby := Bd.bytes
  have hml : c.maxLocals = 7 := hml0
  have hown : s.vm.findClass "com/example/umbel/umbel/query/OccurrencesFirstUnusedAfterPinLaw" = some m.cls := findClass_of_methodNamed Bd.named
  have hnm := (name_of_methodNamed Bd.named Bd.method).1
  have X0 : Stand p l e ({ frames := 1, cells := 0, slots := 0, locals := 15 } : Room) s m #[(.int p1), (.long q2), (.int p3)] below meth c s₁ [] 0 0 := Stand.of_body Bd
  have e0 : s₁.heap = h0 := by rw [← hh, Bd.state]; rfl
  have N0 := Fr.nil n0
  have pre0 : ∀ t, Steps p.tables e below (s₁.setTop (mkF m 0 #[.val (.int p1), .val (.long q2), .second, .val (.int p3), .unset, .unset, .unset] [])) t → Steps p.tables e below (s₁.setTop (entryFrame m #[(.int p1), (.long q2), (.int p3)] 7)) t := fun t k => castTop (ef_2 m p1 q2 p3) k
  obtain ⟨_, _, ⟨T4, L4, k4, n4⟩, -, X4, ⟨Lc4, hQ4, l4, y4, z4⟩, st4⟩ := Jvm.LawKit.callS X0 hx (y := (⟨"java/lang/Math", "min", "(JJ)J"⟩ : MethodName)) hown (mvT hZ (hw _ (List.mem_of_getElem? (i := 11) rfl))) (mvT hZ (hw _ (List.mem_of_getElem? (i := 12) rfl))) (mvT hZ (hw _ (List.mem_of_getElem? (i := 3) rfl))) (mvT hZ (hw _ (List.mem_of_getElem? (i := 13) rfl))) (by decide) (backOf (W := 0) (rm3 l Z a0 hw [] ((p1.toInt64) + (((((((q2.toUInt64 >>> (((21 : Int32) * p3) &&& 0x3f).toInt64.toUInt64).toInt64).toInt32) &&& (2097151 : Int32)).toUInt32 >>> ((1 : Int32) &&& 31).toUInt32).toInt32).toInt64)) (2147483647 : Int64) h0 n0 Z0) hZ (hw _ (List.mem_of_getElem? (i := 13) rfl)) (hw _ (List.mem_of_getElem? (i := 3) rfl)) (by decide) (by decide)) (g := (mkF m 44 #[.val (.int p1), .val (.long q2), .second, .val (.int p3), .val (.int ((((q2.toUInt64 >>> (((21 : Int32) * p3) &&& 0x3f).toInt64.toUInt64).toInt64).toInt32) &&& (2097151 : Int32))), .val (.long (((((((q2.toUInt64 >>> (((21 : Int32) * p3) &&& 0x3f).toInt64.toUInt64).toInt64).toInt32) &&& (2097151 : Int32)).toUInt32 >>> ((1 : Int32) &&& 31).toUInt32).toInt32).toInt64)), .second] [(.long (2147483647 : Int64)), (.long ((p1.toInt64) + (((((((q2.toUInt64 >>> (((21 : Int32) * p3) &&& 0x3f).toInt64.toUInt64).toInt64).toInt32) &&& (2097151 : Int32)).toUInt32 >>> ((1 : Int32) &&& 31).toUInt32).toInt32).toInt64)))])) rfl (by rw [hml]; rfl) (argsL := [(.long ((p1.toInt64) + (((((((q2.toUInt64 >>> (((21 : Int32) * p3) &&& 0x3f).toInt64.toUInt64).toInt64).toInt32) &&& (2097151 : Int32)).toUInt32 >>> ((1 : Int32) &&& 31).toUInt32).toInt32).toInt64))), (.long (2147483647 : Int64))]) (rest := []) (lenOf pd_2_2 rfl) rfl (by show 2 * 0 + _ ≤ _; exact Nat.le_of_eq rfl) (hb hby d2_44) (fun _ _ => ⟨rfl, e0, (by decide : 0 + 0 ≤ _), (by decide : 0 + 0 ≤ _)⟩)
  dsimp only [Pt.U, Pt.locs, Pt.cells, Pt.slots] at X4 l4 y4 z4 st4 hQ4
  subst l4 y4 z4
  obtain ⟨rfl, N4q, e4q⟩ := hQ4
  have N4 := Fr.app N0 N4q
  obtain ⟨fs, hr, hrun, hended, hW, hsame⟩ := X4.leave (v := some (.int ((own_minL ((p1.toInt64) + (((((((q2.toUInt64 >>> (((21 : Int32) * p3) &&& 0x3f).toInt64.toUInt64).toInt64).toInt32) &&& (2097151 : Int32)).toUInt32 >>> ((1 : Int32) &&& 31).toUInt32).toInt32).toInt64)) (2147483647 : Int64)).toInt32))) (fun h => by rw [Bd.returns] at h; cases h)
  refine ⟨_, _, pre0 _ ?_, hrun, hended, _, _, rfl, ?_, ⟨_, rfl⟩, hW, hsame.mono (by decide) (by decide)⟩
  · show Steps p.tables e below (s₁.setTop (mkF m 0 #[.val (.int p1), .val (.long q2), .second, .val (.int p3), .unset, .unset, .unset] [])) _
    refine XS.lloadN X0.here hx rfl (hb hby d2_0) rfl ?_
    show Steps p.tables e below (s₁.setTop (mkF m 1 #[.val (.int p1), .val (.long q2), .second, .val (.int p3), .unset, .unset, .unset] [(.long q2)])) _
    refine XS.bipush X0.here hx rfl (hb hby d2_1) ?_
    show Steps p.tables e below (s₁.setTop (mkF m 3 #[.val (.int p1), .val (.long q2), .second, .val (.int p3), .unset, .unset, .unset] [(.int (21 : Int32)), (.long q2)])) _
    refine XS.iloadN X0.here hx rfl (hb hby d2_3) rfl ?_
    show Steps p.tables e below (s₁.setTop (mkF m 4 #[.val (.int p1), .val (.long q2), .second, .val (.int p3), .unset, .unset, .unset] [(.int p3), (.int (21 : Int32)), (.long q2)])) _
    refine XS.imul X0.here hx rfl (hb hby d2_4) rfl ?_
    show Steps p.tables e below (s₁.setTop (mkF m 5 #[.val (.int p1), .val (.long q2), .second, .val (.int p3), .unset, .unset, .unset] [(.int ((21 : Int32) * p3)), (.long q2)])) _
    refine XS.lushr X0.here hx rfl (hb hby d2_5) rfl ?_
    show Steps p.tables e below (s₁.setTop (mkF m 6 #[.val (.int p1), .val (.long q2), .second, .val (.int p3), .unset, .unset, .unset] [(.long ((q2.toUInt64 >>> (((21 : Int32) * p3) &&& 0x3f).toInt64.toUInt64).toInt64))])) _
    refine XS.l2i X0.here hx rfl (hb hby d2_6) rfl ?_
    show Steps p.tables e below (s₁.setTop (mkF m 7 #[.val (.int p1), .val (.long q2), .second, .val (.int p3), .unset, .unset, .unset] [(.int (((q2.toUInt64 >>> (((21 : Int32) * p3) &&& 0x3f).toInt64.toUInt64).toInt64).toInt32))])) _
    refine X0.ldcInt hx hown (mvT hZ (hw _ (List.mem_of_getElem? (i := 9) rfl))) (g := (mkF m 7 #[.val (.int p1), .val (.long q2), .second, .val (.int p3), .unset, .unset, .unset] [(.int (((q2.toUInt64 >>> (((21 : Int32) * p3) &&& 0x3f).toInt64.toUInt64).toInt64).toInt32))])) rfl (hb hby d2_7) _ ?_
    show Steps p.tables e below (s₁.setTop (mkF m 9 #[.val (.int p1), .val (.long q2), .second, .val (.int p3), .unset, .unset, .unset] [(.int (2097151 : Int32)), (.int (((q2.toUInt64 >>> (((21 : Int32) * p3) &&& 0x3f).toInt64.toUInt64).toInt64).toInt32))])) _
    refine XS.iand X0.here hx rfl (hb hby d2_9) rfl ?_
    show Steps p.tables e below (s₁.setTop (mkF m 10 #[.val (.int p1), .val (.long q2), .second, .val (.int p3), .unset, .unset, .unset] [(.int ((((q2.toUInt64 >>> (((21 : Int32) * p3) &&& 0x3f).toInt64.toUInt64).toInt64).toInt32) &&& (2097151 : Int32)))])) _
    refine XS.istore X0.here hx rfl (hb hby d2_10) rfl (l' := #[.val (.int p1), .val (.long q2), .second, .val (.int p3), .val (.int ((((q2.toUInt64 >>> (((21 : Int32) * p3) &&& 0x3f).toInt64.toUInt64).toInt64).toInt32) &&& (2097151 : Int32))), .unset, .unset]) rfl ?_
    show Steps p.tables e below (s₁.setTop (mkF m 12 #[.val (.int p1), .val (.long q2), .second, .val (.int p3), .val (.int ((((q2.toUInt64 >>> (((21 : Int32) * p3) &&& 0x3f).toInt64.toUInt64).toInt64).toInt32) &&& (2097151 : Int32))), .unset, .unset] [])) _
    refine XS.iload X0.here hx rfl (hb hby d2_12) rfl ?_
    show Steps p.tables e below (s₁.setTop (mkF m 14 #[.val (.int p1), .val (.long q2), .second, .val (.int p3), .val (.int ((((q2.toUInt64 >>> (((21 : Int32) * p3) &&& 0x3f).toInt64.toUInt64).toInt64).toInt32) &&& (2097151 : Int32))), .unset, .unset] [(.int ((((q2.toUInt64 >>> (((21 : Int32) * p3) &&& 0x3f).toInt64.toUInt64).toInt64).toInt32) &&& (2097151 : Int32)))])) _
    refine XS.iconst X0.here hx rfl (hb hby d2_14) ?_
    show Steps p.tables e below (s₁.setTop (mkF m 15 #[.val (.int p1), .val (.long q2), .second, .val (.int p3), .val (.int ((((q2.toUInt64 >>> (((21 : Int32) * p3) &&& 0x3f).toInt64.toUInt64).toInt64).toInt32) &&& (2097151 : Int32))), .unset, .unset] [(.int (1 : Int32)), (.int ((((q2.toUInt64 >>> (((21 : Int32) * p3) &&& 0x3f).toInt64.toUInt64).toInt64).toInt32) &&& (2097151 : Int32)))])) _
    refine XS.iand X0.here hx rfl (hb hby d2_15) rfl ?_
    show Steps p.tables e below (s₁.setTop (mkF m 16 #[.val (.int p1), .val (.long q2), .second, .val (.int p3), .val (.int ((((q2.toUInt64 >>> (((21 : Int32) * p3) &&& 0x3f).toInt64.toUInt64).toInt64).toInt32) &&& (2097151 : Int32))), .unset, .unset] [(.int (((((q2.toUInt64 >>> (((21 : Int32) * p3) &&& 0x3f).toInt64.toUInt64).toInt64).toInt32) &&& (2097151 : Int32)) &&& (1 : Int32)))])) _
    refine XS.ifYes X0.here hx rfl (pc0 := 16) (pc' := 29) rfl (hb hby d2_16) rfl ((if0 _ _).trans (feq hc16).2) (by decide) (by decide) ?_
    show Steps p.tables e below (s₁.setTop (mkF m 29 #[.val (.int p1), .val (.long q2), .second, .val (.int p3), .val (.int ((((q2.toUInt64 >>> (((21 : Int32) * p3) &&& 0x3f).toInt64.toUInt64).toInt64).toInt32) &&& (2097151 : Int32))), .unset, .unset] [])) _
    refine XS.iload X0.here hx rfl (hb hby d2_29) rfl ?_
    show Steps p.tables e below (s₁.setTop (mkF m 31 #[.val (.int p1), .val (.long q2), .second, .val (.int p3), .val (.int ((((q2.toUInt64 >>> (((21 : Int32) * p3) &&& 0x3f).toInt64.toUInt64).toInt64).toInt32) &&& (2097151 : Int32))), .unset, .unset] [(.int ((((q2.toUInt64 >>> (((21 : Int32) * p3) &&& 0x3f).toInt64.toUInt64).toInt64).toInt32) &&& (2097151 : Int32)))])) _
    refine XS.iconst X0.here hx rfl (hb hby d2_31) ?_
    show Steps p.tables e below (s₁.setTop (mkF m 32 #[.val (.int p1), .val (.long q2), .second, .val (.int p3), .val (.int ((((q2.toUInt64 >>> (((21 : Int32) * p3) &&& 0x3f).toInt64.toUInt64).toInt64).toInt32) &&& (2097151 : Int32))), .unset, .unset] [(.int (1 : Int32)), (.int ((((q2.toUInt64 >>> (((21 : Int32) * p3) &&& 0x3f).toInt64.toUInt64).toInt64).toInt32) &&& (2097151 : Int32)))])) _
    refine XS.iushr X0.here hx rfl (hb hby d2_32) rfl ?_
    show Steps p.tables e below (s₁.setTop (mkF m 33 #[.val (.int p1), .val (.long q2), .second, .val (.int p3), .val (.int ((((q2.toUInt64 >>> (((21 : Int32) * p3) &&& 0x3f).toInt64.toUInt64).toInt64).toInt32) &&& (2097151 : Int32))), .unset, .unset] [(.int ((((((q2.toUInt64 >>> (((21 : Int32) * p3) &&& 0x3f).toInt64.toUInt64).toInt64).toInt32) &&& (2097151 : Int32)).toUInt32 >>> ((1 : Int32) &&& 31).toUInt32).toInt32))])) _
    refine XS.i2l X0.here hx rfl (hb hby d2_33) rfl ?_
    show Steps p.tables e below (s₁.setTop (mkF m 34 #[.val (.int p1), .val (.long q2), .second, .val (.int p3), .val (.int ((((q2.toUInt64 >>> (((21 : Int32) * p3) &&& 0x3f).toInt64.toUInt64).toInt64).toInt32) &&& (2097151 : Int32))), .unset, .unset] [(.long (((((((q2.toUInt64 >>> (((21 : Int32) * p3) &&& 0x3f).toInt64.toUInt64).toInt64).toInt32) &&& (2097151 : Int32)).toUInt32 >>> ((1 : Int32) &&& 31).toUInt32).toInt32).toInt64))])) _
    refine XS.lstore X0.here hx rfl (hb hby d2_34) rfl (l' := #[.val (.int p1), .val (.long q2), .second, .val (.int p3), .val (.int ((((q2.toUInt64 >>> (((21 : Int32) * p3) &&& 0x3f).toInt64.toUInt64).toInt64).toInt32) &&& (2097151 : Int32))), .val (.long (((((((q2.toUInt64 >>> (((21 : Int32) * p3) &&& 0x3f).toInt64.toUInt64).toInt64).toInt32) &&& (2097151 : Int32)).toUInt32 >>> ((1 : Int32) &&& 31).toUInt32).toInt32).toInt64)), .second]) rfl ?_
    show Steps p.tables e below (s₁.setTop (mkF m 36 #[.val (.int p1), .val (.long q2), .second, .val (.int p3), .val (.int ((((q2.toUInt64 >>> (((21 : Int32) * p3) &&& 0x3f).toInt64.toUInt64).toInt64).toInt32) &&& (2097151 : Int32))), .val (.long (((((((q2.toUInt64 >>> (((21 : Int32) * p3) &&& 0x3f).toInt64.toUInt64).toInt64).toInt32) &&& (2097151 : Int32)).toUInt32 >>> ((1 : Int32) &&& 31).toUInt32).toInt32).toInt64)), .second] [])) _
    refine XS.iloadN X0.here hx rfl (hb hby d2_36) rfl ?_
    show Steps p.tables e below (s₁.setTop (mkF m 37 #[.val (.int p1), .val (.long q2), .second, .val (.int p3), .val (.int ((((q2.toUInt64 >>> (((21 : Int32) * p3) &&& 0x3f).toInt64.toUInt64).toInt64).toInt32) &&& (2097151 : Int32))), .val (.long (((((((q2.toUInt64 >>> (((21 : Int32) * p3) &&& 0x3f).toInt64.toUInt64).toInt64).toInt32) &&& (2097151 : Int32)).toUInt32 >>> ((1 : Int32) &&& 31).toUInt32).toInt32).toInt64)), .second] [(.int p1)])) _
    refine XS.i2l X0.here hx rfl (hb hby d2_37) rfl ?_
    show Steps p.tables e below (s₁.setTop (mkF m 38 #[.val (.int p1), .val (.long q2), .second, .val (.int p3), .val (.int ((((q2.toUInt64 >>> (((21 : Int32) * p3) &&& 0x3f).toInt64.toUInt64).toInt64).toInt32) &&& (2097151 : Int32))), .val (.long (((((((q2.toUInt64 >>> (((21 : Int32) * p3) &&& 0x3f).toInt64.toUInt64).toInt64).toInt32) &&& (2097151 : Int32)).toUInt32 >>> ((1 : Int32) &&& 31).toUInt32).toInt32).toInt64)), .second] [(.long (p1.toInt64))])) _
    refine XS.lload X0.here hx rfl (hb hby d2_38) rfl ?_
    show Steps p.tables e below (s₁.setTop (mkF m 40 #[.val (.int p1), .val (.long q2), .second, .val (.int p3), .val (.int ((((q2.toUInt64 >>> (((21 : Int32) * p3) &&& 0x3f).toInt64.toUInt64).toInt64).toInt32) &&& (2097151 : Int32))), .val (.long (((((((q2.toUInt64 >>> (((21 : Int32) * p3) &&& 0x3f).toInt64.toUInt64).toInt64).toInt32) &&& (2097151 : Int32)).toUInt32 >>> ((1 : Int32) &&& 31).toUInt32).toInt32).toInt64)), .second] [(.long (((((((q2.toUInt64 >>> (((21 : Int32) * p3) &&& 0x3f).toInt64.toUInt64).toInt64).toInt32) &&& (2097151 : Int32)).toUInt32 >>> ((1 : Int32) &&& 31).toUInt32).toInt32).toInt64)), (.long (p1.toInt64))])) _
    refine XS.ladd X0.here hx rfl (hb hby d2_40) rfl ?_
    show Steps p.tables e below (s₁.setTop (mkF m 41 #[.val (.int p1), .val (.long q2), .second, .val (.int p3), .val (.int ((((q2.toUInt64 >>> (((21 : Int32) * p3) &&& 0x3f).toInt64.toUInt64).toInt64).toInt32) &&& (2097151 : Int32))), .val (.long (((((((q2.toUInt64 >>> (((21 : Int32) * p3) &&& 0x3f).toInt64.toUInt64).toInt64).toInt32) &&& (2097151 : Int32)).toUInt32 >>> ((1 : Int32) &&& 31).toUInt32).toInt32).toInt64)), .second] [(.long ((p1.toInt64) + (((((((q2.toUInt64 >>> (((21 : Int32) * p3) &&& 0x3f).toInt64.toUInt64).toInt64).toInt32) &&& (2097151 : Int32)).toUInt32 >>> ((1 : Int32) &&& 31).toUInt32).toInt32).toInt64)))])) _
    refine X0.ldc2Long hx hown (mvT hZ (hw _ (List.mem_of_getElem? (i := 10) rfl))) (g := (mkF m 41 #[.val (.int p1), .val (.long q2), .second, .val (.int p3), .val (.int ((((q2.toUInt64 >>> (((21 : Int32) * p3) &&& 0x3f).toInt64.toUInt64).toInt64).toInt32) &&& (2097151 : Int32))), .val (.long (((((((q2.toUInt64 >>> (((21 : Int32) * p3) &&& 0x3f).toInt64.toUInt64).toInt64).toInt32) &&& (2097151 : Int32)).toUInt32 >>> ((1 : Int32) &&& 31).toUInt32).toInt32).toInt64)), .second] [(.long ((p1.toInt64) + (((((((q2.toUInt64 >>> (((21 : Int32) * p3) &&& 0x3f).toInt64.toUInt64).toInt64).toInt32) &&& (2097151 : Int32)).toUInt32 >>> ((1 : Int32) &&& 31).toUInt32).toInt32).toInt64)))])) rfl (hb hby d2_41) _ ?_
    show Steps p.tables e below (s₁.setTop (mkF m 44 #[.val (.int p1), .val (.long q2), .second, .val (.int p3), .val (.int ((((q2.toUInt64 >>> (((21 : Int32) * p3) &&& 0x3f).toInt64.toUInt64).toInt64).toInt32) &&& (2097151 : Int32))), .val (.long (((((((q2.toUInt64 >>> (((21 : Int32) * p3) &&& 0x3f).toInt64.toUInt64).toInt64).toInt32) &&& (2097151 : Int32)).toUInt32 >>> ((1 : Int32) &&& 31).toUInt32).toInt32).toInt64)), .second] [(.long (2147483647 : Int64)), (.long ((p1.toInt64) + (((((((q2.toUInt64 >>> (((21 : Int32) * p3) &&& 0x3f).toInt64.toUInt64).toInt64).toInt32) &&& (2097151 : Int32)).toUInt32 >>> ((1 : Int32) &&& 31).toUInt32).toInt32).toInt64)))])) _
    refine st4 _ ?_
    show Steps p.tables e below (T4.setTop (mkF m 47 #[.val (.int p1), .val (.long q2), .second, .val (.int p3), .val (.int ((((q2.toUInt64 >>> (((21 : Int32) * p3) &&& 0x3f).toInt64.toUInt64).toInt64).toInt32) &&& (2097151 : Int32))), .val (.long (((((((q2.toUInt64 >>> (((21 : Int32) * p3) &&& 0x3f).toInt64.toUInt64).toInt64).toInt32) &&& (2097151 : Int32)).toUInt32 >>> ((1 : Int32) &&& 31).toUInt32).toInt32).toInt64)), .second] [(.long (own_minL ((p1.toInt64) + (((((((q2.toUInt64 >>> (((21 : Int32) * p3) &&& 0x3f).toInt64.toUInt64).toInt64).toInt32) &&& (2097151 : Int32)).toUInt32 >>> ((1 : Int32) &&& 31).toUInt32).toInt32).toInt64)) (2147483647 : Int64)))])) _
    refine XS.l2i X4.here hx rfl (hb hby d2_47) rfl ?_
    show Steps p.tables e below (T4.setTop (mkF m 48 #[.val (.int p1), .val (.long q2), .second, .val (.int p3), .val (.int ((((q2.toUInt64 >>> (((21 : Int32) * p3) &&& 0x3f).toInt64.toUInt64).toInt64).toInt32) &&& (2097151 : Int32))), .val (.long (((((((q2.toUInt64 >>> (((21 : Int32) * p3) &&& 0x3f).toInt64.toUInt64).toInt64).toInt32) &&& (2097151 : Int32)).toUInt32 >>> ((1 : Int32) &&& 31).toUInt32).toInt32).toInt64)), .second] [(.int ((own_minL ((p1.toInt64) + (((((((q2.toUInt64 >>> (((21 : Int32) * p3) &&& 0x3f).toInt64.toUInt64).toInt64).toInt32) &&& (2097151 : Int32)).toUInt32 >>> ((1 : Int32) &&& 31).toUInt32).toInt32).toInt64)) (2147483647 : Int64)).toInt32))])) _
    exact retI X4 hx Bd.returns (hb hby d2_48) hr
  · show Q2 Z p1 q2 p3 h0 n0 _ T4.heap _
    exact ⟨_, rfl, own_nextI _ _ (own_gap1 _).1 (own_gap1 _).2, N4, e4q⟩
set_option maxRecDepth 65536 in
set_option maxHeartbeats 40000000 in
theorem rm2 (l : Launch) (Z : State) (a0 : Array Value) (hw : ∀ d ∈ tables_1, d.before a0 Z = true) (ws : List Jvm.Cond) (p1 : Int32) (q2 : Int64) (p3 : Int32) (h0 : Heap) (n0 : Nat) (Z0 : n0 ≤ h0.size) :
    MetFree l (⟨"com/example/umbel/umbel/query/OccurrencesFirstUnusedAfterPinLaw", "next", "(IJI)I"⟩ : MethodName) (head1 (Jvm.Cond.code (⟨"com/example/umbel/umbel/query/OccurrencesFirstUnusedAfterPinLaw", "next", "(IJI)I"⟩ : MethodName) method_3_code 7 (some .int) :: ws) ({ frames := 1, cells := 0, slots := 0, locals := 15 } : Room)) (fun a U => a = #[(.int p1), (.long q2), (.int p3)] ∧ Z.Warmed39 U.vm ∧ U.heap = h0) (fun _ _ _ _ _ => True) (fun _ U o U' => ∃ v L, o = .returned v ∧ Q2 Z p1 q2 p3 h0 n0 v U'.heap L ∧ FrameEnd U o U' L ({ frames := 1, cells := 0, slots := 0, locals := 15 } : Room).cells ({ frames := 1, cells := 0, slots := 0, locals := 15 } : Room).slots) := by
  by_cases c1 : (((((q2.toUInt64 >>> (((21 : Int32) * p3) &&& 0x3f).toInt64.toUInt64).toInt64).toInt32) &&& (2097151 : Int32)) &&& (1 : Int32)) = (0 : Int32)
  · exact rm2_f l Z a0 hw ws p1 q2 p3 h0 n0 Z0 c1
  · exact rm2_t l Z a0 hw ws p1 q2 p3 h0 n0 Z0 c1
theorem d7_0 : decode method_4_code 0 = .ok (.iload_n 0, 1) := by decide +kernel
theorem d7_1 : decode method_4_code 1 = .ok (.i2l, 1) := by decide +kernel
theorem d7_2 : decode method_4_code 2 = .ok (.iload_n 1, 1) := by decide +kernel
theorem d7_3 : decode method_4_code 3 = .ok (.i2l, 1) := by decide +kernel
theorem d7_4 : decode method_4_code 4 = .ok (.ladd, 1) := by decide +kernel
theorem d7_5 : decode method_4_code 5 = .ok (.ldc2_w 52, 3) := by decide +kernel
theorem d7_8 : decode method_4_code 8 = .ok (.invokestatic 28, 3) := by decide +kernel
theorem d7_11 : decode method_4_code 11 = .ok (.l2i, 1) := by decide +kernel
theorem d7_12 : decode method_4_code 12 = .ok (.ireturn, 1) := by decide +kernel
theorem pn_7 : plainName "com/example/umbel/umbel/query/OccurrencesFirstUnusedAfterPinLaw" = true := by first | (simp [plainName, overriddenIn]; done) | decide +kernel
theorem pd_7_2 : parseMethodDescriptor "(JJ)J" = some ⟨[.long, .long], some .long⟩ := by decide +kernel
theorem ef_7 (m : MethodId) (x0 : Int32) (x1 : Int32) : entryFrame m #[(.int x0), (.int x1)] 2 = mkF m 0 #[.val (.int x0), .val (.int x1)] [] := by first | (simp [entryFrame, mkF, argsToLocals, Value.category]; done) | rfl
def Q7 (Z : State) (p1 : Int32) (p2 : Int32) (h0 : Heap) (n0 : Nat) (v : Option Value) (h : Heap) (L : List Loc) : Prop := ∃ r : Int32, v = some (.int r) ∧ 0 ≤ r.toInt ∧ Fr n0 L ∧ h = h0
set_option maxRecDepth 65536 in
set_option maxHeartbeats 40000000 in
theorem rm7 (l : Launch) (Z : State) (a0 : Array Value) (hw : ∀ d ∈ tables_1, d.before a0 Z = true) (ws : List Jvm.Cond) (p1 : Int32) (p2 : Int32) (h0 : Heap) (n0 : Nat) (Z0 : n0 ≤ h0.size) (hb0 : 0 ≤ p1.toInt) (ho0 : 0 ≤ p2.toInt) :
    MetFree l (⟨"com/example/umbel/umbel/query/OccurrencesFirstUnusedAfterPinLaw", "end", "(II)I"⟩ : MethodName) (head1 (Jvm.Cond.code (⟨"com/example/umbel/umbel/query/OccurrencesFirstUnusedAfterPinLaw", "end", "(II)I"⟩ : MethodName) method_4_code 2 (some .int) :: ws) ({ frames := 1, cells := 0, slots := 0, locals := 15 } : Room)) (fun a U => a = #[(.int p1), (.int p2)] ∧ Z.Warmed39 U.vm ∧ U.heap = h0) (fun _ _ _ _ _ => True) (fun _ U o U' => ∃ v L, o = .returned v ∧ Q7 Z p1 p2 h0 n0 v U'.heap L ∧ FrameEnd U o U' L ({ frames := 1, cells := 0, slots := 0, locals := 15 } : Room).cells ({ frames := 1, cells := 0, slots := 0, locals := 15 } : Room).slots) := by
  refine MetFree.of_bodySF (plainFor_of_name pn_7) hisR ?_
  intro p e s m args below meth c s₁ Bd hml0 hP hK
  obtain ⟨rfl, hZ, hh⟩ := hP
  have hx := Bd.exec
  have hby := Bd.bytes
  have hml : c.maxLocals = 2 := hml0
  have hown : s.vm.findClass "com/example/umbel/umbel/query/OccurrencesFirstUnusedAfterPinLaw" = some m.cls := findClass_of_methodNamed Bd.named
  have hnm := (name_of_methodNamed Bd.named Bd.method).1
  have X0 : Stand p l e ({ frames := 1, cells := 0, slots := 0, locals := 15 } : Room) s m #[(.int p1), (.int p2)] below meth c s₁ [] 0 0 := Stand.of_body Bd
  have e0 : s₁.heap = h0 := by rw [← hh, Bd.state]; rfl
  have N0 := Fr.nil n0
  have pre0 : ∀ t, Steps p.tables e below (s₁.setTop (mkF m 0 #[.val (.int p1), .val (.int p2)] [])) t → Steps p.tables e below (s₁.setTop (entryFrame m #[(.int p1), (.int p2)] 2)) t := fun t k => castTop (ef_7 m p1 p2) k
  obtain ⟨_, _, ⟨T3, L3, k3, n3⟩, -, X3, ⟨Lc3, hQ3, l3, y3, z3⟩, st3⟩ := Jvm.LawKit.callS X0 hx (y := (⟨"java/lang/Math", "min", "(JJ)J"⟩ : MethodName)) hown (mvT hZ (hw _ (List.mem_of_getElem? (i := 11) rfl))) (mvT hZ (hw _ (List.mem_of_getElem? (i := 12) rfl))) (mvT hZ (hw _ (List.mem_of_getElem? (i := 3) rfl))) (mvT hZ (hw _ (List.mem_of_getElem? (i := 13) rfl))) (by decide) (backOf (W := 0) (rm3 l Z a0 hw [] ((p1.toInt64) + (p2.toInt64)) (2147483647 : Int64) h0 n0 Z0) hZ (hw _ (List.mem_of_getElem? (i := 13) rfl)) (hw _ (List.mem_of_getElem? (i := 3) rfl)) (by decide) (by decide)) (g := (mkF m 8 #[.val (.int p1), .val (.int p2)] [(.long (2147483647 : Int64)), (.long ((p1.toInt64) + (p2.toInt64)))])) rfl (by rw [hml]; rfl) (argsL := [(.long ((p1.toInt64) + (p2.toInt64))), (.long (2147483647 : Int64))]) (rest := []) (lenOf pd_7_2 rfl) rfl (by show 2 * 0 + _ ≤ _; exact Nat.le_of_eq rfl) (hb hby d7_8) (fun _ _ => ⟨rfl, e0, (by decide : 0 + 0 ≤ _), (by decide : 0 + 0 ≤ _)⟩)
  dsimp only [Pt.U, Pt.locs, Pt.cells, Pt.slots] at X3 l3 y3 z3 st3 hQ3
  subst l3 y3 z3
  obtain ⟨rfl, N3q, e3q⟩ := hQ3
  have N3 := Fr.app N0 N3q
  obtain ⟨fs, hr, hrun, hended, hW, hsame⟩ := X3.leave (v := some (.int ((own_minL ((p1.toInt64) + (p2.toInt64)) (2147483647 : Int64)).toInt32))) (fun h => by rw [Bd.returns] at h; cases h)
  refine ⟨_, _, pre0 _ ?_, hrun, hended, _, _, rfl, ?_, ⟨_, rfl⟩, hW, hsame.mono (by decide) (by decide)⟩
  · show Steps p.tables e below (s₁.setTop (mkF m 0 #[.val (.int p1), .val (.int p2)] [])) _
    refine XS.iloadN X0.here hx rfl (hb hby d7_0) rfl ?_
    show Steps p.tables e below (s₁.setTop (mkF m 1 #[.val (.int p1), .val (.int p2)] [(.int p1)])) _
    refine XS.i2l X0.here hx rfl (hb hby d7_1) rfl ?_
    show Steps p.tables e below (s₁.setTop (mkF m 2 #[.val (.int p1), .val (.int p2)] [(.long (p1.toInt64))])) _
    refine XS.iloadN X0.here hx rfl (hb hby d7_2) rfl ?_
    show Steps p.tables e below (s₁.setTop (mkF m 3 #[.val (.int p1), .val (.int p2)] [(.int p2), (.long (p1.toInt64))])) _
    refine XS.i2l X0.here hx rfl (hb hby d7_3) rfl ?_
    show Steps p.tables e below (s₁.setTop (mkF m 4 #[.val (.int p1), .val (.int p2)] [(.long (p2.toInt64)), (.long (p1.toInt64))])) _
    refine XS.ladd X0.here hx rfl (hb hby d7_4) rfl ?_
    show Steps p.tables e below (s₁.setTop (mkF m 5 #[.val (.int p1), .val (.int p2)] [(.long ((p1.toInt64) + (p2.toInt64)))])) _
    refine X0.ldc2Long hx hown (mvT hZ (hw _ (List.mem_of_getElem? (i := 10) rfl))) (g := (mkF m 5 #[.val (.int p1), .val (.int p2)] [(.long ((p1.toInt64) + (p2.toInt64)))])) rfl (hb hby d7_5) _ ?_
    show Steps p.tables e below (s₁.setTop (mkF m 8 #[.val (.int p1), .val (.int p2)] [(.long (2147483647 : Int64)), (.long ((p1.toInt64) + (p2.toInt64)))])) _
    refine st3 _ ?_
    show Steps p.tables e below (T3.setTop (mkF m 11 #[.val (.int p1), .val (.int p2)] [(.long (own_minL ((p1.toInt64) + (p2.toInt64)) (2147483647 : Int64)))])) _
    refine XS.l2i X3.here hx rfl (hb hby d7_11) rfl ?_
    show Steps p.tables e below (T3.setTop (mkF m 12 #[.val (.int p1), .val (.int p2)] [(.int ((own_minL ((p1.toInt64) + (p2.toInt64)) (2147483647 : Int64)).toInt32))])) _
    exact retI X3 hx Bd.returns (hb hby d7_12) hr
  · show Q7 Z p1 p2 h0 n0 _ T3.heap _
    exact ⟨_, rfl, own_endI hb0 ho0, N3, e3q⟩
theorem d9_0 : decode prog_113_method_11_code 0 = .ok (.iload_n 0, 1) := by decide +kernel
theorem d9_1 : decode prog_113_method_11_code 1 = .ok (.i2l, 1) := by decide +kernel
theorem d9_2 : decode prog_113_method_11_code 2 = .ok (.bipush 32, 2) := by decide +kernel
theorem d9_4 : decode prog_113_method_11_code 4 = .ok (.lshl, 1) := by decide +kernel
theorem d9_5 : decode prog_113_method_11_code 5 = .ok (.iload_n 1, 1) := by decide +kernel
theorem d9_6 : decode prog_113_method_11_code 6 = .ok (.i2l, 1) := by decide +kernel
theorem d9_7 : decode prog_113_method_11_code 7 = .ok (.lor, 1) := by decide +kernel
theorem d9_8 : decode prog_113_method_11_code 8 = .ok (.lreturn, 1) := by decide +kernel
theorem pn_9 : plainName "com/example/umbel/umbel/query/Occurrences" = true := by first | (simp [plainName, overriddenIn]; done) | decide +kernel
theorem ef_9 (m : MethodId) (x0 : Int32) (x1 : Int32) : entryFrame m #[(.int x0), (.int x1)] 2 = mkF m 0 #[.val (.int x0), .val (.int x1)] [] := by first | (simp [entryFrame, mkF, argsToLocals, Value.category]; done) | rfl
def Q9 (Z : State) (p1 : Int32) (p2 : Int32) (h0 : Heap) (n0 : Nat) (v : Option Value) (h : Heap) (L : List Loc) : Prop := v = some (.long (own_ext p1 p2)) ∧ Fr n0 L ∧ h = h0
set_option maxRecDepth 65536 in
set_option maxHeartbeats 40000000 in
theorem rm9 (l : Launch) (Z : State) (a0 : Array Value) (hw : ∀ d ∈ tables_1, d.before a0 Z = true) (ws : List Jvm.Cond) (p1 : Int32) (p2 : Int32) (h0 : Heap) (n0 : Nat) (Z0 : n0 ≤ h0.size) :
    MetFree l (⟨"com/example/umbel/umbel/query/Occurrences", "extent", "(II)J"⟩ : MethodName) (head1 (Jvm.Cond.code (⟨"com/example/umbel/umbel/query/Occurrences", "extent", "(II)J"⟩ : MethodName) prog_113_method_11_code 2 (some .long) :: ws) ({ frames := 0, cells := 0, slots := 0, locals := 0 } : Room)) (fun a U => a = #[(.int p1), (.int p2)] ∧ Z.Warmed39 U.vm ∧ U.heap = h0) (fun _ _ _ _ _ => True) (fun _ U o U' => ∃ v L, o = .returned v ∧ Q9 Z p1 p2 h0 n0 v U'.heap L ∧ FrameEnd U o U' L ({ frames := 0, cells := 0, slots := 0, locals := 0 } : Room).cells ({ frames := 0, cells := 0, slots := 0, locals := 0 } : Room).slots) := by
  refine MetFree.of_bodySF (plainFor_of_name pn_9) hisR ?_
  intro p e s m args below meth c s₁ Bd hml0 hP hK
  obtain ⟨rfl, hZ, hh⟩ := hP
  have hx := Bd.exec
  have hby := Bd.bytes
  have hml : c.maxLocals = 2 := hml0
  have hown : s.vm.findClass "com/example/umbel/umbel/query/Occurrences" = some m.cls := findClass_of_methodNamed Bd.named
  have hnm := (name_of_methodNamed Bd.named Bd.method).1
  have X0 : Stand p l e ({ frames := 0, cells := 0, slots := 0, locals := 0 } : Room) s m #[(.int p1), (.int p2)] below meth c s₁ [] 0 0 := Stand.of_body Bd
  have e0 : s₁.heap = h0 := by rw [← hh, Bd.state]; rfl
  have N0 := Fr.nil n0
  have pre0 : ∀ t, Steps p.tables e below (s₁.setTop (mkF m 0 #[.val (.int p1), .val (.int p2)] [])) t → Steps p.tables e below (s₁.setTop (entryFrame m #[(.int p1), (.int p2)] 2)) t := fun t k => castTop (ef_9 m p1 p2) k
  obtain ⟨fs, hr, hrun, hended, hW, hsame⟩ := X0.leave (v := some (.long (((p1.toInt64) <<< ((32 : Int32) &&& 0x3f).toInt64) ||| (p2.toInt64)))) (fun h => by rw [Bd.returns] at h; cases h)
  refine ⟨_, _, pre0 _ ?_, hrun, hended, _, _, rfl, ?_, ⟨_, rfl⟩, hW, hsame.mono (by decide) (by decide)⟩
  · show Steps p.tables e below (s₁.setTop (mkF m 0 #[.val (.int p1), .val (.int p2)] [])) _
    refine XS.iloadN X0.here hx rfl (hb hby d9_0) rfl ?_
    show Steps p.tables e below (s₁.setTop (mkF m 1 #[.val (.int p1), .val (.int p2)] [(.int p1)])) _
    refine XS.i2l X0.here hx rfl (hb hby d9_1) rfl ?_
    show Steps p.tables e below (s₁.setTop (mkF m 2 #[.val (.int p1), .val (.int p2)] [(.long (p1.toInt64))])) _
    refine XS.bipush X0.here hx rfl (hb hby d9_2) ?_
    show Steps p.tables e below (s₁.setTop (mkF m 4 #[.val (.int p1), .val (.int p2)] [(.int (32 : Int32)), (.long (p1.toInt64))])) _
    refine XS.lshl X0.here hx rfl (hb hby d9_4) rfl ?_
    show Steps p.tables e below (s₁.setTop (mkF m 5 #[.val (.int p1), .val (.int p2)] [(.long ((p1.toInt64) <<< ((32 : Int32) &&& 0x3f).toInt64))])) _
    refine XS.iloadN X0.here hx rfl (hb hby d9_5) rfl ?_
    show Steps p.tables e below (s₁.setTop (mkF m 6 #[.val (.int p1), .val (.int p2)] [(.int p2), (.long ((p1.toInt64) <<< ((32 : Int32) &&& 0x3f).toInt64))])) _
    refine XS.i2l X0.here hx rfl (hb hby d9_6) rfl ?_
    show Steps p.tables e below (s₁.setTop (mkF m 7 #[.val (.int p1), .val (.int p2)] [(.long (p2.toInt64)), (.long ((p1.toInt64) <<< ((32 : Int32) &&& 0x3f).toInt64))])) _
    refine XS.lor X0.here hx rfl (hb hby d9_7) rfl ?_
    show Steps p.tables e below (s₁.setTop (mkF m 8 #[.val (.int p1), .val (.int p2)] [(.long (((p1.toInt64) <<< ((32 : Int32) &&& 0x3f).toInt64) ||| (p2.toInt64)))])) _
    exact retJ X0 hx Bd.returns (hb hby d9_8) hr
  · show Q9 Z p1 p2 h0 n0 _ s₁.heap _
    rw [e0]
    exact ⟨rfl, N0, rfl⟩
theorem d5_0 : decode prog_113_method_1_code 0 = .ok (.aload_n 0, 1) := by decide +kernel
theorem d5_1 : decode prog_113_method_1_code 1 = .ok (.invokespecial 1, 3) := by decide +kernel
theorem d5_4 : decode prog_113_method_1_code 4 = .ok (.aload_n 0, 1) := by decide +kernel
theorem d5_5 : decode prog_113_method_1_code 5 = .ok (.bipush 8, 2) := by decide +kernel
theorem d5_7 : decode prog_113_method_1_code 7 = .ok (.newarray .long, 2) := by decide +kernel
theorem d5_9 : decode prog_113_method_1_code 9 = .ok (.putfield 7, 3) := by decide +kernel
theorem d5_12 : decode prog_113_method_1_code 12 = .ok (.aload_n 0, 1) := by decide +kernel
theorem d5_13 : decode prog_113_method_1_code 13 = .ok (.bipush 8, 2) := by decide +kernel
theorem d5_15 : decode prog_113_method_1_code 15 = .ok (.newarray .boolean, 2) := by decide +kernel
theorem d5_17 : decode prog_113_method_1_code 17 = .ok (.putfield 13, 3) := by decide +kernel
theorem d5_20 : decode prog_113_method_1_code 20 = .ok (.return_, 1) := by decide +kernel
theorem pn_5 : plainName "com/example/umbel/umbel/query/Occurrences" = true := by first | (simp [plainName, overriddenIn]; done) | decide +kernel
theorem ef_5 (m : MethodId) (x0 : Addr) : entryFrame m #[(.ref x0)] 1 = mkF m 0 #[.val (.ref x0)] [] := by first | (simp [entryFrame, mkF, argsToLocals, Value.category]; done) | rfl
def Q5 (Z : State) (a1 : Addr) (u_extents_a1 : Value) (u_used_a1 : Value) (h0 : Heap) (n0 : Nat) (v : Option Value) (h : Heap) (L : List Loc) : Prop := v = none ∧ Fr n0 L ∧ ∃ ea ua : Addr, own_O Z h n0 a1 ea ua (0 : Int32) (fun _ => 0) (fun _ => 0)
set_option maxRecDepth 65536 in
set_option maxHeartbeats 40000000 in
theorem rm5 (l : Launch) (Z : State) (a0 : Array Value) (hw : ∀ d ∈ tables_1, d.before a0 Z = true) (ws : List Jvm.Cond) (a1 : Addr) (u_extents_a1 : Value) (u_used_a1 : Value) (h0 : Heap) (n0 : Nat) (Z0 : n0 ≤ h0.size) (E_a1 : Exa Z h0 a1 "com/example/umbel/umbel/query/Occurrences") (F_extents_a1 : Fld Z h0 a1 "com/example/umbel/umbel/query/Occurrences" "extents" "[J" u_extents_a1) (g_a1 : n0 ≤ a1) (F_used_a1 : Fld Z h0 a1 "com/example/umbel/umbel/query/Occurrences" "used" "[Z" u_used_a1) (F_size_a1 : Fld Z h0 a1 "com/example/umbel/umbel/query/Occurrences" "size" "I" (.int (0 : Int32))) :
    MetFree l (⟨"com/example/umbel/umbel/query/Occurrences", "<init>", "()V"⟩ : MethodName) (head1 (Jvm.Cond.code (⟨"com/example/umbel/umbel/query/Occurrences", "<init>", "()V"⟩ : MethodName) prog_113_method_1_code 1 none :: ws) ({ frames := 1, cells := 2, slots := 16, locals := 12 } : Room)) (fun a U => a = #[(.ref a1)] ∧ Z.Warmed39 U.vm ∧ U.heap = h0) (fun _ _ _ _ _ => True) (fun _ U o U' => ∃ v L, o = .returned v ∧ Q5 Z a1 u_extents_a1 u_used_a1 h0 n0 v U'.heap L ∧ FrameEnd U o U' L ({ frames := 1, cells := 2, slots := 16, locals := 12 } : Room).cells ({ frames := 1, cells := 2, slots := 16, locals := 12 } : Room).slots) := by
  refine MetFree.of_bodySF (plainFor_of_name pn_5) hisR ?_
  intro p e s m args below meth c s₁ Bd hml0 hP hK
  obtain ⟨rfl, hZ, hh⟩ := hP
  have hx := Bd.exec
  have hby := Bd.bytes
  have hml : c.maxLocals = 1 := hml0
  have hown : s.vm.findClass "com/example/umbel/umbel/query/Occurrences" = some m.cls := findClass_of_methodNamed Bd.named
  have hnm := (name_of_methodNamed Bd.named Bd.method).1
  have X0 : Stand p l e ({ frames := 1, cells := 2, slots := 16, locals := 12 } : Room) s m #[(.ref a1)] below meth c s₁ [] 0 0 := Stand.of_body Bd
  have e0 : s₁.heap = h0 := by rw [← hh, Bd.state]; rfl
  have N0 := Fr.nil n0
  have pre0 : ∀ t, Steps p.tables e below (s₁.setTop (mkF m 0 #[.val (.ref a1)] [])) t → Steps p.tables e below (s₁.setTop (entryFrame m #[(.ref a1)] 1)) t := fun t k => castTop (ef_5 m a1) k
  obtain ⟨T2, X2, e2, st2⟩ := initO X0 hx hZ hown (hw _ (List.mem_of_getElem? (i := 24) rfl)) (hw _ (List.mem_of_getElem? (i := 25) rfl)) (hw _ (List.mem_of_getElem? (i := 26) rfl)) e0 (g := (mkF m 1 #[.val (.ref a1)] [(.ref a1)])) rfl (by rw [hml]; rfl) rfl (hb hby d5_1) (by decide) (W := 0) (by show 2 * 0 + _ ≤ _; exact Nat.le_of_eq rfl) (by decide)
  obtain ⟨T3, h3, k3, X3, e3, E3, A3, st3⟩ := newP X2 hx hZ (hw _ (List.mem_of_getElem? (i := 27) rfl)) e2 (g := (mkF m 7 #[.val (.ref a1)] [(.int (8 : Int32)), (.ref a1)])) rfl (hb hby d5_7) rfl (by decide) (cap := 8) (by decide) (by decide) (by decide) (by decide)
  obtain ⟨b3, g3⟩ : ∃ z, z = h0.size := ⟨_, rfl⟩
  rw [← g3] at A3 st3
  have V_b3 : Arv Z h3 b3 k3 .long (8 : Int32) [(.long (0 : Int64)), (.long (0 : Int64)), (.long (0 : Int64)), (.long (0 : Int64)), (.long (0 : Int64)), (.long (0 : Int64)), (.long (0 : Int64)), (.long (0 : Int64))] (.long (0 : Int64)) := (Arv.new A3 (by decide)).pad (pad_rep [] (.long (0 : Int64)) 8)
  have g_b3 : n0 ≤ b3 := Nat.le_trans Z0 (Nat.le_of_eq g3.symm)
  have sz_b3 : h0.size ≤ b3 := (Nat.le_trans (Keep.refl h0 [a1]).1 (Nat.le_of_eq g3.symm))
  have K3 : Keep h0 h3 [a1] := (Keep.refl h0 [a1]).ext E3
  obtain ⟨T4, h4, X4, e4, W4, st4⟩ := putF X3 hx hZ hown (host := "") (Or.inl (hw _ (List.mem_of_getElem? (i := 28) rfl))) Via.refl e3 (F_extents_a1.ext E3) (E_a1.ext E3) (Or.inl (hw _ (List.mem_of_getElem? (i := 29) rfl))) (hw _ (List.mem_of_getElem? (i := 19) rfl)) (ty := (.array .long)) (by decide) rfl rfl (g := (mkF m 9 #[.val (.ref a1)] [(.ref b3), (.ref a1)])) rfl rfl (hb hby d5_9)
  have Fw4 := (F_extents_a1.ext E3).same W4
  have K4 : Keep h0 h4 [a1] := K3.wr W4 (Or.inl (List.mem_of_getElem? (i := 0) rfl))
  have N4 := Fr.snoc X4 N0 g_a1
  obtain ⟨T5, h5, k5, X5, e5, E5, A5, st5⟩ := newP X4 hx hZ (hw _ (List.mem_of_getElem? (i := 30) rfl)) e4 (g := (mkF m 15 #[.val (.ref a1)] [(.int (8 : Int32)), (.ref a1)])) rfl (hb hby d5_15) rfl (by decide) (cap := 8) (by decide) (by decide) (by decide) (by decide)
  obtain ⟨b5, g5⟩ : ∃ z, z = h4.size := ⟨_, rfl⟩
  rw [← g5] at A5 st5
  have V_b5 : Arv Z h5 b5 k5 .boolean (8 : Int32) [(.int (0 : Int32)), (.int (0 : Int32)), (.int (0 : Int32)), (.int (0 : Int32)), (.int (0 : Int32)), (.int (0 : Int32)), (.int (0 : Int32)), (.int (0 : Int32))] (.int (0 : Int32)) := (Arv.new A5 (by decide)).pad (pad_rep [] (.int (0 : Int32)) 8)
  have g_b5 : n0 ≤ b5 := Nat.le_trans (Nat.le_trans (Nat.le_trans Z0 E3.1) (Keep.of_wr W4).1) (Nat.le_of_eq g5.symm)
  have sz_b5 : h0.size ≤ b5 := (Nat.le_trans K4.1 (Nat.le_of_eq g5.symm))
  have K5 : Keep h0 h5 [a1] := K4.ext E5
  obtain ⟨T6, h6, X6, e6, W6, st6⟩ := putF X5 hx hZ hown (host := "") (Or.inl (hw _ (List.mem_of_getElem? (i := 31) rfl))) Via.refl e5 (((F_used_a1.ext E3).other W4 (Or.inr (slot_ne (Or.inl (hw _ (List.mem_of_getElem? (i := 32) rfl))) (Or.inl (hw _ (List.mem_of_getElem? (i := 29) rfl))) (by decide) (t := (.array .boolean)) (t' := (.array .long)) (by decide) (by decide)))).ext E5) (((E_a1.ext E3).wr W4).ext E5) (Or.inl (hw _ (List.mem_of_getElem? (i := 32) rfl))) (hw _ (List.mem_of_getElem? (i := 19) rfl)) (ty := (.array .boolean)) (by decide) rfl rfl (g := (mkF m 17 #[.val (.ref a1)] [(.ref b5), (.ref a1)])) rfl rfl (hb hby d5_17)
  have Fw6 := (((F_used_a1.ext E3).other W4 (Or.inr (slot_ne (Or.inl (hw _ (List.mem_of_getElem? (i := 32) rfl))) (Or.inl (hw _ (List.mem_of_getElem? (i := 29) rfl))) (by decide) (t := (.array .boolean)) (t' := (.array .long)) (by decide) (by decide)))).ext E5).same W6
  have K6 : Keep h0 h6 [a1] := K5.wr W6 (Or.inl (List.mem_of_getElem? (i := 0) rfl))
  have N6 := Fr.snoc X6 N4 g_a1
  obtain ⟨fs, hr, hrun, hended, hW, hsame⟩ := X6.leave (v := none) (fun _ => rfl)
  refine ⟨_, _, pre0 _ ?_, hrun, hended, _, _, rfl, ?_, ⟨_, rfl⟩, hW, hsame.mono (by decide) (by decide)⟩
  · show Steps p.tables e below (s₁.setTop (mkF m 0 #[.val (.ref a1)] [])) _
    refine XS.aloadN X0.here hx rfl (hb hby d5_0) rfl rfl ?_
    show Steps p.tables e below (s₁.setTop (mkF m 1 #[.val (.ref a1)] [(.ref a1)])) _
    refine st2 _ ?_
    show Steps p.tables e below (T2.setTop (mkF m 4 #[.val (.ref a1)] [])) _
    refine XS.aloadN X2.here hx rfl (hb hby d5_4) rfl rfl ?_
    show Steps p.tables e below (T2.setTop (mkF m 5 #[.val (.ref a1)] [(.ref a1)])) _
    refine XS.bipush X2.here hx rfl (hb hby d5_5) ?_
    show Steps p.tables e below (T2.setTop (mkF m 7 #[.val (.ref a1)] [(.int (8 : Int32)), (.ref a1)])) _
    refine st3 _ ?_
    show Steps p.tables e below (T3.setTop (mkF m 9 #[.val (.ref a1)] [(.ref b3), (.ref a1)])) _
    refine st4 _ ?_
    show Steps p.tables e below (T4.setTop (mkF m 12 #[.val (.ref a1)] [])) _
    refine XS.aloadN X4.here hx rfl (hb hby d5_12) rfl rfl ?_
    show Steps p.tables e below (T4.setTop (mkF m 13 #[.val (.ref a1)] [(.ref a1)])) _
    refine XS.bipush X4.here hx rfl (hb hby d5_13) ?_
    show Steps p.tables e below (T4.setTop (mkF m 15 #[.val (.ref a1)] [(.int (8 : Int32)), (.ref a1)])) _
    refine st5 _ ?_
    show Steps p.tables e below (T5.setTop (mkF m 17 #[.val (.ref a1)] [(.ref b5), (.ref a1)])) _
    refine st6 _ ?_
    show Steps p.tables e below (T6.setTop (mkF m 20 #[.val (.ref a1)] [])) _
    exact X6.returnOut hx Bd.returns (hb hby d5_20) hr
  · show Q5 Z a1 u_extents_a1 u_used_a1 h0 n0 _ T6.heap _
    rw [e6]
    have ne1 : a1 ≠ b3 := Nat.ne_of_lt (Nat.lt_of_lt_of_le E_a1.lt (Nat.le_of_eq g3.symm))
    have V3 : own_A Z h3 b3 .long 8 (fun _ => .long (0 : Int64)) := own_congr (own_ofV V_b3) (fun j hj => by
      match j, hj with
      | 0, _ => rfl
      | 1, _ => rfl
      | 2, _ => rfl
      | 3, _ => rfl
      | 4, _ => rfl
      | 5, _ => rfl
      | 6, _ => rfl
      | 7, _ => rfl
      | n + 8, h => exact absurd h (by have e : (8 : Int32).toNatClampNeg = 8 := by decide
                                       omega))
    have V4 := own_other V3 W4 ne1.symm
    have ne2 : a1 ≠ b5 := Nat.ne_of_lt (Nat.lt_of_lt_of_le ((E_a1.ext E3).wr W4).lt (Nat.le_of_eq g5.symm))
    have ne3 : b3 ≠ b5 := Nat.ne_of_lt (Nat.lt_of_lt_of_le (own_Alt V4) (Nat.le_of_eq g5.symm))
    have V5 : own_A Z h5 b5 .boolean 8 (fun _ => .int (0 : Int32)) := own_congr (own_ofV V_b5) (fun j hj => by
      match j, hj with
      | 0, _ => rfl
      | 1, _ => rfl
      | 2, _ => rfl
      | 3, _ => rfl
      | 4, _ => rfl
      | 5, _ => rfl
      | 6, _ => rfl
      | 7, _ => rfl
      | n + 8, h => exact absurd h (by have e : (8 : Int32).toNatClampNeg = 8 := by decide
                                       omega))
    exact ⟨rfl, N6, b3, b5, ((((E_a1.ext E3).wr W4).ext E5).wr W6), ((Fw4.ext E5).other W6 (Or.inr (slot_ne (Or.inl (hw _ (List.mem_of_getElem? (i := 29) rfl))) (Or.inl (hw _ (List.mem_of_getElem? (i := 32) rfl))) (by decide) (t := (.array .long)) (t' := (.array .boolean)) (by decide) (by decide)))), Fw6, ((((F_size_a1.ext E3).other W4 (Or.inr (slot_ne (Or.inl (hw _ (List.mem_of_getElem? (i := 42) rfl))) (Or.inl (hw _ (List.mem_of_getElem? (i := 29) rfl))) (by decide) (t := .int) (t' := (.array .long)) (by decide) (by decide)))).ext E5).other W6 (Or.inr (slot_ne (Or.inl (hw _ (List.mem_of_getElem? (i := 42) rfl))) (Or.inl (hw _ (List.mem_of_getElem? (i := 32) rfl))) (by decide) (t := .int) (t' := (.array .boolean)) (by decide) (by decide)))), own_other (own_Aext V4 E5) W6 ne1.symm, own_other V5 W6 ne2.symm, ⟨ne1, ne2, ne3⟩, ⟨g_a1, g_b3, g_b5⟩, Nat.le_trans Z0 K6.1⟩
theorem d8_0 : decode prog_113_method_3_code 0 = .ok (.aload_n 0, 1) := by decide +kernel
theorem d8_1 : decode prog_113_method_3_code 1 = .ok (.getfield 17, 3) := by decide +kernel
theorem d8_4 : decode prog_113_method_3_code 4 = .ok (.aload_n 0, 1) := by decide +kernel
theorem d8_5 : decode prog_113_method_3_code 5 = .ok (.getfield 7, 3) := by decide +kernel
theorem d8_8 : decode prog_113_method_3_code 8 = .ok (.arraylength, 1) := by decide +kernel
theorem d8_9 : decode prog_113_method_3_code 9 = .ok (.if_icmp .ne 37, 3) := by decide +kernel
theorem d8_46 : decode prog_113_method_3_code 46 = .ok (.aload_n 0, 1) := by decide +kernel
theorem d8_47 : decode prog_113_method_3_code 47 = .ok (.getfield 7, 3) := by decide +kernel
theorem d8_50 : decode prog_113_method_3_code 50 = .ok (.aload_n 0, 1) := by decide +kernel
theorem d8_51 : decode prog_113_method_3_code 51 = .ok (.getfield 17, 3) := by decide +kernel
theorem d8_54 : decode prog_113_method_3_code 54 = .ok (.iload_n 1, 1) := by decide +kernel
theorem d8_55 : decode prog_113_method_3_code 55 = .ok (.iload_n 2, 1) := by decide +kernel
theorem d8_56 : decode prog_113_method_3_code 56 = .ok (.invokestatic 34, 3) := by decide +kernel
theorem d8_59 : decode prog_113_method_3_code 59 = .ok (.lastore, 1) := by decide +kernel
theorem d8_60 : decode prog_113_method_3_code 60 = .ok (.aload_n 0, 1) := by decide +kernel
theorem d8_61 : decode prog_113_method_3_code 61 = .ok (.dup, 1) := by decide +kernel
theorem d8_62 : decode prog_113_method_3_code 62 = .ok (.getfield 17, 3) := by decide +kernel
theorem d8_65 : decode prog_113_method_3_code 65 = .ok (.iconst 1, 1) := by decide +kernel
theorem d8_66 : decode prog_113_method_3_code 66 = .ok (.iadd, 1) := by decide +kernel
theorem d8_67 : decode prog_113_method_3_code 67 = .ok (.putfield 17, 3) := by decide +kernel
theorem d8_70 : decode prog_113_method_3_code 70 = .ok (.return_, 1) := by decide +kernel
theorem pn_8 : plainName "com/example/umbel/umbel/query/Occurrences" = true := by first | (simp [plainName, overriddenIn]; done) | decide +kernel
theorem pd_8_5 : parseMethodDescriptor "(II)J" = some ⟨[.int, .int], some .long⟩ := by decide +kernel
theorem ef_8 (m : MethodId) (x0 : Addr) (x1 : Int32) (x2 : Int32) : entryFrame m #[(.ref x0), (.int x1), (.int x2)] 3 = mkF m 0 #[.val (.ref x0), .val (.int x1), .val (.int x2)] [] := by first | (simp [entryFrame, mkF, argsToLocals, Value.category]; done) | rfl
def Q8 (Z : State) (a1 : Addr) (p2 : Int32) (p3 : Int32) (ea ua : Addr) (sz : Int32) (k : Nat) (E : Nat → Int64) (U : Nat → Int32) (h0 : Heap) (n0 : Nat) (v : Option Value) (h : Heap) (L : List Loc) : Prop := v = none ∧ Fr n0 L ∧ own_O Z h n0 a1 ea ua (sz + (1 : Int32)) (fun j => if j = k then own_ext p2 p3 else E j) U
set_option maxRecDepth 65536 in
set_option maxHeartbeats 40000000 in
theorem rm8 (l : Launch) (Z : State) (a0 : Array Value) (hw : ∀ d ∈ tables_1, d.before a0 Z = true) (ws : List Jvm.Cond) (a1 : Addr) (p2 : Int32) (p3 : Int32) (ea ua : Addr) (sz : Int32) (k : Nat) (E : Nat → Int64) (Uf : Nat → Int32) (h0 : Heap) (n0 : Nat) (Z0 : n0 ≤ h0.size) (O : own_O Z h0 n0 a1 ea ua sz E Uf) (hk : sz.toInt = (k : Int)) (hk8 : k < 8) :
    MetFree l (⟨"com/example/umbel/umbel/query/Occurrences", "add", "(II)V"⟩ : MethodName) (head1 (Jvm.Cond.code (⟨"com/example/umbel/umbel/query/Occurrences", "add", "(II)V"⟩ : MethodName) prog_113_method_3_code 3 none :: ws) ({ frames := 1, cells := 0, slots := 0, locals := 15 } : Room)) (fun a U => a = #[(.ref a1), (.int p2), (.int p3)] ∧ Z.Warmed39 U.vm ∧ U.heap = h0) (fun _ _ _ _ _ => True) (fun _ U o U' => ∃ v L, o = .returned v ∧ Q8 Z a1 p2 p3 ea ua sz k E Uf h0 n0 v U'.heap L ∧ FrameEnd U o U' L ({ frames := 1, cells := 0, slots := 0, locals := 15 } : Room).cells ({ frames := 1, cells := 0, slots := 0, locals := 15 } : Room).slots) := by
  refine MetFree.of_bodySF (plainFor_of_name pn_8) hisR ?_
  intro p e s m args below meth c s₁ Bd hml0 hP hK
  obtain ⟨rfl, hZ, hh⟩ := hP
  have hx := Bd.exec
  have hby := Bd.bytes
  have hml : c.maxLocals = 3 := hml0
  have hown : s.vm.findClass "com/example/umbel/umbel/query/Occurrences" = some m.cls := findClass_of_methodNamed Bd.named
  have hnm := (name_of_methodNamed Bd.named Bd.method).1
  have X0 : Stand p l e ({ frames := 1, cells := 0, slots := 0, locals := 15 } : Room) s m #[(.ref a1), (.int p2), (.int p3)] below meth c s₁ [] 0 0 := Stand.of_body Bd
  have e0 : s₁.heap = h0 := by rw [← hh, Bd.state]; rfl
  have N0 := Fr.nil n0
  obtain ⟨E_a1, F_extents_a1, F_used_a1, F_size_a1, ⟨cl_ea, Ar_ea, S8, H8⟩, VU, ⟨ne1, ne2, ne3⟩, ⟨g_a1, g_ea, g_ua⟩, -⟩ := O
  have S_ea : cl_ea.slots.size = ((8 : Int32)).toNatClampNeg := S8.trans (by decide)
  have N_ea : ¬ ((8 : Int32) < 0) := by decide
  have hin59 : ¬ (sz < 0 ∨ cl_ea.slots.size ≤ (sz).toNatClampNeg) := own_inb S8 hk hk8
  have hc9 : ¬ (sz = (8 : Int32)) := fun e => by
    have e8 : (8 : Int32).toInt = 8 := by decide
    rw [e, e8] at hk
    omega
  have pre0 : ∀ t, Steps p.tables e below (s₁.setTop (mkF m 0 #[.val (.ref a1), .val (.int p2), .val (.int p3)] [])) t → Steps p.tables e below (s₁.setTop (entryFrame m #[(.ref a1), (.int p2), (.int p3)] 3)) t := fun t k => castTop (ef_8 m a1 p2 p3) k
  obtain ⟨T5, X5, e5, st5⟩ := getF X0 hx hZ hown (host := "") (Or.inl (hw _ (List.mem_of_getElem? (i := 41) rfl))) Via.refl e0 F_size_a1 (g := (mkF m 1 #[.val (.ref a1), .val (.int p2), .val (.int p3)] [(.ref a1)])) rfl rfl (hb hby d8_1)
  obtain ⟨T7, X7, e7, st7⟩ := getF X5 hx hZ hown (host := "") (Or.inl (hw _ (List.mem_of_getElem? (i := 28) rfl))) Via.refl e5 F_extents_a1 (g := (mkF m 5 #[.val (.ref a1), .val (.int p2), .val (.int p3)] [(.ref a1), (.int sz)])) rfl rfl (hb hby d8_5)
  obtain ⟨T8, X8, e8, st8⟩ := getF X7 hx hZ hown (host := "") (Or.inl (hw _ (List.mem_of_getElem? (i := 28) rfl))) Via.refl e7 F_extents_a1 (g := (mkF m 47 #[.val (.ref a1), .val (.int p2), .val (.int p3)] [(.ref a1)])) rfl rfl (hb hby d8_47)
  obtain ⟨T9, X9, e9, st9⟩ := getF X8 hx hZ hown (host := "") (Or.inl (hw _ (List.mem_of_getElem? (i := 41) rfl))) Via.refl e8 F_size_a1 (g := (mkF m 51 #[.val (.ref a1), .val (.int p2), .val (.int p3)] [(.ref a1), (.ref ea)])) rfl rfl (hb hby d8_51)
  obtain ⟨_, _, ⟨T10, L10, k10, n10⟩, -, X10, ⟨Lc10, hQ10, l10, y10, z10⟩, st10⟩ := Jvm.LawKit.callS X9 hx (y := (⟨"com/example/umbel/umbel/query/Occurrences", "extent", "(II)J"⟩ : MethodName)) hown (mvT hZ (hw _ (List.mem_of_getElem? (i := 43) rfl))) (mvT hZ (hw _ (List.mem_of_getElem? (i := 44) rfl))) (mvT hZ (hw _ (List.mem_of_getElem? (i := 20) rfl))) (mvT hZ (hw _ (List.mem_of_getElem? (i := 45) rfl))) (by decide) (backOf (W := 2) (rm9 l Z a0 hw [] p2 p3 h0 n0 Z0) hZ (hw _ (List.mem_of_getElem? (i := 45) rfl)) (hw _ (List.mem_of_getElem? (i := 20) rfl)) (by decide) (by decide)) (g := (mkF m 56 #[.val (.ref a1), .val (.int p2), .val (.int p3)] [(.int p3), (.int p2), (.int sz), (.ref ea)])) rfl (by rw [hml]; rfl) (argsL := [(.int p2), (.int p3)]) (rest := [(.int sz), (.ref ea)]) (lenOf pd_8_5 rfl) rfl (by show 2 * 0 + _ ≤ _; exact Nat.le_of_eq rfl) (hb hby d8_56) (fun _ _ => ⟨rfl, e9, (by decide : 0 + 0 ≤ _), (by decide : 0 + 0 ≤ _)⟩)
  dsimp only [Pt.U, Pt.locs, Pt.cells, Pt.slots] at X10 l10 y10 z10 st10 hQ10
  subst l10 y10 z10
  obtain ⟨rfl, N10q, e10q⟩ := hQ10
  have N10 := Fr.app N0 N10q
  obtain ⟨T11, h11, X11, e11, W11, st11⟩ := stJ X10 hx hZ e10q Ar_ea (j := sz) hin59 (g := (mkF m 59 #[.val (.ref a1), .val (.int p2), .val (.int p3)] [(.long (own_ext p2 p3)), (.int sz), (.ref ea)])) rfl rfl (hb hby d8_59)
  have N11 := Fr.snoc X11 N10 g_ea
  obtain ⟨T13, X13, e13, st13⟩ := getF X11 hx hZ hown (host := "") (Or.inl (hw _ (List.mem_of_getElem? (i := 41) rfl))) Via.refl e11 (F_size_a1.other W11 (Or.inl ne1)) (g := (mkF m 62 #[.val (.ref a1), .val (.int p2), .val (.int p3)] [(.ref a1), (.ref a1)])) rfl rfl (hb hby d8_62)
  obtain ⟨T14, h14, X14, e14, W14, st14⟩ := putF X13 hx hZ hown (host := "") (Or.inl (hw _ (List.mem_of_getElem? (i := 41) rfl))) Via.refl e13 (F_size_a1.other W11 (Or.inl ne1)) (E_a1.wr W11) (Or.inl (hw _ (List.mem_of_getElem? (i := 42) rfl))) (hw _ (List.mem_of_getElem? (i := 19) rfl)) (ty := .int) (by decide) rfl rfl (g := (mkF m 67 #[.val (.ref a1), .val (.int p2), .val (.int p3)] [(.int (sz + (1 : Int32))), (.ref a1)])) rfl rfl (hb hby d8_67)
  have Fw14 := (F_size_a1.other W11 (Or.inl ne1)).same W14
  have N14 := Fr.snoc X14 N11 g_a1
  obtain ⟨fs, hr, hrun, hended, hW, hsame⟩ := X14.leave (v := none) (fun _ => rfl)
  refine ⟨_, _, pre0 _ ?_, hrun, hended, _, _, rfl, ?_, ⟨_, rfl⟩, hW, hsame.mono (by decide) (by decide)⟩
  · show Steps p.tables e below (s₁.setTop (mkF m 0 #[.val (.ref a1), .val (.int p2), .val (.int p3)] [])) _
    refine XS.aloadN X0.here hx rfl (hb hby d8_0) rfl rfl ?_
    show Steps p.tables e below (s₁.setTop (mkF m 1 #[.val (.ref a1), .val (.int p2), .val (.int p3)] [(.ref a1)])) _
    refine st5 _ ?_
    show Steps p.tables e below (T5.setTop (mkF m 4 #[.val (.ref a1), .val (.int p2), .val (.int p3)] [(.int sz)])) _
    refine XS.aloadN X5.here hx rfl (hb hby d8_4) rfl rfl ?_
    show Steps p.tables e below (T5.setTop (mkF m 5 #[.val (.ref a1), .val (.int p2), .val (.int p3)] [(.ref a1), (.int sz)])) _
    refine st7 _ ?_
    show Steps p.tables e below (T7.setTop (mkF m 8 #[.val (.ref a1), .val (.int p2), .val (.int p3)] [(.ref ea), (.int sz)])) _
    refine X7.arraylength hx (cell := cl_ea) (by rw [e7]; exact Ar_ea.1) (State.isArrayOf_alike hZ.alike Ar_ea.2.1) (g := (mkF m 8 #[.val (.ref a1), .val (.int p2), .val (.int p3)] [(.ref ea), (.int sz)])) rfl rfl (hb hby d8_8) _ ?_
    rw [len_of S_ea N_ea]
    show Steps p.tables e below (T7.setTop (mkF m 9 #[.val (.ref a1), .val (.int p2), .val (.int p3)] [(.int (8 : Int32)), (.int sz)])) _
    refine XS.icmpYes X7.here hx rfl (pc0 := 9) (pc' := 46) rfl (hb hby d8_9) rfl (feq hc9).2 (by decide) (by decide) ?_
    show Steps p.tables e below (T7.setTop (mkF m 46 #[.val (.ref a1), .val (.int p2), .val (.int p3)] [])) _
    refine XS.aloadN X7.here hx rfl (hb hby d8_46) rfl rfl ?_
    show Steps p.tables e below (T7.setTop (mkF m 47 #[.val (.ref a1), .val (.int p2), .val (.int p3)] [(.ref a1)])) _
    refine st8 _ ?_
    show Steps p.tables e below (T8.setTop (mkF m 50 #[.val (.ref a1), .val (.int p2), .val (.int p3)] [(.ref ea)])) _
    refine XS.aloadN X8.here hx rfl (hb hby d8_50) rfl rfl ?_
    show Steps p.tables e below (T8.setTop (mkF m 51 #[.val (.ref a1), .val (.int p2), .val (.int p3)] [(.ref a1), (.ref ea)])) _
    refine st9 _ ?_
    show Steps p.tables e below (T9.setTop (mkF m 54 #[.val (.ref a1), .val (.int p2), .val (.int p3)] [(.int sz), (.ref ea)])) _
    refine XS.iloadN X9.here hx rfl (hb hby d8_54) rfl ?_
    show Steps p.tables e below (T9.setTop (mkF m 55 #[.val (.ref a1), .val (.int p2), .val (.int p3)] [(.int p2), (.int sz), (.ref ea)])) _
    refine XS.iloadN X9.here hx rfl (hb hby d8_55) rfl ?_
    show Steps p.tables e below (T9.setTop (mkF m 56 #[.val (.ref a1), .val (.int p2), .val (.int p3)] [(.int p3), (.int p2), (.int sz), (.ref ea)])) _
    refine st10 _ ?_
    show Steps p.tables e below (T10.setTop (mkF m 59 #[.val (.ref a1), .val (.int p2), .val (.int p3)] [(.long (own_ext p2 p3)), (.int sz), (.ref ea)])) _
    refine st11 _ ?_
    show Steps p.tables e below (T11.setTop (mkF m 60 #[.val (.ref a1), .val (.int p2), .val (.int p3)] [])) _
    refine XS.aloadN X11.here hx rfl (hb hby d8_60) rfl rfl ?_
    show Steps p.tables e below (T11.setTop (mkF m 61 #[.val (.ref a1), .val (.int p2), .val (.int p3)] [(.ref a1)])) _
    refine XS.dup X11.here hx rfl (hb hby d8_61) rfl rfl ?_
    show Steps p.tables e below (T11.setTop (mkF m 62 #[.val (.ref a1), .val (.int p2), .val (.int p3)] [(.ref a1), (.ref a1)])) _
    refine st13 _ ?_
    show Steps p.tables e below (T13.setTop (mkF m 65 #[.val (.ref a1), .val (.int p2), .val (.int p3)] [(.int sz), (.ref a1)])) _
    refine XS.iconst X13.here hx rfl (hb hby d8_65) ?_
    show Steps p.tables e below (T13.setTop (mkF m 66 #[.val (.ref a1), .val (.int p2), .val (.int p3)] [(.int (1 : Int32)), (.int sz), (.ref a1)])) _
    refine XS.iadd X13.here hx rfl (hb hby d8_66) rfl ?_
    show Steps p.tables e below (T13.setTop (mkF m 67 #[.val (.ref a1), .val (.int p2), .val (.int p3)] [(.int (sz + (1 : Int32))), (.ref a1)])) _
    refine st14 _ ?_
    show Steps p.tables e below (T14.setTop (mkF m 70 #[.val (.ref a1), .val (.int p2), .val (.int p3)] [])) _
    exact X14.returnOut hx Bd.returns (hb hby d8_70) hr
  · show Q8 Z a1 p2 p3 ea ua sz k E Uf h0 n0 _ T14.heap _
    rw [e14]
    have VE := own_set ⟨cl_ea, Ar_ea, S8, H8⟩ W11 (own_nat hk)
    exact ⟨rfl, N14, (E_a1.wr W11).wr W14, (F_extents_a1.other W11 (Or.inl ne1)).other W14 (Or.inr (slot_ne (Or.inl (hw _ (List.mem_of_getElem? (i := 29) rfl))) (Or.inl (hw _ (List.mem_of_getElem? (i := 42) rfl))) (by decide) (t := (.array .long)) (t' := .int) (by decide) (by decide))), (F_used_a1.other W11 (Or.inl ne1)).other W14 (Or.inr (slot_ne (Or.inl (hw _ (List.mem_of_getElem? (i := 32) rfl))) (Or.inl (hw _ (List.mem_of_getElem? (i := 42) rfl))) (by decide) (t := (.array .boolean)) (t' := .int) (by decide) (by decide))), Fw14, own_congr (own_other VE W14 ne1.symm) (fun j _ => by by_cases u : j = k <;> simp [u]), own_other (own_other VU W11 ne3.symm) W14 ne2.symm, ⟨ne1, ne2, ne3⟩, ⟨g_a1, g_ea, g_ua⟩, Nat.le_trans Z0 (Nat.le_trans (Keep.of_wr W11).1 (Keep.of_wr W14).1)⟩
theorem d12_0 : decode prog_113_method_9_code 0 = .ok (.aload_n 0, 1) := by decide +kernel
theorem d12_1 : decode prog_113_method_9_code 1 = .ok (.getfield 13, 3) := by decide +kernel
theorem d12_4 : decode prog_113_method_9_code 4 = .ok (.iload_n 1, 1) := by decide +kernel
theorem d12_5 : decode prog_113_method_9_code 5 = .ok (.iconst 1, 1) := by decide +kernel
theorem d12_6 : decode prog_113_method_9_code 6 = .ok (.bastore, 1) := by decide +kernel
theorem d12_7 : decode prog_113_method_9_code 7 = .ok (.return_, 1) := by decide +kernel
theorem pn_12 : plainName "com/example/umbel/umbel/query/Occurrences" = true := by first | (simp [plainName, overriddenIn]; done) | decide +kernel
theorem ef_12 (m : MethodId) (x0 : Addr) (x1 : Int32) : entryFrame m #[(.ref x0), (.int x1)] 2 = mkF m 0 #[.val (.ref x0), .val (.int x1)] [] := by first | (simp [entryFrame, mkF, argsToLocals, Value.category]; done) | rfl
def Q12 (Z : State) (a1 : Addr) (p2 : Int32) (ea ua : Addr) (sz : Int32) (k : Nat) (E : Nat → Int64) (U : Nat → Int32) (h0 : Heap) (n0 : Nat) (v : Option Value) (h : Heap) (L : List Loc) : Prop := v = none ∧ Fr n0 L ∧ own_O Z h n0 a1 ea ua sz E (fun j => if j = k then 1 else U j)
set_option maxRecDepth 65536 in
set_option maxHeartbeats 40000000 in
theorem rm12 (l : Launch) (Z : State) (a0 : Array Value) (hw : ∀ d ∈ tables_1, d.before a0 Z = true) (ws : List Jvm.Cond) (a1 : Addr) (p2 : Int32) (ea ua : Addr) (sz : Int32) (k : Nat) (E : Nat → Int64) (Uf : Nat → Int32) (h0 : Heap) (n0 : Nat) (Z0 : n0 ≤ h0.size) (O : own_O Z h0 n0 a1 ea ua sz E Uf) (hk : p2.toInt = (k : Int)) (hk8 : k < 8) :
    MetFree l (⟨"com/example/umbel/umbel/query/Occurrences", "markUsed", "(I)V"⟩ : MethodName) (head1 (Jvm.Cond.code (⟨"com/example/umbel/umbel/query/Occurrences", "markUsed", "(I)V"⟩ : MethodName) prog_113_method_9_code 2 none :: ws) ({ frames := 0, cells := 0, slots := 0, locals := 0 } : Room)) (fun a U => a = #[(.ref a1), (.int p2)] ∧ Z.Warmed39 U.vm ∧ U.heap = h0) (fun _ _ _ _ _ => True) (fun _ U o U' => ∃ v L, o = .returned v ∧ Q12 Z a1 p2 ea ua sz k E Uf h0 n0 v U'.heap L ∧ FrameEnd U o U' L ({ frames := 0, cells := 0, slots := 0, locals := 0 } : Room).cells ({ frames := 0, cells := 0, slots := 0, locals := 0 } : Room).slots) := by
  refine MetFree.of_bodySF (plainFor_of_name pn_12) hisR ?_
  intro p e s m args below meth c s₁ Bd hml0 hP hK
  obtain ⟨rfl, hZ, hh⟩ := hP
  have hx := Bd.exec
  have hby := Bd.bytes
  have hml : c.maxLocals = 2 := hml0
  have hown : s.vm.findClass "com/example/umbel/umbel/query/Occurrences" = some m.cls := findClass_of_methodNamed Bd.named
  have hnm := (name_of_methodNamed Bd.named Bd.method).1
  have X0 : Stand p l e ({ frames := 0, cells := 0, slots := 0, locals := 0 } : Room) s m #[(.ref a1), (.int p2)] below meth c s₁ [] 0 0 := Stand.of_body Bd
  have e0 : s₁.heap = h0 := by rw [← hh, Bd.state]; rfl
  have N0 := Fr.nil n0
  obtain ⟨E_a1, F_extents_a1, F_used_a1, F_size_a1, VE, ⟨cl_ua, Ar_ua, S8, H8⟩, ⟨ne1, ne2, ne3⟩, ⟨g_a1, g_ea, g_ua⟩, -⟩ := O
  have hin6 : ¬ (p2 < 0 ∨ cl_ua.slots.size ≤ (p2).toNatClampNeg) := own_inb S8 hk hk8
  have pre0 : ∀ t, Steps p.tables e below (s₁.setTop (mkF m 0 #[.val (.ref a1), .val (.int p2)] [])) t → Steps p.tables e below (s₁.setTop (entryFrame m #[(.ref a1), (.int p2)] 2)) t := fun t k => castTop (ef_12 m a1 p2) k
  obtain ⟨T4, X4, e4, st4⟩ := getF X0 hx hZ hown (host := "") (Or.inl (hw _ (List.mem_of_getElem? (i := 31) rfl))) Via.refl e0 F_used_a1 (g := (mkF m 1 #[.val (.ref a1), .val (.int p2)] [(.ref a1)])) rfl rfl (hb hby d12_1)
  obtain ⟨T5, h5, X5, e5, W5, st5⟩ := stZ X4 hx hZ e4 Ar_ua (j := p2) hin6 (g := (mkF m 6 #[.val (.ref a1), .val (.int p2)] [(.int (1 : Int32)), (.int p2), (.ref ua)])) rfl rfl (hb hby d12_6)
  have N5 := Fr.snoc X5 N0 g_ua
  obtain ⟨fs, hr, hrun, hended, hW, hsame⟩ := X5.leave (v := none) (fun _ => rfl)
  refine ⟨_, _, pre0 _ ?_, hrun, hended, _, _, rfl, ?_, ⟨_, rfl⟩, hW, hsame.mono (by decide) (by decide)⟩
  · show Steps p.tables e below (s₁.setTop (mkF m 0 #[.val (.ref a1), .val (.int p2)] [])) _
    refine XS.aloadN X0.here hx rfl (hb hby d12_0) rfl rfl ?_
    show Steps p.tables e below (s₁.setTop (mkF m 1 #[.val (.ref a1), .val (.int p2)] [(.ref a1)])) _
    refine st4 _ ?_
    show Steps p.tables e below (T4.setTop (mkF m 4 #[.val (.ref a1), .val (.int p2)] [(.ref ua)])) _
    refine XS.iloadN X4.here hx rfl (hb hby d12_4) rfl ?_
    show Steps p.tables e below (T4.setTop (mkF m 5 #[.val (.ref a1), .val (.int p2)] [(.int p2), (.ref ua)])) _
    refine XS.iconst X4.here hx rfl (hb hby d12_5) ?_
    show Steps p.tables e below (T4.setTop (mkF m 6 #[.val (.ref a1), .val (.int p2)] [(.int (1 : Int32)), (.int p2), (.ref ua)])) _
    refine st5 _ ?_
    show Steps p.tables e below (T5.setTop (mkF m 7 #[.val (.ref a1), .val (.int p2)] [])) _
    exact X5.returnOut hx Bd.returns (hb hby d12_7) hr
  · show Q12 Z a1 p2 ea ua sz k E Uf h0 n0 _ T5.heap _
    rw [e5]
    have VU := own_set ⟨cl_ua, Ar_ua, S8, H8⟩ W5 (own_nat hk)
    have e1 : nar .boolean (1 : Int32) = 1 := by decide
    rw [e1] at VU
    exact ⟨rfl, N5, E_a1.wr W5, F_extents_a1.other W5 (Or.inl ne2), F_used_a1.other W5 (Or.inl ne2), F_size_a1.other W5 (Or.inl ne2), own_other VE W5 ne3, own_congr VU (fun j _ => by by_cases u : j = k <;> simp [u]), ⟨ne1, ne2, ne3⟩, ⟨g_a1, g_ea, g_ua⟩, Nat.le_trans Z0 (Keep.of_wr W5).1⟩
theorem d10_16 : decode prog_113_method_10_code 16 = .ok (.iload_n 2, 1) := by decide +kernel
theorem d10_17 : decode prog_113_method_10_code 17 = .ok (.iload_n 3, 1) := by decide +kernel
theorem d10_18 : decode prog_113_method_10_code 18 = .ok (.if_icmp .ge 37, 3) := by decide +kernel
theorem d10_21 : decode prog_113_method_10_code 21 = .ok (.iload_n 2, 1) := by decide +kernel
theorem d10_22 : decode prog_113_method_10_code 22 = .ok (.iload_n 3, 1) := by decide +kernel
theorem d10_23 : decode prog_113_method_10_code 23 = .ok (.iadd, 1) := by decide +kernel
theorem d10_24 : decode prog_113_method_10_code 24 = .ok (.iconst 1, 1) := by decide +kernel
theorem d10_25 : decode prog_113_method_10_code 25 = .ok (.iushr, 1) := by decide +kernel
theorem d10_26 : decode prog_113_method_10_code 26 = .ok (.istore 6, 2) := by decide +kernel
theorem d10_28 : decode prog_113_method_10_code 28 = .ok (.aload_n 0, 1) := by decide +kernel
theorem d10_29 : decode prog_113_method_10_code 29 = .ok (.getfield 7, 3) := by decide +kernel
theorem d10_32 : decode prog_113_method_10_code 32 = .ok (.iload 6, 2) := by decide +kernel
theorem d10_34 : decode prog_113_method_10_code 34 = .ok (.laload, 1) := by decide +kernel
theorem d10_35 : decode prog_113_method_10_code 35 = .ok (.lload 4, 2) := by decide +kernel
theorem d10_37 : decode prog_113_method_10_code 37 = .ok (.lcmp, 1) := by decide +kernel
theorem d10_38 : decode prog_113_method_10_code 38 = .ok (.ifCond .ge 11, 3) := by decide +kernel
theorem d10_41 : decode prog_113_method_10_code 41 = .ok (.iload 6, 2) := by decide +kernel
theorem d10_43 : decode prog_113_method_10_code 43 = .ok (.iconst 1, 1) := by decide +kernel
theorem d10_44 : decode prog_113_method_10_code 44 = .ok (.iadd, 1) := by decide +kernel
theorem d10_45 : decode prog_113_method_10_code 45 = .ok (.istore_n 2, 1) := by decide +kernel
theorem d10_46 : decode prog_113_method_10_code 46 = .ok (.goto 6, 3) := by decide +kernel
theorem d10_52 : decode prog_113_method_10_code 52 = .ok (.goto (-36), 3) := by decide +kernel
theorem os_tn10_up_26 {z0 : Value} {s1 : Slot} {z2 : Value} {z3 : Value} {z4 : Value} {s6 : Slot} {v : Int32} (h : One s6) : storeLocals #[.val z0, s1, .val z2, .val z3, .val z4, .second, s6] 6 (.int v) = some #[.val z0, s1, .val z2, .val z3, .val z4, .second, .val (.int v)] := by
  rcases h with rfl | ⟨w, rfl, hw⟩
  · rfl
  · cases w <;> first | rfl | (simp [Value.category] at hw)
set_option maxRecDepth 65536 in
set_option maxHeartbeats 40000000 in
theorem tn10_up {p : Program} {l : Launch} {e : Env} {s : State} {m : MethodId} {args : Array Value} {below : List Frame} {meth : Method} {c : Code} {T0 : State} {locs : List Loc} {Z : State} {a0 : Array Value} {h0 : Heap} (o0 : Addr) (s1 : Slot) (i2 : Int32) (i3 : Int32) (j4 : Int64) (s6 : Slot) (w3 : Addr) (w5 : Int64) (cl_w3 : Cell)
    (X0 : Stand p l e ({ frames := 0, cells := 0, slots := 0, locals := 0 } : Room) s m args below meth c T0 locs 0 0) (hx : p.tables.exec = Jvm.exec) (hZ : Z.Warmed39 s.vm) (hw : ∀ d ∈ tables_1, d.before a0 Z = true) (hby : c.code = prog_113_method_10_code) (hml : c.maxLocals = 7) (hown : s.vm.findClass "com/example/umbel/umbel/query/Occurrences" = some m.cls) (e0 : T0.heap = h0) (n0 : Nat) (Z0 : n0 ≤ h0.size) (N0 : Fr n0 locs) (hs6 : One s6) (F_extents_o0 : Fld Z h0 o0 "com/example/umbel/umbel/query/Occurrences" "extents" "[J" (.ref w3)) (Ar_w3 : Arr Z h0 w3 cl_w3 .long) (hin34 : ¬ ((((i2 + i3).toUInt32 >>> ((1 : Int32) &&& 31).toUInt32).toInt32) < 0 ∨ cl_w3.slots.size ≤ ((((i2 + i3).toUInt32 >>> ((1 : Int32) &&& 31).toUInt32).toInt32)).toNatClampNeg)) (hat34 : cl_w3.slots[((((i2 + i3).toUInt32 >>> ((1 : Int32) &&& 31).toUInt32).toInt32)).toNatClampNeg]? = some (.long w5)) (hc18 : i2 < i3) (hc38 : (lcmpW w5 j4) < (0 : Int32)) :
    ∃ (T' : State) (locs' : List Loc), Stand p l e ({ frames := 0, cells := 0, slots := 0, locals := 0 } : Room) s m args below meth c T' locs' 0 0 ∧ Fr n0 locs' ∧ T'.heap = h0 ∧
      ∀ target, Steps p.tables e below (T'.setTop (mkF m 16 #[.val (.ref o0), s1, .val (.int ((((i2 + i3).toUInt32 >>> ((1 : Int32) &&& 31).toUInt32).toInt32) + (1 : Int32))), .val (.int i3), .val (.long j4), .second, .val (.int (((i2 + i3).toUInt32 >>> ((1 : Int32) &&& 31).toUInt32).toInt32))] [])) target → Steps p.tables e below (T0.setTop (mkF m 16 #[.val (.ref o0), s1, .val (.int i2), .val (.int i3), .val (.long j4), .second, s6] [])) target := by
  obtain ⟨T4, X4, e4, st4⟩ := getF X0 hx hZ hown (host := "") (Or.inl (hw _ (List.mem_of_getElem? (i := 28) rfl))) Via.refl e0 F_extents_o0 (g := (mkF m 29 #[.val (.ref o0), s1, .val (.int i2), .val (.int i3), .val (.long j4), .second, .val (.int (((i2 + i3).toUInt32 >>> ((1 : Int32) &&& 31).toUInt32).toInt32))] [(.ref o0)])) rfl rfl (hb hby d10_29)
  refine ⟨T4, _, X4, N0, e4, fun target kt => ?_⟩
  show Steps p.tables e below (T0.setTop (mkF m 16 #[.val (.ref o0), s1, .val (.int i2), .val (.int i3), .val (.long j4), .second, s6] [])) _
  refine XS.iloadN X0.here hx rfl (hb hby d10_16) rfl ?_
  show Steps p.tables e below (T0.setTop (mkF m 17 #[.val (.ref o0), s1, .val (.int i2), .val (.int i3), .val (.long j4), .second, s6] [(.int i2)])) _
  refine XS.iloadN X0.here hx rfl (hb hby d10_17) rfl ?_
  show Steps p.tables e below (T0.setTop (mkF m 18 #[.val (.ref o0), s1, .val (.int i2), .val (.int i3), .val (.long j4), .second, s6] [(.int i3), (.int i2)])) _
  refine XS.icmpNo X0.here hx rfl (hb hby d10_18) rfl (tlt hc18).2.1 ?_
  show Steps p.tables e below (T0.setTop (mkF m 21 #[.val (.ref o0), s1, .val (.int i2), .val (.int i3), .val (.long j4), .second, s6] [])) _
  refine XS.iloadN X0.here hx rfl (hb hby d10_21) rfl ?_
  show Steps p.tables e below (T0.setTop (mkF m 22 #[.val (.ref o0), s1, .val (.int i2), .val (.int i3), .val (.long j4), .second, s6] [(.int i2)])) _
  refine XS.iloadN X0.here hx rfl (hb hby d10_22) rfl ?_
  show Steps p.tables e below (T0.setTop (mkF m 23 #[.val (.ref o0), s1, .val (.int i2), .val (.int i3), .val (.long j4), .second, s6] [(.int i3), (.int i2)])) _
  refine XS.iadd X0.here hx rfl (hb hby d10_23) rfl ?_
  show Steps p.tables e below (T0.setTop (mkF m 24 #[.val (.ref o0), s1, .val (.int i2), .val (.int i3), .val (.long j4), .second, s6] [(.int (i2 + i3))])) _
  refine XS.iconst X0.here hx rfl (hb hby d10_24) ?_
  show Steps p.tables e below (T0.setTop (mkF m 25 #[.val (.ref o0), s1, .val (.int i2), .val (.int i3), .val (.long j4), .second, s6] [(.int (1 : Int32)), (.int (i2 + i3))])) _
  refine XS.iushr X0.here hx rfl (hb hby d10_25) rfl ?_
  show Steps p.tables e below (T0.setTop (mkF m 26 #[.val (.ref o0), s1, .val (.int i2), .val (.int i3), .val (.long j4), .second, s6] [(.int (((i2 + i3).toUInt32 >>> ((1 : Int32) &&& 31).toUInt32).toInt32))])) _
  refine XS.istore X0.here hx rfl (hb hby d10_26) rfl (l' := #[.val (.ref o0), s1, .val (.int i2), .val (.int i3), .val (.long j4), .second, .val (.int (((i2 + i3).toUInt32 >>> ((1 : Int32) &&& 31).toUInt32).toInt32))]) (os_tn10_up_26 hs6) ?_
  show Steps p.tables e below (T0.setTop (mkF m 28 #[.val (.ref o0), s1, .val (.int i2), .val (.int i3), .val (.long j4), .second, .val (.int (((i2 + i3).toUInt32 >>> ((1 : Int32) &&& 31).toUInt32).toInt32))] [])) _
  refine XS.aloadN X0.here hx rfl (hb hby d10_28) rfl rfl ?_
  show Steps p.tables e below (T0.setTop (mkF m 29 #[.val (.ref o0), s1, .val (.int i2), .val (.int i3), .val (.long j4), .second, .val (.int (((i2 + i3).toUInt32 >>> ((1 : Int32) &&& 31).toUInt32).toInt32))] [(.ref o0)])) _
  refine st4 _ ?_
  show Steps p.tables e below (T4.setTop (mkF m 32 #[.val (.ref o0), s1, .val (.int i2), .val (.int i3), .val (.long j4), .second, .val (.int (((i2 + i3).toUInt32 >>> ((1 : Int32) &&& 31).toUInt32).toInt32))] [(.ref w3)])) _
  refine XS.iload X4.here hx rfl (hb hby d10_32) rfl ?_
  show Steps p.tables e below (T4.setTop (mkF m 34 #[.val (.ref o0), s1, .val (.int i2), .val (.int i3), .val (.long j4), .second, .val (.int (((i2 + i3).toUInt32 >>> ((1 : Int32) &&& 31).toUInt32).toInt32))] [(.int (((i2 + i3).toUInt32 >>> ((1 : Int32) &&& 31).toUInt32).toInt32)), (.ref w3)])) _
  refine X4.laload hx (j := (((i2 + i3).toUInt32 >>> ((1 : Int32) &&& 31).toUInt32).toInt32)) (v := (.long w5)) (by rw [e4]; exact Ar_w3.1) (State.isArrayOf_alike hZ.alike Ar_w3.2.1) Ar_w3.2.2 hin34 hat34 (g := (mkF m 34 #[.val (.ref o0), s1, .val (.int i2), .val (.int i3), .val (.long j4), .second, .val (.int (((i2 + i3).toUInt32 >>> ((1 : Int32) &&& 31).toUInt32).toInt32))] [(.int (((i2 + i3).toUInt32 >>> ((1 : Int32) &&& 31).toUInt32).toInt32)), (.ref w3)])) rfl rfl (hb hby d10_34) _ ?_
  show Steps p.tables e below (T4.setTop (mkF m 35 #[.val (.ref o0), s1, .val (.int i2), .val (.int i3), .val (.long j4), .second, .val (.int (((i2 + i3).toUInt32 >>> ((1 : Int32) &&& 31).toUInt32).toInt32))] [(.long w5)])) _
  refine XS.lload X4.here hx rfl (hb hby d10_35) rfl ?_
  show Steps p.tables e below (T4.setTop (mkF m 37 #[.val (.ref o0), s1, .val (.int i2), .val (.int i3), .val (.long j4), .second, .val (.int (((i2 + i3).toUInt32 >>> ((1 : Int32) &&& 31).toUInt32).toInt32))] [(.long j4), (.long w5)])) _
  refine XS.lcmp X4.here hx rfl (hb hby d10_37) rfl ?_
  show Steps p.tables e below (T4.setTop (mkF m 38 #[.val (.ref o0), s1, .val (.int i2), .val (.int i3), .val (.long j4), .second, .val (.int (((i2 + i3).toUInt32 >>> ((1 : Int32) &&& 31).toUInt32).toInt32))] [(.int (lcmpW w5 j4))])) _
  refine XS.ifNo X4.here hx rfl (hb hby d10_38) rfl ((if0 _ _).trans (tlt hc38).2.1) ?_
  show Steps p.tables e below (T4.setTop (mkF m 41 #[.val (.ref o0), s1, .val (.int i2), .val (.int i3), .val (.long j4), .second, .val (.int (((i2 + i3).toUInt32 >>> ((1 : Int32) &&& 31).toUInt32).toInt32))] [])) _
  refine XS.iload X4.here hx rfl (hb hby d10_41) rfl ?_
  show Steps p.tables e below (T4.setTop (mkF m 43 #[.val (.ref o0), s1, .val (.int i2), .val (.int i3), .val (.long j4), .second, .val (.int (((i2 + i3).toUInt32 >>> ((1 : Int32) &&& 31).toUInt32).toInt32))] [(.int (((i2 + i3).toUInt32 >>> ((1 : Int32) &&& 31).toUInt32).toInt32))])) _
  refine XS.iconst X4.here hx rfl (hb hby d10_43) ?_
  show Steps p.tables e below (T4.setTop (mkF m 44 #[.val (.ref o0), s1, .val (.int i2), .val (.int i3), .val (.long j4), .second, .val (.int (((i2 + i3).toUInt32 >>> ((1 : Int32) &&& 31).toUInt32).toInt32))] [(.int (1 : Int32)), (.int (((i2 + i3).toUInt32 >>> ((1 : Int32) &&& 31).toUInt32).toInt32))])) _
  refine XS.iadd X4.here hx rfl (hb hby d10_44) rfl ?_
  show Steps p.tables e below (T4.setTop (mkF m 45 #[.val (.ref o0), s1, .val (.int i2), .val (.int i3), .val (.long j4), .second, .val (.int (((i2 + i3).toUInt32 >>> ((1 : Int32) &&& 31).toUInt32).toInt32))] [(.int ((((i2 + i3).toUInt32 >>> ((1 : Int32) &&& 31).toUInt32).toInt32) + (1 : Int32)))])) _
  refine XS.istoreN X4.here hx rfl (hb hby d10_45) rfl (l' := #[.val (.ref o0), s1, .val (.int ((((i2 + i3).toUInt32 >>> ((1 : Int32) &&& 31).toUInt32).toInt32) + (1 : Int32))), .val (.int i3), .val (.long j4), .second, .val (.int (((i2 + i3).toUInt32 >>> ((1 : Int32) &&& 31).toUInt32).toInt32))]) rfl ?_
  show Steps p.tables e below (T4.setTop (mkF m 46 #[.val (.ref o0), s1, .val (.int ((((i2 + i3).toUInt32 >>> ((1 : Int32) &&& 31).toUInt32).toInt32) + (1 : Int32))), .val (.int i3), .val (.long j4), .second, .val (.int (((i2 + i3).toUInt32 >>> ((1 : Int32) &&& 31).toUInt32).toInt32))] [])) _
  refine XS.goto X4.here hx rfl (pc0 := 46) (pc' := 52) rfl (hb hby d10_46) (by decide) (by decide) ?_
  show Steps p.tables e below (T4.setTop (mkF m 52 #[.val (.ref o0), s1, .val (.int ((((i2 + i3).toUInt32 >>> ((1 : Int32) &&& 31).toUInt32).toInt32) + (1 : Int32))), .val (.int i3), .val (.long j4), .second, .val (.int (((i2 + i3).toUInt32 >>> ((1 : Int32) &&& 31).toUInt32).toInt32))] [])) _
  refine XS.goto X4.here hx rfl (pc0 := 52) (pc' := 16) rfl (hb hby d10_52) (by decide) (by decide) ?_
  exact kt
theorem d10_49 : decode prog_113_method_10_code 49 = .ok (.iload 6, 2) := by decide +kernel
theorem d10_51 : decode prog_113_method_10_code 51 = .ok (.istore_n 3, 1) := by decide +kernel
theorem os_tn10_down_26 {z0 : Value} {s1 : Slot} {z2 : Value} {z3 : Value} {z4 : Value} {s6 : Slot} {v : Int32} (h : One s6) : storeLocals #[.val z0, s1, .val z2, .val z3, .val z4, .second, s6] 6 (.int v) = some #[.val z0, s1, .val z2, .val z3, .val z4, .second, .val (.int v)] := by
  rcases h with rfl | ⟨w, rfl, hw⟩
  · rfl
  · cases w <;> first | rfl | (simp [Value.category] at hw)
set_option maxRecDepth 65536 in
set_option maxHeartbeats 40000000 in
theorem tn10_down {p : Program} {l : Launch} {e : Env} {s : State} {m : MethodId} {args : Array Value} {below : List Frame} {meth : Method} {c : Code} {T0 : State} {locs : List Loc} {Z : State} {a0 : Array Value} {h0 : Heap} (o0 : Addr) (s1 : Slot) (i2 : Int32) (i3 : Int32) (j4 : Int64) (s6 : Slot) (w3 : Addr) (w5 : Int64) (cl_w3 : Cell)
    (X0 : Stand p l e ({ frames := 0, cells := 0, slots := 0, locals := 0 } : Room) s m args below meth c T0 locs 0 0) (hx : p.tables.exec = Jvm.exec) (hZ : Z.Warmed39 s.vm) (hw : ∀ d ∈ tables_1, d.before a0 Z = true) (hby : c.code = prog_113_method_10_code) (hml : c.maxLocals = 7) (hown : s.vm.findClass "com/example/umbel/umbel/query/Occurrences" = some m.cls) (e0 : T0.heap = h0) (n0 : Nat) (Z0 : n0 ≤ h0.size) (N0 : Fr n0 locs) (hs6 : One s6) (F_extents_o0 : Fld Z h0 o0 "com/example/umbel/umbel/query/Occurrences" "extents" "[J" (.ref w3)) (Ar_w3 : Arr Z h0 w3 cl_w3 .long) (hin34 : ¬ ((((i2 + i3).toUInt32 >>> ((1 : Int32) &&& 31).toUInt32).toInt32) < 0 ∨ cl_w3.slots.size ≤ ((((i2 + i3).toUInt32 >>> ((1 : Int32) &&& 31).toUInt32).toInt32)).toNatClampNeg)) (hat34 : cl_w3.slots[((((i2 + i3).toUInt32 >>> ((1 : Int32) &&& 31).toUInt32).toInt32)).toNatClampNeg]? = some (.long w5)) (hc18 : i2 < i3) (hc38 : ¬ ((lcmpW w5 j4) < (0 : Int32))) :
    ∃ (T' : State) (locs' : List Loc), Stand p l e ({ frames := 0, cells := 0, slots := 0, locals := 0 } : Room) s m args below meth c T' locs' 0 0 ∧ Fr n0 locs' ∧ T'.heap = h0 ∧
      ∀ target, Steps p.tables e below (T'.setTop (mkF m 16 #[.val (.ref o0), s1, .val (.int i2), .val (.int (((i2 + i3).toUInt32 >>> ((1 : Int32) &&& 31).toUInt32).toInt32)), .val (.long j4), .second, .val (.int (((i2 + i3).toUInt32 >>> ((1 : Int32) &&& 31).toUInt32).toInt32))] [])) target → Steps p.tables e below (T0.setTop (mkF m 16 #[.val (.ref o0), s1, .val (.int i2), .val (.int i3), .val (.long j4), .second, s6] [])) target := by
  obtain ⟨T4, X4, e4, st4⟩ := getF X0 hx hZ hown (host := "") (Or.inl (hw _ (List.mem_of_getElem? (i := 28) rfl))) Via.refl e0 F_extents_o0 (g := (mkF m 29 #[.val (.ref o0), s1, .val (.int i2), .val (.int i3), .val (.long j4), .second, .val (.int (((i2 + i3).toUInt32 >>> ((1 : Int32) &&& 31).toUInt32).toInt32))] [(.ref o0)])) rfl rfl (hb hby d10_29)
  refine ⟨T4, _, X4, N0, e4, fun target kt => ?_⟩
  show Steps p.tables e below (T0.setTop (mkF m 16 #[.val (.ref o0), s1, .val (.int i2), .val (.int i3), .val (.long j4), .second, s6] [])) _
  refine XS.iloadN X0.here hx rfl (hb hby d10_16) rfl ?_
  show Steps p.tables e below (T0.setTop (mkF m 17 #[.val (.ref o0), s1, .val (.int i2), .val (.int i3), .val (.long j4), .second, s6] [(.int i2)])) _
  refine XS.iloadN X0.here hx rfl (hb hby d10_17) rfl ?_
  show Steps p.tables e below (T0.setTop (mkF m 18 #[.val (.ref o0), s1, .val (.int i2), .val (.int i3), .val (.long j4), .second, s6] [(.int i3), (.int i2)])) _
  refine XS.icmpNo X0.here hx rfl (hb hby d10_18) rfl (tlt hc18).2.1 ?_
  show Steps p.tables e below (T0.setTop (mkF m 21 #[.val (.ref o0), s1, .val (.int i2), .val (.int i3), .val (.long j4), .second, s6] [])) _
  refine XS.iloadN X0.here hx rfl (hb hby d10_21) rfl ?_
  show Steps p.tables e below (T0.setTop (mkF m 22 #[.val (.ref o0), s1, .val (.int i2), .val (.int i3), .val (.long j4), .second, s6] [(.int i2)])) _
  refine XS.iloadN X0.here hx rfl (hb hby d10_22) rfl ?_
  show Steps p.tables e below (T0.setTop (mkF m 23 #[.val (.ref o0), s1, .val (.int i2), .val (.int i3), .val (.long j4), .second, s6] [(.int i3), (.int i2)])) _
  refine XS.iadd X0.here hx rfl (hb hby d10_23) rfl ?_
  show Steps p.tables e below (T0.setTop (mkF m 24 #[.val (.ref o0), s1, .val (.int i2), .val (.int i3), .val (.long j4), .second, s6] [(.int (i2 + i3))])) _
  refine XS.iconst X0.here hx rfl (hb hby d10_24) ?_
  show Steps p.tables e below (T0.setTop (mkF m 25 #[.val (.ref o0), s1, .val (.int i2), .val (.int i3), .val (.long j4), .second, s6] [(.int (1 : Int32)), (.int (i2 + i3))])) _
  refine XS.iushr X0.here hx rfl (hb hby d10_25) rfl ?_
  show Steps p.tables e below (T0.setTop (mkF m 26 #[.val (.ref o0), s1, .val (.int i2), .val (.int i3), .val (.long j4), .second, s6] [(.int (((i2 + i3).toUInt32 >>> ((1 : Int32) &&& 31).toUInt32).toInt32))])) _
  refine XS.istore X0.here hx rfl (hb hby d10_26) rfl (l' := #[.val (.ref o0), s1, .val (.int i2), .val (.int i3), .val (.long j4), .second, .val (.int (((i2 + i3).toUInt32 >>> ((1 : Int32) &&& 31).toUInt32).toInt32))]) (os_tn10_down_26 hs6) ?_
  show Steps p.tables e below (T0.setTop (mkF m 28 #[.val (.ref o0), s1, .val (.int i2), .val (.int i3), .val (.long j4), .second, .val (.int (((i2 + i3).toUInt32 >>> ((1 : Int32) &&& 31).toUInt32).toInt32))] [])) _
  refine XS.aloadN X0.here hx rfl (hb hby d10_28) rfl rfl ?_
  show Steps p.tables e below (T0.setTop (mkF m 29 #[.val (.ref o0), s1, .val (.int i2), .val (.int i3), .val (.long j4), .second, .val (.int (((i2 + i3).toUInt32 >>> ((1 : Int32) &&& 31).toUInt32).toInt32))] [(.ref o0)])) _
  refine st4 _ ?_
  show Steps p.tables e below (T4.setTop (mkF m 32 #[.val (.ref o0), s1, .val (.int i2), .val (.int i3), .val (.long j4), .second, .val (.int (((i2 + i3).toUInt32 >>> ((1 : Int32) &&& 31).toUInt32).toInt32))] [(.ref w3)])) _
  refine XS.iload X4.here hx rfl (hb hby d10_32) rfl ?_
  show Steps p.tables e below (T4.setTop (mkF m 34 #[.val (.ref o0), s1, .val (.int i2), .val (.int i3), .val (.long j4), .second, .val (.int (((i2 + i3).toUInt32 >>> ((1 : Int32) &&& 31).toUInt32).toInt32))] [(.int (((i2 + i3).toUInt32 >>> ((1 : Int32) &&& 31).toUInt32).toInt32)), (.ref w3)])) _
  refine X4.laload hx (j := (((i2 + i3).toUInt32 >>> ((1 : Int32) &&& 31).toUInt32).toInt32)) (v := (.long w5)) (by rw [e4]; exact Ar_w3.1) (State.isArrayOf_alike hZ.alike Ar_w3.2.1) Ar_w3.2.2 hin34 hat34 (g := (mkF m 34 #[.val (.ref o0), s1, .val (.int i2), .val (.int i3), .val (.long j4), .second, .val (.int (((i2 + i3).toUInt32 >>> ((1 : Int32) &&& 31).toUInt32).toInt32))] [(.int (((i2 + i3).toUInt32 >>> ((1 : Int32) &&& 31).toUInt32).toInt32)), (.ref w3)])) rfl rfl (hb hby d10_34) _ ?_
  show Steps p.tables e below (T4.setTop (mkF m 35 #[.val (.ref o0), s1, .val (.int i2), .val (.int i3), .val (.long j4), .second, .val (.int (((i2 + i3).toUInt32 >>> ((1 : Int32) &&& 31).toUInt32).toInt32))] [(.long w5)])) _
  refine XS.lload X4.here hx rfl (hb hby d10_35) rfl ?_
  show Steps p.tables e below (T4.setTop (mkF m 37 #[.val (.ref o0), s1, .val (.int i2), .val (.int i3), .val (.long j4), .second, .val (.int (((i2 + i3).toUInt32 >>> ((1 : Int32) &&& 31).toUInt32).toInt32))] [(.long j4), (.long w5)])) _
  refine XS.lcmp X4.here hx rfl (hb hby d10_37) rfl ?_
  show Steps p.tables e below (T4.setTop (mkF m 38 #[.val (.ref o0), s1, .val (.int i2), .val (.int i3), .val (.long j4), .second, .val (.int (((i2 + i3).toUInt32 >>> ((1 : Int32) &&& 31).toUInt32).toInt32))] [(.int (lcmpW w5 j4))])) _
  refine XS.ifYes X4.here hx rfl (pc0 := 38) (pc' := 49) rfl (hb hby d10_38) rfl ((if0 _ _).trans (flt hc38).2.1) (by decide) (by decide) ?_
  show Steps p.tables e below (T4.setTop (mkF m 49 #[.val (.ref o0), s1, .val (.int i2), .val (.int i3), .val (.long j4), .second, .val (.int (((i2 + i3).toUInt32 >>> ((1 : Int32) &&& 31).toUInt32).toInt32))] [])) _
  refine XS.iload X4.here hx rfl (hb hby d10_49) rfl ?_
  show Steps p.tables e below (T4.setTop (mkF m 51 #[.val (.ref o0), s1, .val (.int i2), .val (.int i3), .val (.long j4), .second, .val (.int (((i2 + i3).toUInt32 >>> ((1 : Int32) &&& 31).toUInt32).toInt32))] [(.int (((i2 + i3).toUInt32 >>> ((1 : Int32) &&& 31).toUInt32).toInt32))])) _
  refine XS.istoreN X4.here hx rfl (hb hby d10_51) rfl (l' := #[.val (.ref o0), s1, .val (.int i2), .val (.int (((i2 + i3).toUInt32 >>> ((1 : Int32) &&& 31).toUInt32).toInt32)), .val (.long j4), .second, .val (.int (((i2 + i3).toUInt32 >>> ((1 : Int32) &&& 31).toUInt32).toInt32))]) rfl ?_
  show Steps p.tables e below (T4.setTop (mkF m 52 #[.val (.ref o0), s1, .val (.int i2), .val (.int (((i2 + i3).toUInt32 >>> ((1 : Int32) &&& 31).toUInt32).toInt32)), .val (.long j4), .second, .val (.int (((i2 + i3).toUInt32 >>> ((1 : Int32) &&& 31).toUInt32).toInt32))] [])) _
  refine XS.goto X4.here hx rfl (pc0 := 52) (pc' := 16) rfl (hb hby d10_52) (by decide) (by decide) ?_
  exact kt
set_option maxRecDepth 65536 in
set_option maxHeartbeats 40000000 in
theorem tn10_out {p : Program} {l : Launch} {e : Env} {s : State} {m : MethodId} {args : Array Value} {below : List Frame} {meth : Method} {c : Code} {T0 : State} {locs : List Loc} {Z : State} {a0 : Array Value} {h0 : Heap} (s0 : Slot) (s1 : Slot) (i2 : Int32) (i3 : Int32) (s4 : Slot) (s5 : Slot) (s6 : Slot)
    (X0 : Stand p l e ({ frames := 0, cells := 0, slots := 0, locals := 0 } : Room) s m args below meth c T0 locs 0 0) (hx : p.tables.exec = Jvm.exec) (hZ : Z.Warmed39 s.vm) (hw : ∀ d ∈ tables_1, d.before a0 Z = true) (hby : c.code = prog_113_method_10_code) (hml : c.maxLocals = 7) (hown : s.vm.findClass "com/example/umbel/umbel/query/Occurrences" = some m.cls) (e0 : T0.heap = h0) (n0 : Nat) (Z0 : n0 ≤ h0.size) (N0 : Fr n0 locs) (hc18 : ¬ (i2 < i3)) :
    ∃ (T' : State) (locs' : List Loc), Stand p l e ({ frames := 0, cells := 0, slots := 0, locals := 0 } : Room) s m args below meth c T' locs' 0 0 ∧ Fr n0 locs' ∧ T'.heap = h0 ∧
      ∀ target, Steps p.tables e below (T'.setTop (mkF m 55 #[s0, s1, .val (.int i2), .val (.int i3), s4, s5, s6] [])) target → Steps p.tables e below (T0.setTop (mkF m 16 #[s0, s1, .val (.int i2), .val (.int i3), s4, s5, s6] [])) target := by
  refine ⟨T0, _, X0, N0, e0, fun target kt => ?_⟩
  show Steps p.tables e below (T0.setTop (mkF m 16 #[s0, s1, .val (.int i2), .val (.int i3), s4, s5, s6] [])) _
  refine XS.iloadN X0.here hx rfl (hb hby d10_16) rfl ?_
  show Steps p.tables e below (T0.setTop (mkF m 17 #[s0, s1, .val (.int i2), .val (.int i3), s4, s5, s6] [(.int i2)])) _
  refine XS.iloadN X0.here hx rfl (hb hby d10_17) rfl ?_
  show Steps p.tables e below (T0.setTop (mkF m 18 #[s0, s1, .val (.int i2), .val (.int i3), s4, s5, s6] [(.int i3), (.int i2)])) _
  refine XS.icmpYes X0.here hx rfl (pc0 := 18) (pc' := 55) rfl (hb hby d10_18) rfl (flt hc18).2.1 (by decide) (by decide) ?_
  exact kt
theorem d10_55 : decode prog_113_method_10_code 55 = .ok (.iload_n 2, 1) := by decide +kernel
theorem d10_56 : decode prog_113_method_10_code 56 = .ok (.aload_n 0, 1) := by decide +kernel
theorem d10_57 : decode prog_113_method_10_code 57 = .ok (.getfield 17, 3) := by decide +kernel
theorem d10_60 : decode prog_113_method_10_code 60 = .ok (.if_icmp .ge 18, 3) := by decide +kernel
theorem d10_63 : decode prog_113_method_10_code 63 = .ok (.aload_n 0, 1) := by decide +kernel
theorem d10_64 : decode prog_113_method_10_code 64 = .ok (.getfield 13, 3) := by decide +kernel
theorem d10_67 : decode prog_113_method_10_code 67 = .ok (.iload_n 2, 1) := by decide +kernel
theorem d10_68 : decode prog_113_method_10_code 68 = .ok (.baload, 1) := by decide +kernel
theorem d10_69 : decode prog_113_method_10_code 69 = .ok (.ifCond .eq 9, 3) := by decide +kernel
theorem d10_72 : decode prog_113_method_10_code 72 = .ok (.iinc 2 1, 3) := by decide +kernel
theorem d10_75 : decode prog_113_method_10_code 75 = .ok (.goto (-20), 3) := by decide +kernel
set_option maxRecDepth 65536 in
set_option maxHeartbeats 40000000 in
theorem tn10_used {p : Program} {l : Launch} {e : Env} {s : State} {m : MethodId} {args : Array Value} {below : List Frame} {meth : Method} {c : Code} {T0 : State} {locs : List Loc} {Z : State} {a0 : Array Value} {h0 : Heap} (o0 : Addr) (s1 : Slot) (i2 : Int32) (s3 : Slot) (s4 : Slot) (s5 : Slot) (s6 : Slot) (w3 : Int32) (w5 : Addr) (w7 : Int32) (cl_w5 : Cell)
    (X0 : Stand p l e ({ frames := 0, cells := 0, slots := 0, locals := 0 } : Room) s m args below meth c T0 locs 0 0) (hx : p.tables.exec = Jvm.exec) (hZ : Z.Warmed39 s.vm) (hw : ∀ d ∈ tables_1, d.before a0 Z = true) (hby : c.code = prog_113_method_10_code) (hml : c.maxLocals = 7) (hown : s.vm.findClass "com/example/umbel/umbel/query/Occurrences" = some m.cls) (e0 : T0.heap = h0) (n0 : Nat) (Z0 : n0 ≤ h0.size) (N0 : Fr n0 locs) (F_size_o0 : Fld Z h0 o0 "com/example/umbel/umbel/query/Occurrences" "size" "I" (.int w3)) (F_used_o0 : Fld Z h0 o0 "com/example/umbel/umbel/query/Occurrences" "used" "[Z" (.ref w5)) (Ar_w5 : Arr Z h0 w5 cl_w5 .boolean) (hin68 : ¬ (i2 < 0 ∨ cl_w5.slots.size ≤ (i2).toNatClampNeg)) (hat68 : cl_w5.slots[(i2).toNatClampNeg]? = some (.int w7)) (hc60 : i2 < w3) (hc69 : ¬ (w7 = (0 : Int32))) :
    ∃ (T' : State) (locs' : List Loc), Stand p l e ({ frames := 0, cells := 0, slots := 0, locals := 0 } : Room) s m args below meth c T' locs' 0 0 ∧ Fr n0 locs' ∧ T'.heap = h0 ∧
      ∀ target, Steps p.tables e below (T'.setTop (mkF m 55 #[.val (.ref o0), s1, .val (.int (i2 + (1 : Int32))), s3, s4, s5, s6] [])) target → Steps p.tables e below (T0.setTop (mkF m 55 #[.val (.ref o0), s1, .val (.int i2), s3, s4, s5, s6] [])) target := by
  obtain ⟨T4, X4, e4, st4⟩ := getF X0 hx hZ hown (host := "") (Or.inl (hw _ (List.mem_of_getElem? (i := 41) rfl))) Via.refl e0 F_size_o0 (g := (mkF m 57 #[.val (.ref o0), s1, .val (.int i2), s3, s4, s5, s6] [(.ref o0), (.int i2)])) rfl rfl (hb hby d10_57)
  obtain ⟨T6, X6, e6, st6⟩ := getF X4 hx hZ hown (host := "") (Or.inl (hw _ (List.mem_of_getElem? (i := 31) rfl))) Via.refl e4 F_used_o0 (g := (mkF m 64 #[.val (.ref o0), s1, .val (.int i2), s3, s4, s5, s6] [(.ref o0)])) rfl rfl (hb hby d10_64)
  refine ⟨T6, _, X6, N0, e6, fun target kt => ?_⟩
  show Steps p.tables e below (T0.setTop (mkF m 55 #[.val (.ref o0), s1, .val (.int i2), s3, s4, s5, s6] [])) _
  refine XS.iloadN X0.here hx rfl (hb hby d10_55) rfl ?_
  show Steps p.tables e below (T0.setTop (mkF m 56 #[.val (.ref o0), s1, .val (.int i2), s3, s4, s5, s6] [(.int i2)])) _
  refine XS.aloadN X0.here hx rfl (hb hby d10_56) rfl rfl ?_
  show Steps p.tables e below (T0.setTop (mkF m 57 #[.val (.ref o0), s1, .val (.int i2), s3, s4, s5, s6] [(.ref o0), (.int i2)])) _
  refine st4 _ ?_
  show Steps p.tables e below (T4.setTop (mkF m 60 #[.val (.ref o0), s1, .val (.int i2), s3, s4, s5, s6] [(.int w3), (.int i2)])) _
  refine XS.icmpNo X4.here hx rfl (hb hby d10_60) rfl (tlt hc60).2.1 ?_
  show Steps p.tables e below (T4.setTop (mkF m 63 #[.val (.ref o0), s1, .val (.int i2), s3, s4, s5, s6] [])) _
  refine XS.aloadN X4.here hx rfl (hb hby d10_63) rfl rfl ?_
  show Steps p.tables e below (T4.setTop (mkF m 64 #[.val (.ref o0), s1, .val (.int i2), s3, s4, s5, s6] [(.ref o0)])) _
  refine st6 _ ?_
  show Steps p.tables e below (T6.setTop (mkF m 67 #[.val (.ref o0), s1, .val (.int i2), s3, s4, s5, s6] [(.ref w5)])) _
  refine XS.iloadN X6.here hx rfl (hb hby d10_67) rfl ?_
  show Steps p.tables e below (T6.setTop (mkF m 68 #[.val (.ref o0), s1, .val (.int i2), s3, s4, s5, s6] [(.int i2), (.ref w5)])) _
  refine X6.baloadBooleans hx (j := i2) (v := (.int w7)) (by rw [e6]; exact Ar_w5.1) (State.isArrayOf_alike hZ.alike Ar_w5.2.1) Ar_w5.2.2 hin68 hat68 (g := (mkF m 68 #[.val (.ref o0), s1, .val (.int i2), s3, s4, s5, s6] [(.int i2), (.ref w5)])) rfl rfl (hb hby d10_68) _ ?_
  show Steps p.tables e below (T6.setTop (mkF m 69 #[.val (.ref o0), s1, .val (.int i2), s3, s4, s5, s6] [(.int w7)])) _
  refine XS.ifNo X6.here hx rfl (hb hby d10_69) rfl ((if0 _ _).trans (feq hc69).1) ?_
  show Steps p.tables e below (T6.setTop (mkF m 72 #[.val (.ref o0), s1, .val (.int i2), s3, s4, s5, s6] [])) _
  refine XS.iinc X6.here hx rfl (hb hby d10_72) rfl (l' := #[.val (.ref o0), s1, .val (.int (i2 + (1 : Int32))), s3, s4, s5, s6]) rfl ?_
  show Steps p.tables e below (T6.setTop (mkF m 75 #[.val (.ref o0), s1, .val (.int (i2 + (1 : Int32))), s3, s4, s5, s6] [])) _
  refine XS.goto X6.here hx rfl (pc0 := 75) (pc' := 55) rfl (hb hby d10_75) (by decide) (by decide) ?_
  exact kt
set_option maxRecDepth 65536 in
set_option maxHeartbeats 40000000 in
theorem tn10_free {p : Program} {l : Launch} {e : Env} {s : State} {m : MethodId} {args : Array Value} {below : List Frame} {meth : Method} {c : Code} {T0 : State} {locs : List Loc} {Z : State} {a0 : Array Value} {h0 : Heap} (o0 : Addr) (s1 : Slot) (i2 : Int32) (s3 : Slot) (s4 : Slot) (s5 : Slot) (s6 : Slot) (w3 : Int32) (w5 : Addr) (w7 : Int32) (cl_w5 : Cell)
    (X0 : Stand p l e ({ frames := 0, cells := 0, slots := 0, locals := 0 } : Room) s m args below meth c T0 locs 0 0) (hx : p.tables.exec = Jvm.exec) (hZ : Z.Warmed39 s.vm) (hw : ∀ d ∈ tables_1, d.before a0 Z = true) (hby : c.code = prog_113_method_10_code) (hml : c.maxLocals = 7) (hown : s.vm.findClass "com/example/umbel/umbel/query/Occurrences" = some m.cls) (e0 : T0.heap = h0) (n0 : Nat) (Z0 : n0 ≤ h0.size) (N0 : Fr n0 locs) (F_size_o0 : Fld Z h0 o0 "com/example/umbel/umbel/query/Occurrences" "size" "I" (.int w3)) (F_used_o0 : Fld Z h0 o0 "com/example/umbel/umbel/query/Occurrences" "used" "[Z" (.ref w5)) (Ar_w5 : Arr Z h0 w5 cl_w5 .boolean) (hin68 : ¬ (i2 < 0 ∨ cl_w5.slots.size ≤ (i2).toNatClampNeg)) (hat68 : cl_w5.slots[(i2).toNatClampNeg]? = some (.int w7)) (hc60 : i2 < w3) (hc69 : w7 = (0 : Int32)) :
    ∃ (T' : State) (locs' : List Loc), Stand p l e ({ frames := 0, cells := 0, slots := 0, locals := 0 } : Room) s m args below meth c T' locs' 0 0 ∧ Fr n0 locs' ∧ T'.heap = h0 ∧
      ∀ target, Steps p.tables e below (T'.setTop (mkF m 78 #[.val (.ref o0), s1, .val (.int i2), s3, s4, s5, s6] [])) target → Steps p.tables e below (T0.setTop (mkF m 55 #[.val (.ref o0), s1, .val (.int i2), s3, s4, s5, s6] [])) target := by
  obtain ⟨T4, X4, e4, st4⟩ := getF X0 hx hZ hown (host := "") (Or.inl (hw _ (List.mem_of_getElem? (i := 41) rfl))) Via.refl e0 F_size_o0 (g := (mkF m 57 #[.val (.ref o0), s1, .val (.int i2), s3, s4, s5, s6] [(.ref o0), (.int i2)])) rfl rfl (hb hby d10_57)
  obtain ⟨T6, X6, e6, st6⟩ := getF X4 hx hZ hown (host := "") (Or.inl (hw _ (List.mem_of_getElem? (i := 31) rfl))) Via.refl e4 F_used_o0 (g := (mkF m 64 #[.val (.ref o0), s1, .val (.int i2), s3, s4, s5, s6] [(.ref o0)])) rfl rfl (hb hby d10_64)
  refine ⟨T6, _, X6, N0, e6, fun target kt => ?_⟩
  show Steps p.tables e below (T0.setTop (mkF m 55 #[.val (.ref o0), s1, .val (.int i2), s3, s4, s5, s6] [])) _
  refine XS.iloadN X0.here hx rfl (hb hby d10_55) rfl ?_
  show Steps p.tables e below (T0.setTop (mkF m 56 #[.val (.ref o0), s1, .val (.int i2), s3, s4, s5, s6] [(.int i2)])) _
  refine XS.aloadN X0.here hx rfl (hb hby d10_56) rfl rfl ?_
  show Steps p.tables e below (T0.setTop (mkF m 57 #[.val (.ref o0), s1, .val (.int i2), s3, s4, s5, s6] [(.ref o0), (.int i2)])) _
  refine st4 _ ?_
  show Steps p.tables e below (T4.setTop (mkF m 60 #[.val (.ref o0), s1, .val (.int i2), s3, s4, s5, s6] [(.int w3), (.int i2)])) _
  refine XS.icmpNo X4.here hx rfl (hb hby d10_60) rfl (tlt hc60).2.1 ?_
  show Steps p.tables e below (T4.setTop (mkF m 63 #[.val (.ref o0), s1, .val (.int i2), s3, s4, s5, s6] [])) _
  refine XS.aloadN X4.here hx rfl (hb hby d10_63) rfl rfl ?_
  show Steps p.tables e below (T4.setTop (mkF m 64 #[.val (.ref o0), s1, .val (.int i2), s3, s4, s5, s6] [(.ref o0)])) _
  refine st6 _ ?_
  show Steps p.tables e below (T6.setTop (mkF m 67 #[.val (.ref o0), s1, .val (.int i2), s3, s4, s5, s6] [(.ref w5)])) _
  refine XS.iloadN X6.here hx rfl (hb hby d10_67) rfl ?_
  show Steps p.tables e below (T6.setTop (mkF m 68 #[.val (.ref o0), s1, .val (.int i2), s3, s4, s5, s6] [(.int i2), (.ref w5)])) _
  refine X6.baloadBooleans hx (j := i2) (v := (.int w7)) (by rw [e6]; exact Ar_w5.1) (State.isArrayOf_alike hZ.alike Ar_w5.2.1) Ar_w5.2.2 hin68 hat68 (g := (mkF m 68 #[.val (.ref o0), s1, .val (.int i2), s3, s4, s5, s6] [(.int i2), (.ref w5)])) rfl rfl (hb hby d10_68) _ ?_
  show Steps p.tables e below (T6.setTop (mkF m 69 #[.val (.ref o0), s1, .val (.int i2), s3, s4, s5, s6] [(.int w7)])) _
  refine XS.ifYes X6.here hx rfl (pc0 := 69) (pc' := 78) rfl (hb hby d10_69) rfl ((if0 _ _).trans (teq hc69).1) (by decide) (by decide) ?_
  exact kt
set_option maxRecDepth 65536 in
set_option maxHeartbeats 40000000 in
theorem tn10_all {p : Program} {l : Launch} {e : Env} {s : State} {m : MethodId} {args : Array Value} {below : List Frame} {meth : Method} {c : Code} {T0 : State} {locs : List Loc} {Z : State} {a0 : Array Value} {h0 : Heap} (o0 : Addr) (s1 : Slot) (i2 : Int32) (s3 : Slot) (s4 : Slot) (s5 : Slot) (s6 : Slot) (w3 : Int32)
    (X0 : Stand p l e ({ frames := 0, cells := 0, slots := 0, locals := 0 } : Room) s m args below meth c T0 locs 0 0) (hx : p.tables.exec = Jvm.exec) (hZ : Z.Warmed39 s.vm) (hw : ∀ d ∈ tables_1, d.before a0 Z = true) (hby : c.code = prog_113_method_10_code) (hml : c.maxLocals = 7) (hown : s.vm.findClass "com/example/umbel/umbel/query/Occurrences" = some m.cls) (e0 : T0.heap = h0) (n0 : Nat) (Z0 : n0 ≤ h0.size) (N0 : Fr n0 locs) (F_size_o0 : Fld Z h0 o0 "com/example/umbel/umbel/query/Occurrences" "size" "I" (.int w3)) (hc60 : ¬ (i2 < w3)) :
    ∃ (T' : State) (locs' : List Loc), Stand p l e ({ frames := 0, cells := 0, slots := 0, locals := 0 } : Room) s m args below meth c T' locs' 0 0 ∧ Fr n0 locs' ∧ T'.heap = h0 ∧
      ∀ target, Steps p.tables e below (T'.setTop (mkF m 78 #[.val (.ref o0), s1, .val (.int i2), s3, s4, s5, s6] [])) target → Steps p.tables e below (T0.setTop (mkF m 55 #[.val (.ref o0), s1, .val (.int i2), s3, s4, s5, s6] [])) target := by
  obtain ⟨T4, X4, e4, st4⟩ := getF X0 hx hZ hown (host := "") (Or.inl (hw _ (List.mem_of_getElem? (i := 41) rfl))) Via.refl e0 F_size_o0 (g := (mkF m 57 #[.val (.ref o0), s1, .val (.int i2), s3, s4, s5, s6] [(.ref o0), (.int i2)])) rfl rfl (hb hby d10_57)
  refine ⟨T4, _, X4, N0, e4, fun target kt => ?_⟩
  show Steps p.tables e below (T0.setTop (mkF m 55 #[.val (.ref o0), s1, .val (.int i2), s3, s4, s5, s6] [])) _
  refine XS.iloadN X0.here hx rfl (hb hby d10_55) rfl ?_
  show Steps p.tables e below (T0.setTop (mkF m 56 #[.val (.ref o0), s1, .val (.int i2), s3, s4, s5, s6] [(.int i2)])) _
  refine XS.aloadN X0.here hx rfl (hb hby d10_56) rfl rfl ?_
  show Steps p.tables e below (T0.setTop (mkF m 57 #[.val (.ref o0), s1, .val (.int i2), s3, s4, s5, s6] [(.ref o0), (.int i2)])) _
  refine st4 _ ?_
  show Steps p.tables e below (T4.setTop (mkF m 60 #[.val (.ref o0), s1, .val (.int i2), s3, s4, s5, s6] [(.int w3), (.int i2)])) _
  refine XS.icmpYes X4.here hx rfl (pc0 := 60) (pc' := 78) rfl (hb hby d10_60) rfl (flt hc60).2.1 (by decide) (by decide) ?_
  exact kt
theorem d10_78 : decode prog_113_method_10_code 78 = .ok (.iload_n 2, 1) := by decide +kernel
theorem d10_79 : decode prog_113_method_10_code 79 = .ok (.aload_n 0, 1) := by decide +kernel
theorem d10_80 : decode prog_113_method_10_code 80 = .ok (.getfield 17, 3) := by decide +kernel
theorem d10_83 : decode prog_113_method_10_code 83 = .ok (.if_icmp .ge 7, 3) := by decide +kernel
set_option maxRecDepth 65536 in
set_option maxHeartbeats 40000000 in
theorem tn10_none {p : Program} {l : Launch} {e : Env} {s : State} {m : MethodId} {args : Array Value} {below : List Frame} {meth : Method} {c : Code} {T0 : State} {locs : List Loc} {Z : State} {a0 : Array Value} {h0 : Heap} (o0 : Addr) (s1 : Slot) (i2 : Int32) (s3 : Slot) (s4 : Slot) (s5 : Slot) (s6 : Slot) (w3 : Int32)
    (X0 : Stand p l e ({ frames := 0, cells := 0, slots := 0, locals := 0 } : Room) s m args below meth c T0 locs 0 0) (hx : p.tables.exec = Jvm.exec) (hZ : Z.Warmed39 s.vm) (hw : ∀ d ∈ tables_1, d.before a0 Z = true) (hby : c.code = prog_113_method_10_code) (hml : c.maxLocals = 7) (hown : s.vm.findClass "com/example/umbel/umbel/query/Occurrences" = some m.cls) (e0 : T0.heap = h0) (n0 : Nat) (Z0 : n0 ≤ h0.size) (N0 : Fr n0 locs) (F_size_o0 : Fld Z h0 o0 "com/example/umbel/umbel/query/Occurrences" "size" "I" (.int w3)) (hc83 : ¬ (i2 < w3)) :
    ∃ (T' : State) (locs' : List Loc), Stand p l e ({ frames := 0, cells := 0, slots := 0, locals := 0 } : Room) s m args below meth c T' locs' 0 0 ∧ Fr n0 locs' ∧ T'.heap = h0 ∧
      ∀ target, Steps p.tables e below (T'.setTop (mkF m 90 #[.val (.ref o0), s1, .val (.int i2), s3, s4, s5, s6] [])) target → Steps p.tables e below (T0.setTop (mkF m 78 #[.val (.ref o0), s1, .val (.int i2), s3, s4, s5, s6] [])) target := by
  obtain ⟨T4, X4, e4, st4⟩ := getF X0 hx hZ hown (host := "") (Or.inl (hw _ (List.mem_of_getElem? (i := 41) rfl))) Via.refl e0 F_size_o0 (g := (mkF m 80 #[.val (.ref o0), s1, .val (.int i2), s3, s4, s5, s6] [(.ref o0), (.int i2)])) rfl rfl (hb hby d10_80)
  refine ⟨T4, _, X4, N0, e4, fun target kt => ?_⟩
  show Steps p.tables e below (T0.setTop (mkF m 78 #[.val (.ref o0), s1, .val (.int i2), s3, s4, s5, s6] [])) _
  refine XS.iloadN X0.here hx rfl (hb hby d10_78) rfl ?_
  show Steps p.tables e below (T0.setTop (mkF m 79 #[.val (.ref o0), s1, .val (.int i2), s3, s4, s5, s6] [(.int i2)])) _
  refine XS.aloadN X0.here hx rfl (hb hby d10_79) rfl rfl ?_
  show Steps p.tables e below (T0.setTop (mkF m 80 #[.val (.ref o0), s1, .val (.int i2), s3, s4, s5, s6] [(.ref o0), (.int i2)])) _
  refine st4 _ ?_
  show Steps p.tables e below (T4.setTop (mkF m 83 #[.val (.ref o0), s1, .val (.int i2), s3, s4, s5, s6] [(.int w3), (.int i2)])) _
  refine XS.icmpYes X4.here hx rfl (pc0 := 83) (pc' := 90) rfl (hb hby d10_83) rfl (flt hc83).2.1 (by decide) (by decide) ?_
  exact kt
set_option maxRecDepth 65536 in
set_option maxHeartbeats 40000000 in
theorem tn10_some {p : Program} {l : Launch} {e : Env} {s : State} {m : MethodId} {args : Array Value} {below : List Frame} {meth : Method} {c : Code} {T0 : State} {locs : List Loc} {Z : State} {a0 : Array Value} {h0 : Heap} (o0 : Addr) (s1 : Slot) (i2 : Int32) (s3 : Slot) (s4 : Slot) (s5 : Slot) (s6 : Slot) (w3 : Int32)
    (X0 : Stand p l e ({ frames := 0, cells := 0, slots := 0, locals := 0 } : Room) s m args below meth c T0 locs 0 0) (hx : p.tables.exec = Jvm.exec) (hZ : Z.Warmed39 s.vm) (hw : ∀ d ∈ tables_1, d.before a0 Z = true) (hby : c.code = prog_113_method_10_code) (hml : c.maxLocals = 7) (hown : s.vm.findClass "com/example/umbel/umbel/query/Occurrences" = some m.cls) (e0 : T0.heap = h0) (n0 : Nat) (Z0 : n0 ≤ h0.size) (N0 : Fr n0 locs) (F_size_o0 : Fld Z h0 o0 "com/example/umbel/umbel/query/Occurrences" "size" "I" (.int w3)) (hc83 : i2 < w3) :
    ∃ (T' : State) (locs' : List Loc), Stand p l e ({ frames := 0, cells := 0, slots := 0, locals := 0 } : Room) s m args below meth c T' locs' 0 0 ∧ Fr n0 locs' ∧ T'.heap = h0 ∧
      ∀ target, Steps p.tables e below (T'.setTop (mkF m 86 #[.val (.ref o0), s1, .val (.int i2), s3, s4, s5, s6] [])) target → Steps p.tables e below (T0.setTop (mkF m 78 #[.val (.ref o0), s1, .val (.int i2), s3, s4, s5, s6] [])) target := by
  obtain ⟨T4, X4, e4, st4⟩ := getF X0 hx hZ hown (host := "") (Or.inl (hw _ (List.mem_of_getElem? (i := 41) rfl))) Via.refl e0 F_size_o0 (g := (mkF m 80 #[.val (.ref o0), s1, .val (.int i2), s3, s4, s5, s6] [(.ref o0), (.int i2)])) rfl rfl (hb hby d10_80)
  refine ⟨T4, _, X4, N0, e4, fun target kt => ?_⟩
  show Steps p.tables e below (T0.setTop (mkF m 78 #[.val (.ref o0), s1, .val (.int i2), s3, s4, s5, s6] [])) _
  refine XS.iloadN X0.here hx rfl (hb hby d10_78) rfl ?_
  show Steps p.tables e below (T0.setTop (mkF m 79 #[.val (.ref o0), s1, .val (.int i2), s3, s4, s5, s6] [(.int i2)])) _
  refine XS.aloadN X0.here hx rfl (hb hby d10_79) rfl rfl ?_
  show Steps p.tables e below (T0.setTop (mkF m 80 #[.val (.ref o0), s1, .val (.int i2), s3, s4, s5, s6] [(.ref o0), (.int i2)])) _
  refine st4 _ ?_
  show Steps p.tables e below (T4.setTop (mkF m 83 #[.val (.ref o0), s1, .val (.int i2), s3, s4, s5, s6] [(.int w3), (.int i2)])) _
  refine XS.icmpNo X4.here hx rfl (hb hby d10_83) rfl (tlt hc83).2.1 ?_
  exact kt
theorem loopA {p : Program} {l : Launch} {e : Env} {s : State} {m : MethodId} {args : Array Value} {below : List Frame} {meth : Method} {c : Code} {Z : State} {a0 : Array Value} {h0 : Heap} (o0 ea : Addr) (s1 : Slot) (K : Int64) (n : Nat) (hn : n ≤ 8) (E : Nat → Int64) (mono : ∀ i j, i ≤ j → j < n → E j < K → E i < K) (hx : p.tables.exec = Jvm.exec) (hZ : Z.Warmed39 s.vm) (hw : ∀ d ∈ tables_1, d.before a0 Z = true) (hby : c.code = prog_113_method_10_code) (hml : c.maxLocals = 7) (hown : s.vm.findClass "com/example/umbel/umbel/query/Occurrences" = some m.cls) (n0 : Nat) (Z0 : n0 ≤ h0.size) (Fx : Fld Z h0 o0 "com/example/umbel/umbel/query/Occurrences" "extents" "[J" (.ref ea)) (V : own_A Z h0 ea .long 8 (fun j => .long (E j))) :
    ∀ (k lo hi : Nat) (i2 i3 : Int32) (s6 : Slot) (T0 : State) (locs : List Loc), hi - lo ≤ k → lo ≤ hi → hi ≤ n → i2.toInt = (lo : Int) → i3.toInt = (hi : Int) → One s6 → (∀ i, i < lo → E i < K) → (∀ i, hi ≤ i → i < n → ¬ E i < K) → Stand p l e ({ frames := 0, cells := 0, slots := 0, locals := 0 } : Room) s m args below meth c T0 locs 0 0 → Fr n0 locs → T0.heap = h0 →
      ∃ (T' : State) (locs' : List Loc) (i2' i3' : Int32) (s6' : Slot) (lo' : Nat), Stand p l e ({ frames := 0, cells := 0, slots := 0, locals := 0 } : Room) s m args below meth c T' locs' 0 0 ∧ Fr n0 locs' ∧ T'.heap = h0 ∧ i2'.toInt = (lo' : Int) ∧ lo' ≤ n ∧ (∀ i, i < lo' → E i < K) ∧ (∀ i, lo' ≤ i → i < n → ¬ E i < K) ∧
        ∀ target, Steps p.tables e below (T'.setTop (mkF m 55 #[.val (.ref o0), s1, .val (.int i2'), .val (.int i3'), .val (.long K), .second, s6'] [])) target → Steps p.tables e below (T0.setTop (mkF m 16 #[.val (.ref o0), s1, .val (.int i2), .val (.int i3), .val (.long K), .second, s6] [])) target := by
  intro k
  induction k with
  | zero =>
    intro lo hi i2 i3 s6 T0 locs h1 h2 h3 e2 e3 hs6 hl hh X0 N0 e0
    obtain ⟨T1, L1, X1, N1, e1, st1⟩ := tn10_out (.val (.ref o0)) s1 i2 i3 (.val (.long K)) .second s6 X0 hx hZ hw hby hml hown e0 n0 Z0 N0 (by rw [own_lt]; omega)
    exact ⟨T1, L1, i2, i3, s6, lo, X1, N1, e1, e2, by omega, hl, fun i g1 g2 => hh i (by omega) g2, st1⟩
  | succ k ih =>
    intro lo hi i2 i3 s6 T0 locs h1 h2 h3 e2 e3 hs6 hl hh X0 N0 e0
    by_cases q : lo < hi
    · have hm := own_mid i2 i3 lo hi e2 e3 (by omega) (by omega)
      have hm1 : (lo + hi) / 2 < hi := by omega
      have hm2 : lo ≤ (lo + hi) / 2 := by omega
      obtain ⟨cl, Ar, S, H⟩ := id V
      have hin := own_inb S hm (by omega)
      have hat : cl.slots[(((i2 + i3).toUInt32 >>> ((1 : Int32) &&& 31).toUInt32).toInt32).toNatClampNeg]? = some (.long (E ((lo + hi) / 2))) := by rw [own_nat hm]; exact H _ (by omega)
      have hlt : i2 < i3 := by rw [own_lt]; omega
      by_cases r : E ((lo + hi) / 2) < K
      · obtain ⟨T1, L1, X1, N1, e1, st1⟩ := tn10_up o0 s1 i2 i3 K s6 ea (E ((lo + hi) / 2)) cl X0 hx hZ hw hby hml hown e0 n0 Z0 N0 hs6 Fx Ar hin hat hlt ((lw_lt _ _).mpr r)
        have ha : ((((i2 + i3).toUInt32 >>> ((1 : Int32) &&& 31).toUInt32).toInt32) + (1 : Int32)).toInt = (((lo + hi) / 2 + 1 : Nat) : Int) := by rw [own_add1 _ (by omega) (by omega), hm]; omega
        obtain ⟨T', L', a', b', c', d', g1, g2, g3, g4, g5, g6, g7, st'⟩ := ih ((lo + hi) / 2 + 1) hi _ i3 _ T1 L1 (by omega) (by omega) h3 ha e3 (One.val (w := .int _) rfl) (fun i hi' => mono i ((lo + hi) / 2) (by omega) (by omega) r) hh X1 N1 e1
        exact ⟨T', L', a', b', c', d', g1, g2, g3, g4, g5, g6, g7, fun target h => st1 target (st' target h)⟩
      · obtain ⟨T1, L1, X1, N1, e1, st1⟩ := tn10_down o0 s1 i2 i3 K s6 ea (E ((lo + hi) / 2)) cl X0 hx hZ hw hby hml hown e0 n0 Z0 N0 hs6 Fx Ar hin hat hlt (fun h => r ((lw_lt _ _).mp h))
        obtain ⟨T', L', a', b', c', d', g1, g2, g3, g4, g5, g6, g7, st'⟩ := ih lo ((lo + hi) / 2) i2 _ _ T1 L1 (by omega) (by omega) (by omega) e2 hm (One.val (w := .int _) rfl) hl (fun i g1 g2 h => r (mono ((lo + hi) / 2) i g1 g2 h)) X1 N1 e1
        exact ⟨T', L', a', b', c', d', g1, g2, g3, g4, g5, g6, g7, fun target h => st1 target (st' target h)⟩
    · obtain ⟨T1, L1, X1, N1, e1, st1⟩ := tn10_out (.val (.ref o0)) s1 i2 i3 (.val (.long K)) .second s6 X0 hx hZ hw hby hml hown e0 n0 Z0 N0 (by rw [own_lt]; omega)
      exact ⟨T1, L1, i2, i3, s6, lo, X1, N1, e1, e2, by omega, hl, fun i g1 g2 => hh i (by omega) g2, st1⟩
theorem loopB {p : Program} {l : Launch} {e : Env} {s : State} {m : MethodId} {args : Array Value} {below : List Frame} {meth : Method} {c : Code} {Z : State} {a0 : Array Value} {h0 : Heap} (o0 ua : Addr) (s1 s3 s4 s5 s6 : Slot) (sz : Int32) (n : Nat) (hn : n ≤ 8) (hsz : sz.toInt = (n : Int)) (U : Nat → Int32) (R : Nat → Prop) (hx : p.tables.exec = Jvm.exec) (hZ : Z.Warmed39 s.vm) (hw : ∀ d ∈ tables_1, d.before a0 Z = true) (hby : c.code = prog_113_method_10_code) (hml : c.maxLocals = 7) (hown : s.vm.findClass "com/example/umbel/umbel/query/Occurrences" = some m.cls) (n0 : Nat) (Z0 : n0 ≤ h0.size) (Fs : Fld Z h0 o0 "com/example/umbel/umbel/query/Occurrences" "size" "I" (.int sz)) (Fu : Fld Z h0 o0 "com/example/umbel/umbel/query/Occurrences" "used" "[Z" (.ref ua)) (V : own_A Z h0 ua .boolean 8 (fun j => .int (U j))) :
    ∀ (k lo : Nat) (i2 : Int32) (T0 : State) (locs : List Loc), lo + k = n → i2.toInt = (lo : Int) → (∀ i, i < lo → ¬ (R i ∧ U i = 0)) → (∀ i, lo ≤ i → i < n → R i) → Stand p l e ({ frames := 0, cells := 0, slots := 0, locals := 0 } : Room) s m args below meth c T0 locs 0 0 → Fr n0 locs → T0.heap = h0 →
      ∃ (T' : State) (locs' : List Loc) (i2' : Int32) (lo' : Nat), Stand p l e ({ frames := 0, cells := 0, slots := 0, locals := 0 } : Room) s m args below meth c T' locs' 0 0 ∧ Fr n0 locs' ∧ T'.heap = h0 ∧ i2'.toInt = (lo' : Int) ∧ lo' ≤ n ∧ (∀ i, i < lo' → ¬ (R i ∧ U i = 0)) ∧ (lo' < n → R lo' ∧ U lo' = 0) ∧
        ∀ target, Steps p.tables e below (T'.setTop (mkF m 78 #[.val (.ref o0), s1, .val (.int i2'), s3, s4, s5, s6] [])) target → Steps p.tables e below (T0.setTop (mkF m 55 #[.val (.ref o0), s1, .val (.int i2), s3, s4, s5, s6] [])) target := by
  intro k
  induction k with
  | zero =>
    intro lo i2 T0 locs h1 e2 hl hh X0 N0 e0
    obtain ⟨T1, L1, X1, N1, e1, st1⟩ := tn10_all o0 s1 i2 s3 s4 s5 s6 sz X0 hx hZ hw hby hml hown e0 n0 Z0 N0 Fs (by rw [own_lt]; omega)
    exact ⟨T1, L1, i2, lo, X1, N1, e1, e2, by omega, hl, fun h => absurd h (by omega), st1⟩
  | succ k ih =>
    intro lo i2 T0 locs h1 e2 hl hh X0 N0 e0
    obtain ⟨cl, Ar, S, H⟩ := id V
    have hin := own_inb S e2 (by omega)
    have hat : cl.slots[i2.toNatClampNeg]? = some (.int (U lo)) := by rw [own_nat e2]; exact H _ (by omega)
    have hlt : i2 < sz := by rw [own_lt]; omega
    by_cases q : U lo = 0
    · obtain ⟨T1, L1, X1, N1, e1, st1⟩ := tn10_free o0 s1 i2 s3 s4 s5 s6 sz ua (U lo) cl X0 hx hZ hw hby hml hown e0 n0 Z0 N0 Fs Fu Ar hin hat hlt q
      exact ⟨T1, L1, i2, lo, X1, N1, e1, e2, by omega, hl, fun h => ⟨hh lo (Nat.le_refl _) h, q⟩, st1⟩
    · obtain ⟨T1, L1, X1, N1, e1, st1⟩ := tn10_used o0 s1 i2 s3 s4 s5 s6 sz ua (U lo) cl X0 hx hZ hw hby hml hown e0 n0 Z0 N0 Fs Fu Ar hin hat hlt q
      have ha : (i2 + (1 : Int32)).toInt = ((lo + 1 : Nat) : Int) := by rw [own_add1 _ (by omega) (by omega), e2]; omega
      obtain ⟨T', L', a', d', g1, g2, g3, g4, g5, g6, g7, st'⟩ := ih (lo + 1) _ T1 L1 (by omega) ha (fun i hi => by
        by_cases u : i = lo
        · subst u; exact fun h => q h.2
        · exact hl i (by omega)) (fun i g1 g2 => hh i (by omega) g2) X1 N1 e1
      exact ⟨T', L', a', d', g1, g2, g3, g4, g5, g6, g7, fun target h => st1 target (st' target h)⟩
theorem d10_0 : decode prog_113_method_10_code 0 = .ok (.iconst 0, 1) := by decide +kernel
theorem d10_1 : decode prog_113_method_10_code 1 = .ok (.istore_n 2, 1) := by decide +kernel
theorem d10_2 : decode prog_113_method_10_code 2 = .ok (.aload_n 0, 1) := by decide +kernel
theorem d10_3 : decode prog_113_method_10_code 3 = .ok (.getfield 17, 3) := by decide +kernel
theorem d10_6 : decode prog_113_method_10_code 6 = .ok (.istore_n 3, 1) := by decide +kernel
theorem d10_7 : decode prog_113_method_10_code 7 = .ok (.iload_n 1, 1) := by decide +kernel
theorem d10_8 : decode prog_113_method_10_code 8 = .ok (.i2l, 1) := by decide +kernel
theorem d10_9 : decode prog_113_method_10_code 9 = .ok (.lconst 1, 1) := by decide +kernel
theorem d10_10 : decode prog_113_method_10_code 10 = .ok (.ladd, 1) := by decide +kernel
theorem d10_11 : decode prog_113_method_10_code 11 = .ok (.bipush 32, 2) := by decide +kernel
theorem d10_13 : decode prog_113_method_10_code 13 = .ok (.lshl, 1) := by decide +kernel
theorem d10_14 : decode prog_113_method_10_code 14 = .ok (.lstore 4, 2) := by decide +kernel
theorem d10_90 : decode prog_113_method_10_code 90 = .ok (.iconst (-1), 1) := by decide +kernel
theorem d10_91 : decode prog_113_method_10_code 91 = .ok (.ireturn, 1) := by decide +kernel
theorem pn_10 : plainName "com/example/umbel/umbel/query/Occurrences" = true := by first | (simp [plainName, overriddenIn]; done) | decide +kernel
theorem ef_10 (m : MethodId) (x0 : Addr) (x1 : Int32) : entryFrame m #[(.ref x0), (.int x1)] 7 = mkF m 0 #[.val (.ref x0), .val (.int x1), .unset, .unset, .unset, .unset, .unset] [] := by first | (simp [entryFrame, mkF, argsToLocals, Value.category]; done) | rfl
theorem d10_86 : decode prog_113_method_10_code 86 = .ok (.iload_n 2, 1) := by decide +kernel
theorem d10_87 : decode prog_113_method_10_code 87 = .ok (.goto 4, 3) := by decide +kernel
def Q10 (Z : State) (a1 : Addr) (p2 : Int32) (n : Nat) (E : Nat → Int64) (U : Nat → Int32) (h0 : Heap) (n0 : Nat) (v : Option Value) (h : Heap) (L : List Loc) : Prop := ∃ r : Int32, v = some (.int r) ∧ own_res 0 n (fun j => ¬ E j < own_key p2 ∧ U j = 0) r ∧ Fr n0 L ∧ h = h0
set_option maxRecDepth 65536 in
set_option maxHeartbeats 40000000 in
theorem rm10 (l : Launch) (Z : State) (a0 : Array Value) (hw : ∀ d ∈ tables_1, d.before a0 Z = true) (ws : List Jvm.Cond) (a1 : Addr) (p2 : Int32) (ea ua : Addr) (sz : Int32) (n : Nat) (E : Nat → Int64) (Uf : Nat → Int32) (h0 : Heap) (n0 : Nat) (Z0 : n0 ≤ h0.size) (O : own_O Z h0 n0 a1 ea ua sz E Uf) (hsz : sz.toInt = (n : Int)) (hn : n ≤ 8) (mono : ∀ i j, i ≤ j → j < n → E j < own_key p2 → E i < own_key p2) :
    MetFree l (⟨"com/example/umbel/umbel/query/Occurrences", "firstUnusedAfter", "(I)I"⟩ : MethodName) (head1 (Jvm.Cond.code (⟨"com/example/umbel/umbel/query/Occurrences", "firstUnusedAfter", "(I)I"⟩ : MethodName) prog_113_method_10_code 7 (some .int) :: ws) ({ frames := 0, cells := 0, slots := 0, locals := 0 } : Room)) (fun a U => a = #[(.ref a1), (.int p2)] ∧ Z.Warmed39 U.vm ∧ U.heap = h0) (fun _ _ _ _ _ => True) (fun _ U o U' => ∃ v L, o = .returned v ∧ Q10 Z a1 p2 n E Uf h0 n0 v U'.heap L ∧ FrameEnd U o U' L ({ frames := 0, cells := 0, slots := 0, locals := 0 } : Room).cells ({ frames := 0, cells := 0, slots := 0, locals := 0 } : Room).slots) := by
  refine MetFree.of_bodySF (plainFor_of_name pn_10) hisR ?_
  intro p e s m args below meth c s₁ Bd hml0 hP hK
  obtain ⟨rfl, hZ, hh⟩ := hP
  have hx := Bd.exec
  have hby := Bd.bytes
  have hml : c.maxLocals = 7 := hml0
  have hown : s.vm.findClass "com/example/umbel/umbel/query/Occurrences" = some m.cls := findClass_of_methodNamed Bd.named
  have hnm := (name_of_methodNamed Bd.named Bd.method).1
  have X0 : Stand p l e ({ frames := 0, cells := 0, slots := 0, locals := 0 } : Room) s m #[(.ref a1), (.int p2)] below meth c s₁ [] 0 0 := Stand.of_body Bd
  have e0 : s₁.heap = h0 := by rw [← hh, Bd.state]; rfl
  have N0 := Fr.nil n0
  have pre0 : ∀ t, Steps p.tables e below (s₁.setTop (mkF m 0 #[.val (.ref a1), .val (.int p2), .unset, .unset, .unset, .unset, .unset] [])) t → Steps p.tables e below (s₁.setTop (entryFrame m #[(.ref a1), (.int p2)] 7)) t := fun t k => castTop (ef_10 m a1 p2) k
  obtain ⟨E_a1, F_extents_a1, F_used_a1, F_size_a1, VE, VU, -, -, -⟩ := O
  obtain ⟨T4, X4, e4, st4⟩ := getF X0 hx hZ hown (host := "") (Or.inl (hw _ (List.mem_of_getElem? (i := 41) rfl))) Via.refl e0 F_size_a1 (g := (mkF m 3 #[.val (.ref a1), .val (.int p2), .val (.int (0 : Int32)), .unset, .unset, .unset, .unset] [(.ref a1)])) rfl rfl (hb hby d10_3)
  obtain ⟨T5, L5, y2, z3, s6, lo, X5, N5, e5, y2e, lon, loa, lob, st5⟩ := loopA a1 ea (.val (.int p2)) (own_key p2) n hn E mono hx hZ hw hby hml hown n0 Z0 F_extents_a1 VE n 0 n (0 : Int32) sz .unset T4 _ (by omega) (by omega) (Nat.le_refl _) (by decide) hsz One.u (fun i h => absurd h (by omega)) (fun i h1 h2 => absurd h2 (by omega)) X4 N0 e4
  obtain ⟨T6, L6, z2, lo2, X6, N6, e6, z2e, lon2, loa2, lob2, st6⟩ := loopB a1 ua (.val (.int p2)) (.val (.int z3)) (.val (.long (own_key p2))) .second s6 sz n hn hsz Uf (fun j => ¬ E j < own_key p2) hx hZ hw hby hml hown n0 Z0 F_size_a1 F_used_a1 VU (n - lo) lo y2 T5 L5 (by omega) y2e (fun i h => fun h2 => h2.1 (loa i h)) lob X5 N5 e5
  by_cases q : lo2 < n
  · obtain ⟨T7, L7, X7, N7, e7, st7⟩ := tn10_some a1 (.val (.int p2)) z2 (.val (.int z3)) (.val (.long (own_key p2))) .second s6 sz X6 hx hZ hw hby hml hown e6 n0 Z0 N6 F_size_a1 (by rw [own_lt]; omega)
    obtain ⟨fs, hr, hrun, hended, hW, hsame⟩ := X7.leave (v := some (.int z2)) (fun h => by rw [Bd.returns] at h; cases h)
    refine ⟨_, _, pre0 _ ?_, hrun, hended, _, _, rfl, ?_, ⟨_, rfl⟩, hW, hsame.mono (by decide) (by decide)⟩
    · show Steps p.tables e below (s₁.setTop (mkF m 0 #[.val (.ref a1), .val (.int p2), .unset, .unset, .unset, .unset, .unset] [])) _
      refine XS.iconst X0.here hx rfl (hb hby d10_0) ?_
      show Steps p.tables e below (s₁.setTop (mkF m 1 #[.val (.ref a1), .val (.int p2), .unset, .unset, .unset, .unset, .unset] [(.int (0 : Int32))])) _
      refine XS.istoreN X0.here hx rfl (hb hby d10_1) rfl (l' := #[.val (.ref a1), .val (.int p2), .val (.int (0 : Int32)), .unset, .unset, .unset, .unset]) rfl ?_
      show Steps p.tables e below (s₁.setTop (mkF m 2 #[.val (.ref a1), .val (.int p2), .val (.int (0 : Int32)), .unset, .unset, .unset, .unset] [])) _
      refine XS.aloadN X0.here hx rfl (hb hby d10_2) rfl rfl ?_
      show Steps p.tables e below (s₁.setTop (mkF m 3 #[.val (.ref a1), .val (.int p2), .val (.int (0 : Int32)), .unset, .unset, .unset, .unset] [(.ref a1)])) _
      refine st4 _ ?_
      show Steps p.tables e below (T4.setTop (mkF m 6 #[.val (.ref a1), .val (.int p2), .val (.int (0 : Int32)), .unset, .unset, .unset, .unset] [(.int sz)])) _
      refine XS.istoreN X4.here hx rfl (hb hby d10_6) rfl (l' := #[.val (.ref a1), .val (.int p2), .val (.int (0 : Int32)), .val (.int sz), .unset, .unset, .unset]) rfl ?_
      show Steps p.tables e below (T4.setTop (mkF m 7 #[.val (.ref a1), .val (.int p2), .val (.int (0 : Int32)), .val (.int sz), .unset, .unset, .unset] [])) _
      refine XS.iloadN X4.here hx rfl (hb hby d10_7) rfl ?_
      show Steps p.tables e below (T4.setTop (mkF m 8 #[.val (.ref a1), .val (.int p2), .val (.int (0 : Int32)), .val (.int sz), .unset, .unset, .unset] [(.int p2)])) _
      refine XS.i2l X4.here hx rfl (hb hby d10_8) rfl ?_
      show Steps p.tables e below (T4.setTop (mkF m 9 #[.val (.ref a1), .val (.int p2), .val (.int (0 : Int32)), .val (.int sz), .unset, .unset, .unset] [(.long (p2.toInt64))])) _
      refine XS.lconst X4.here hx rfl (hb hby d10_9) ?_
      show Steps p.tables e below (T4.setTop (mkF m 10 #[.val (.ref a1), .val (.int p2), .val (.int (0 : Int32)), .val (.int sz), .unset, .unset, .unset] [(.long (1 : Int64)), (.long (p2.toInt64))])) _
      refine XS.ladd X4.here hx rfl (hb hby d10_10) rfl ?_
      show Steps p.tables e below (T4.setTop (mkF m 11 #[.val (.ref a1), .val (.int p2), .val (.int (0 : Int32)), .val (.int sz), .unset, .unset, .unset] [(.long ((p2.toInt64) + (1 : Int64)))])) _
      refine XS.bipush X4.here hx rfl (hb hby d10_11) ?_
      show Steps p.tables e below (T4.setTop (mkF m 13 #[.val (.ref a1), .val (.int p2), .val (.int (0 : Int32)), .val (.int sz), .unset, .unset, .unset] [(.int (32 : Int32)), (.long ((p2.toInt64) + (1 : Int64)))])) _
      refine XS.lshl X4.here hx rfl (hb hby d10_13) rfl ?_
      show Steps p.tables e below (T4.setTop (mkF m 14 #[.val (.ref a1), .val (.int p2), .val (.int (0 : Int32)), .val (.int sz), .unset, .unset, .unset] [(.long (own_key p2))])) _
      refine XS.lstore X4.here hx rfl (hb hby d10_14) rfl (l' := #[.val (.ref a1), .val (.int p2), .val (.int (0 : Int32)), .val (.int sz), .val (.long (own_key p2)), .second, .unset]) rfl ?_
      show Steps p.tables e below (T4.setTop (mkF m 16 #[.val (.ref a1), .val (.int p2), .val (.int (0 : Int32)), .val (.int sz), .val (.long (own_key p2)), .second, .unset] [])) _
      refine st5 _ (st6 _ (st7 _ ?_))
      show Steps p.tables e below (T7.setTop (mkF m 86 #[.val (.ref a1), .val (.int p2), .val (.int z2), .val (.int z3), .val (.long (own_key p2)), .second, s6] [])) _
      refine XS.iloadN X7.here hx rfl (hb hby d10_86) rfl ?_
      show Steps p.tables e below (T7.setTop (mkF m 87 #[.val (.ref a1), .val (.int p2), .val (.int z2), .val (.int z3), .val (.long (own_key p2)), .second, s6] [(.int z2)])) _
      refine XS.goto X7.here hx rfl (pc0 := 87) (pc' := 91) rfl (hb hby d10_87) (by decide) (by decide) ?_
      show Steps p.tables e below (T7.setTop (mkF m 91 #[.val (.ref a1), .val (.int p2), .val (.int z2), .val (.int z3), .val (.long (own_key p2)), .second, s6] [(.int z2)])) _
      exact retI X7 hx Bd.returns (hb hby d10_91) hr
    · show Q10 Z a1 p2 n E Uf h0 n0 _ T7.heap _
      rw [e7]
      exact ⟨_, rfl, Or.inr ⟨lo2, Nat.zero_le _, q, z2e, lob2 q, fun i _ h => loa2 i h⟩, N7, rfl⟩
  · obtain ⟨T7, L7, X7, N7, e7, st7⟩ := tn10_none a1 (.val (.int p2)) z2 (.val (.int z3)) (.val (.long (own_key p2))) .second s6 sz X6 hx hZ hw hby hml hown e6 n0 Z0 N6 F_size_a1 (by rw [own_lt]; omega)
    obtain ⟨fs, hr, hrun, hended, hW, hsame⟩ := X7.leave (v := some (.int (-1 : Int32))) (fun h => by rw [Bd.returns] at h; cases h)
    refine ⟨_, _, pre0 _ ?_, hrun, hended, _, _, rfl, ?_, ⟨_, rfl⟩, hW, hsame.mono (by decide) (by decide)⟩
    · show Steps p.tables e below (s₁.setTop (mkF m 0 #[.val (.ref a1), .val (.int p2), .unset, .unset, .unset, .unset, .unset] [])) _
      refine XS.iconst X0.here hx rfl (hb hby d10_0) ?_
      show Steps p.tables e below (s₁.setTop (mkF m 1 #[.val (.ref a1), .val (.int p2), .unset, .unset, .unset, .unset, .unset] [(.int (0 : Int32))])) _
      refine XS.istoreN X0.here hx rfl (hb hby d10_1) rfl (l' := #[.val (.ref a1), .val (.int p2), .val (.int (0 : Int32)), .unset, .unset, .unset, .unset]) rfl ?_
      show Steps p.tables e below (s₁.setTop (mkF m 2 #[.val (.ref a1), .val (.int p2), .val (.int (0 : Int32)), .unset, .unset, .unset, .unset] [])) _
      refine XS.aloadN X0.here hx rfl (hb hby d10_2) rfl rfl ?_
      show Steps p.tables e below (s₁.setTop (mkF m 3 #[.val (.ref a1), .val (.int p2), .val (.int (0 : Int32)), .unset, .unset, .unset, .unset] [(.ref a1)])) _
      refine st4 _ ?_
      show Steps p.tables e below (T4.setTop (mkF m 6 #[.val (.ref a1), .val (.int p2), .val (.int (0 : Int32)), .unset, .unset, .unset, .unset] [(.int sz)])) _
      refine XS.istoreN X4.here hx rfl (hb hby d10_6) rfl (l' := #[.val (.ref a1), .val (.int p2), .val (.int (0 : Int32)), .val (.int sz), .unset, .unset, .unset]) rfl ?_
      show Steps p.tables e below (T4.setTop (mkF m 7 #[.val (.ref a1), .val (.int p2), .val (.int (0 : Int32)), .val (.int sz), .unset, .unset, .unset] [])) _
      refine XS.iloadN X4.here hx rfl (hb hby d10_7) rfl ?_
      show Steps p.tables e below (T4.setTop (mkF m 8 #[.val (.ref a1), .val (.int p2), .val (.int (0 : Int32)), .val (.int sz), .unset, .unset, .unset] [(.int p2)])) _
      refine XS.i2l X4.here hx rfl (hb hby d10_8) rfl ?_
      show Steps p.tables e below (T4.setTop (mkF m 9 #[.val (.ref a1), .val (.int p2), .val (.int (0 : Int32)), .val (.int sz), .unset, .unset, .unset] [(.long (p2.toInt64))])) _
      refine XS.lconst X4.here hx rfl (hb hby d10_9) ?_
      show Steps p.tables e below (T4.setTop (mkF m 10 #[.val (.ref a1), .val (.int p2), .val (.int (0 : Int32)), .val (.int sz), .unset, .unset, .unset] [(.long (1 : Int64)), (.long (p2.toInt64))])) _
      refine XS.ladd X4.here hx rfl (hb hby d10_10) rfl ?_
      show Steps p.tables e below (T4.setTop (mkF m 11 #[.val (.ref a1), .val (.int p2), .val (.int (0 : Int32)), .val (.int sz), .unset, .unset, .unset] [(.long ((p2.toInt64) + (1 : Int64)))])) _
      refine XS.bipush X4.here hx rfl (hb hby d10_11) ?_
      show Steps p.tables e below (T4.setTop (mkF m 13 #[.val (.ref a1), .val (.int p2), .val (.int (0 : Int32)), .val (.int sz), .unset, .unset, .unset] [(.int (32 : Int32)), (.long ((p2.toInt64) + (1 : Int64)))])) _
      refine XS.lshl X4.here hx rfl (hb hby d10_13) rfl ?_
      show Steps p.tables e below (T4.setTop (mkF m 14 #[.val (.ref a1), .val (.int p2), .val (.int (0 : Int32)), .val (.int sz), .unset, .unset, .unset] [(.long (own_key p2))])) _
      refine XS.lstore X4.here hx rfl (hb hby d10_14) rfl (l' := #[.val (.ref a1), .val (.int p2), .val (.int (0 : Int32)), .val (.int sz), .val (.long (own_key p2)), .second, .unset]) rfl ?_
      show Steps p.tables e below (T4.setTop (mkF m 16 #[.val (.ref a1), .val (.int p2), .val (.int (0 : Int32)), .val (.int sz), .val (.long (own_key p2)), .second, .unset] [])) _
      refine st5 _ (st6 _ (st7 _ ?_))
      show Steps p.tables e below (T7.setTop (mkF m 90 #[.val (.ref a1), .val (.int p2), .val (.int z2), .val (.int z3), .val (.long (own_key p2)), .second, s6] [])) _
      refine XS.iconst X7.here hx rfl (hb hby d10_90) ?_
      show Steps p.tables e below (T7.setTop (mkF m 91 #[.val (.ref a1), .val (.int p2), .val (.int z2), .val (.int z3), .val (.long (own_key p2)), .second, s6] [(.int (-1 : Int32))])) _
      exact retI X7 hx Bd.returns (hb hby d10_91) hr
    · show Q10 Z a1 p2 n E Uf h0 n0 _ T7.heap _
      rw [e7]
      exact ⟨_, rfl, Or.inl ⟨rfl, fun j _ h => loa2 j (by omega)⟩, N7, rfl⟩
theorem pd_0_0 : parseMethodDescriptor "(II)I" = some ⟨[.int, .int], some .int⟩ := by decide +kernel
theorem os_tn0_0_7 {z0 : Value} {s1 : Slot} {s2 : Slot} {s3 : Slot} {s4 : Slot} {z5 : Value} {s6 : Slot} {s7 : Slot} {s8 : Slot} {s9 : Slot} {s10 : Slot} {s11 : Slot} {s12 : Slot} {s13 : Slot} {s14 : Slot} {s15 : Slot} {s16 : Slot} {s17 : Slot} {s18 : Slot} {s19 : Slot} {s20 : Slot} {s21 : Slot} {s22 : Slot} {s23 : Slot} {v : Int32} (h : One s6) : storeLocals #[.val z0, s1, s2, s3, s4, .val z5, s6, s7, s8, s9, s10, s11, s12, s13, s14, s15, s16, s17, s18, s19, s20, s21, s22, s23] 6 (.int v) = some #[.val z0, s1, s2, s3, s4, .val z5, .val (.int v), s7, s8, s9, s10, s11, s12, s13, s14, s15, s16, s17, s18, s19, s20, s21, s22, s23] := by
  rcases h with rfl | ⟨w, rfl, hw⟩
  · rfl
  · cases w <;> first | rfl | (simp [Value.category] at hw)
theorem os_tn0_0_17 {z0 : Value} {s1 : Slot} {s2 : Slot} {s3 : Slot} {s4 : Slot} {z5 : Value} {z6 : Value} {s7 : Slot} {s8 : Slot} {s9 : Slot} {s10 : Slot} {s11 : Slot} {s12 : Slot} {s13 : Slot} {s14 : Slot} {s15 : Slot} {s16 : Slot} {s17 : Slot} {s18 : Slot} {s19 : Slot} {s20 : Slot} {s21 : Slot} {s22 : Slot} {s23 : Slot} {v : Int32} (h : One s7) : storeLocals #[.val z0, s1, s2, s3, s4, .val z5, .val z6, s7, s8, s9, s10, s11, s12, s13, s14, s15, s16, s17, s18, s19, s20, s21, s22, s23] 7 (.int v) = some #[.val z0, s1, s2, s3, s4, .val z5, .val z6, .val (.int v), s8, s9, s10, s11, s12, s13, s14, s15, s16, s17, s18, s19, s20, s21, s22, s23] := by
  rcases h with rfl | ⟨w, rfl, hw⟩
  · rfl
  · cases w <;> first | rfl | (simp [Value.category] at hw)
set_option maxRecDepth 65536 in
set_option maxHeartbeats 40000000 in
theorem tn0_0 {p : Program} {l : Launch} {e : Env} {s : State} {m : MethodId} {args : Array Value} {below : List Frame} {meth : Method} {c : Code} {T0 : State} {locs : List Loc} {Z : State} {a0 : Array Value} {h0 : Heap} (i0 : Int32) (s1 : Slot) (s2 : Slot) (s3 : Slot) (s4 : Slot) (i5 : Int32) (s6 : Slot) (s7 : Slot) (s8 : Slot) (s9 : Slot) (s10 : Slot) (s11 : Slot) (s12 : Slot) (s13 : Slot) (s14 : Slot) (s15 : Slot) (s16 : Slot) (s17 : Slot) (s18 : Slot) (s19 : Slot) (s20 : Slot) (s21 : Slot) (s22 : Slot) (s23 : Slot)
    (X0 : Stand p l e room_1 s m args below meth c T0 locs 0 0) (hx : p.tables.exec = Jvm.exec) (hZ : Z.Warmed39 s.vm) (hw : ∀ d ∈ tables_1, d.before a0 Z = true) (hby : c.code = code) (hml : c.maxLocals = 24) (hown : s.vm.findClass "com/example/umbel/umbel/query/OccurrencesFirstUnusedAfterPinLaw" = some m.cls) (e0 : T0.heap = h0) (n0 : Nat) (Z0 : n0 ≤ h0.size) (N0 : Fr n0 locs) (hs6 : One s6) (hs7 : One s7) (hnz6 : ¬ ((5 : Int32) = (0 : Int32))) :
    ∃ (T' : State) (locs' : List Loc), Stand p l e room_1 s m args below meth c T' locs' 0 0 ∧ Fr n0 locs' ∧ T'.heap = h0 ∧
      ∀ target, Steps p.tables e below (T'.setTop (mkF m 19 #[.val (.int i0), s1, s2, s3, s4, .val (.int i5), .val (.int ((i5 &&& (7 : Int32)) % (5 : Int32))), .val (.int (own_max (1 : Int32) (i0 &&& (2147483647 : Int32)))), s8, s9, s10, s11, s12, s13, s14, s15, s16, s17, s18, s19, s20, s21, s22, s23] [])) target → Steps p.tables e below (T0.setTop (mkF m 0 #[.val (.int i0), s1, s2, s3, s4, .val (.int i5), s6, s7, s8, s9, s10, s11, s12, s13, s14, s15, s16, s17, s18, s19, s20, s21, s22, s23] [])) target := by
  obtain ⟨_, _, ⟨T6, L6, k6, n6⟩, -, X6, ⟨Lc6, hQ6, l6, y6, z6⟩, st6⟩ := Jvm.LawKit.callS X0 hx (y := (⟨"java/lang/Math", "max", "(II)I"⟩ : MethodName)) hown (mvT hZ (hw _ (List.mem_of_getElem? (i := 1) rfl))) (mvT hZ (hw _ (List.mem_of_getElem? (i := 2) rfl))) (mvT hZ (hw _ (List.mem_of_getElem? (i := 3) rfl))) (mvT hZ (hw _ (List.mem_of_getElem? (i := 4) rfl))) (by decide) (backOf (W := 0) (rm1 l Z a0 hw [] (1 : Int32) (i0 &&& (2147483647 : Int32)) h0 n0 Z0) hZ (hw _ (List.mem_of_getElem? (i := 4) rfl)) (hw _ (List.mem_of_getElem? (i := 3) rfl)) (by decide) (by decide)) (g := (mkF m 14 #[.val (.int i0), s1, s2, s3, s4, .val (.int i5), .val (.int ((i5 &&& (7 : Int32)) % (5 : Int32))), s7, s8, s9, s10, s11, s12, s13, s14, s15, s16, s17, s18, s19, s20, s21, s22, s23] [(.int (i0 &&& (2147483647 : Int32))), (.int (1 : Int32))])) rfl (by rw [hml]; rfl) (argsL := [(.int (1 : Int32)), (.int (i0 &&& (2147483647 : Int32)))]) (rest := []) (lenOf pd_0_0 rfl) rfl (by show 2 * 0 + _ ≤ _; exact Nat.le_of_eq rfl) (hb hby at_14) (fun _ _ => ⟨rfl, e0, (by decide : 0 + 0 ≤ _), (by decide : 0 + 0 ≤ _)⟩)
  dsimp only [Pt.U, Pt.locs, Pt.cells, Pt.slots] at X6 l6 y6 z6 st6 hQ6
  subst l6 y6 z6
  obtain ⟨rfl, N6q, e6q⟩ := hQ6
  have N6 := Fr.app N0 N6q
  refine ⟨T6, _, X6, N6, e6q, fun target kt => ?_⟩
  show Steps p.tables e below (T0.setTop (mkF m 0 #[.val (.int i0), s1, s2, s3, s4, .val (.int i5), s6, s7, s8, s9, s10, s11, s12, s13, s14, s15, s16, s17, s18, s19, s20, s21, s22, s23] [])) _
  refine XS.iload X0.here hx rfl (hb hby at_0) rfl ?_
  show Steps p.tables e below (T0.setTop (mkF m 2 #[.val (.int i0), s1, s2, s3, s4, .val (.int i5), s6, s7, s8, s9, s10, s11, s12, s13, s14, s15, s16, s17, s18, s19, s20, s21, s22, s23] [(.int i5)])) _
  refine XS.bipush X0.here hx rfl (hb hby at_2) ?_
  show Steps p.tables e below (T0.setTop (mkF m 4 #[.val (.int i0), s1, s2, s3, s4, .val (.int i5), s6, s7, s8, s9, s10, s11, s12, s13, s14, s15, s16, s17, s18, s19, s20, s21, s22, s23] [(.int (7 : Int32)), (.int i5)])) _
  refine XS.iand X0.here hx rfl (hb hby at_4) rfl ?_
  show Steps p.tables e below (T0.setTop (mkF m 5 #[.val (.int i0), s1, s2, s3, s4, .val (.int i5), s6, s7, s8, s9, s10, s11, s12, s13, s14, s15, s16, s17, s18, s19, s20, s21, s22, s23] [(.int (i5 &&& (7 : Int32)))])) _
  refine XS.iconst X0.here hx rfl (hb hby at_5) ?_
  show Steps p.tables e below (T0.setTop (mkF m 6 #[.val (.int i0), s1, s2, s3, s4, .val (.int i5), s6, s7, s8, s9, s10, s11, s12, s13, s14, s15, s16, s17, s18, s19, s20, s21, s22, s23] [(.int (5 : Int32)), (.int (i5 &&& (7 : Int32)))])) _
  refine iremM X0 hx rfl (hb hby at_6) rfl hnz6 ?_
  show Steps p.tables e below (T0.setTop (mkF m 7 #[.val (.int i0), s1, s2, s3, s4, .val (.int i5), s6, s7, s8, s9, s10, s11, s12, s13, s14, s15, s16, s17, s18, s19, s20, s21, s22, s23] [(.int ((i5 &&& (7 : Int32)) % (5 : Int32)))])) _
  refine XS.istore X0.here hx rfl (hb hby at_7) rfl (l' := #[.val (.int i0), s1, s2, s3, s4, .val (.int i5), .val (.int ((i5 &&& (7 : Int32)) % (5 : Int32))), s7, s8, s9, s10, s11, s12, s13, s14, s15, s16, s17, s18, s19, s20, s21, s22, s23]) (os_tn0_0_7 hs6) ?_
  show Steps p.tables e below (T0.setTop (mkF m 9 #[.val (.int i0), s1, s2, s3, s4, .val (.int i5), .val (.int ((i5 &&& (7 : Int32)) % (5 : Int32))), s7, s8, s9, s10, s11, s12, s13, s14, s15, s16, s17, s18, s19, s20, s21, s22, s23] [])) _
  refine XS.iconst X0.here hx rfl (hb hby at_9) ?_
  show Steps p.tables e below (T0.setTop (mkF m 10 #[.val (.int i0), s1, s2, s3, s4, .val (.int i5), .val (.int ((i5 &&& (7 : Int32)) % (5 : Int32))), s7, s8, s9, s10, s11, s12, s13, s14, s15, s16, s17, s18, s19, s20, s21, s22, s23] [(.int (1 : Int32))])) _
  refine XS.iloadN X0.here hx rfl (hb hby at_10) rfl ?_
  show Steps p.tables e below (T0.setTop (mkF m 11 #[.val (.int i0), s1, s2, s3, s4, .val (.int i5), .val (.int ((i5 &&& (7 : Int32)) % (5 : Int32))), s7, s8, s9, s10, s11, s12, s13, s14, s15, s16, s17, s18, s19, s20, s21, s22, s23] [(.int i0), (.int (1 : Int32))])) _
  refine X0.ldcInt hx hown (mvT hZ (hw _ (List.mem_of_getElem? (i := 0) rfl))) (g := (mkF m 11 #[.val (.int i0), s1, s2, s3, s4, .val (.int i5), .val (.int ((i5 &&& (7 : Int32)) % (5 : Int32))), s7, s8, s9, s10, s11, s12, s13, s14, s15, s16, s17, s18, s19, s20, s21, s22, s23] [(.int i0), (.int (1 : Int32))])) rfl (hb hby at_11) _ ?_
  show Steps p.tables e below (T0.setTop (mkF m 13 #[.val (.int i0), s1, s2, s3, s4, .val (.int i5), .val (.int ((i5 &&& (7 : Int32)) % (5 : Int32))), s7, s8, s9, s10, s11, s12, s13, s14, s15, s16, s17, s18, s19, s20, s21, s22, s23] [(.int (2147483647 : Int32)), (.int i0), (.int (1 : Int32))])) _
  refine XS.iand X0.here hx rfl (hb hby at_13) rfl ?_
  show Steps p.tables e below (T0.setTop (mkF m 14 #[.val (.int i0), s1, s2, s3, s4, .val (.int i5), .val (.int ((i5 &&& (7 : Int32)) % (5 : Int32))), s7, s8, s9, s10, s11, s12, s13, s14, s15, s16, s17, s18, s19, s20, s21, s22, s23] [(.int (i0 &&& (2147483647 : Int32))), (.int (1 : Int32))])) _
  refine st6 _ ?_
  show Steps p.tables e below (T6.setTop (mkF m 17 #[.val (.int i0), s1, s2, s3, s4, .val (.int i5), .val (.int ((i5 &&& (7 : Int32)) % (5 : Int32))), s7, s8, s9, s10, s11, s12, s13, s14, s15, s16, s17, s18, s19, s20, s21, s22, s23] [(.int (own_max (1 : Int32) (i0 &&& (2147483647 : Int32))))])) _
  refine XS.istore X6.here hx rfl (hb hby at_17) rfl (l' := #[.val (.int i0), s1, s2, s3, s4, .val (.int i5), .val (.int ((i5 &&& (7 : Int32)) % (5 : Int32))), .val (.int (own_max (1 : Int32) (i0 &&& (2147483647 : Int32)))), s8, s9, s10, s11, s12, s13, s14, s15, s16, s17, s18, s19, s20, s21, s22, s23]) (os_tn0_0_17 hs7) ?_
  exact kt
theorem pd_0_1 : parseMethodDescriptor "(IJI)I" = some ⟨[.int, .long, .int], some .int⟩ := by decide +kernel
theorem os_tn0_19_26 {s0 : Slot} {z1 : Value} {s3 : Slot} {s4 : Slot} {s5 : Slot} {s6 : Slot} {z7 : Value} {s8 : Slot} {s9 : Slot} {s10 : Slot} {s11 : Slot} {s12 : Slot} {s13 : Slot} {s14 : Slot} {s15 : Slot} {s16 : Slot} {s17 : Slot} {s18 : Slot} {s19 : Slot} {s20 : Slot} {s21 : Slot} {s22 : Slot} {s23 : Slot} {v : Int32} (h : One s8) : storeLocals #[s0, .val z1, .second, s3, s4, s5, s6, .val z7, s8, s9, s10, s11, s12, s13, s14, s15, s16, s17, s18, s19, s20, s21, s22, s23] 8 (.int v) = some #[s0, .val z1, .second, s3, s4, s5, s6, .val z7, .val (.int v), s9, s10, s11, s12, s13, s14, s15, s16, s17, s18, s19, s20, s21, s22, s23] := by
  rcases h with rfl | ⟨w, rfl, hw⟩
  · rfl
  · cases w <;> first | rfl | (simp [Value.category] at hw)
set_option maxRecDepth 65536 in
set_option maxHeartbeats 40000000 in
theorem tn0_19 {p : Program} {l : Launch} {e : Env} {s : State} {m : MethodId} {args : Array Value} {below : List Frame} {meth : Method} {c : Code} {T0 : State} {locs : List Loc} {Z : State} {a0 : Array Value} {h0 : Heap} (s0 : Slot) (j1 : Int64) (s3 : Slot) (s4 : Slot) (s5 : Slot) (s6 : Slot) (i7 : Int32) (s8 : Slot) (s9 : Slot) (s10 : Slot) (s11 : Slot) (s12 : Slot) (s13 : Slot) (s14 : Slot) (s15 : Slot) (s16 : Slot) (s17 : Slot) (s18 : Slot) (s19 : Slot) (s20 : Slot) (s21 : Slot) (s22 : Slot) (s23 : Slot)
    (X0 : Stand p l e room_1 s m args below meth c T0 locs 0 0) (hx : p.tables.exec = Jvm.exec) (hZ : Z.Warmed39 s.vm) (hw : ∀ d ∈ tables_1, d.before a0 Z = true) (hby : c.code = code) (hml : c.maxLocals = 24) (hown : s.vm.findClass "com/example/umbel/umbel/query/OccurrencesFirstUnusedAfterPinLaw" = some m.cls) (e0 : T0.heap = h0) (n0 : Nat) (Z0 : n0 ≤ h0.size) (N0 : Fr n0 locs) (hs8 : One s8) :
    ∃ (T' : State) (locs' : List Loc) (r : Int32), Stand p l e room_1 s m args below meth c T' locs' 0 0 ∧ Fr n0 locs' ∧ T'.heap = h0 ∧ i7.toInt ≤ r.toInt ∧
      ∀ target, Steps p.tables e below (T'.setTop (mkF m 28 #[s0, .val (.long j1), .second, s3, s4, s5, s6, .val (.int i7), .val (.int r), s9, s10, s11, s12, s13, s14, s15, s16, s17, s18, s19, s20, s21, s22, s23] [])) target → Steps p.tables e below (T0.setTop (mkF m 19 #[s0, .val (.long j1), .second, s3, s4, s5, s6, .val (.int i7), s8, s9, s10, s11, s12, s13, s14, s15, s16, s17, s18, s19, s20, s21, s22, s23] [])) target := by
  obtain ⟨_, _, ⟨T6, L6, k6, n6⟩, -, X6, ⟨Lc6, hQ6, l6, y6, z6⟩, st6⟩ := Jvm.LawKit.callS X0 hx (y := (⟨"com/example/umbel/umbel/query/OccurrencesFirstUnusedAfterPinLaw", "next", "(IJI)I"⟩ : MethodName)) hown (mvT hZ (hw _ (List.mem_of_getElem? (i := 5) rfl))) (mvT hZ (hw _ (List.mem_of_getElem? (i := 6) rfl))) (mvT hZ (hw _ (List.mem_of_getElem? (i := 7) rfl))) (mvT hZ (hw _ (List.mem_of_getElem? (i := 8) rfl))) (by decide) (backOf (W := 0) (rm2 l Z a0 hw [] i7 j1 (0 : Int32) h0 n0 Z0) hZ (hw _ (List.mem_of_getElem? (i := 8) rfl)) (hw _ (List.mem_of_getElem? (i := 7) rfl)) (by decide) (by decide)) (g := (mkF m 23 #[s0, .val (.long j1), .second, s3, s4, s5, s6, .val (.int i7), s8, s9, s10, s11, s12, s13, s14, s15, s16, s17, s18, s19, s20, s21, s22, s23] [(.int (0 : Int32)), (.long j1), (.int i7)])) rfl (by rw [hml]; rfl) (argsL := [(.int i7), (.long j1), (.int (0 : Int32))]) (rest := []) (lenOf pd_0_1 rfl) rfl (by show 2 * 0 + _ ≤ _; exact Nat.le_of_eq rfl) (hb hby at_23) (fun _ _ => ⟨rfl, e0, (by decide : 0 + 0 ≤ _), (by decide : 0 + 0 ≤ _)⟩)
  dsimp only [Pt.U, Pt.locs, Pt.cells, Pt.slots] at X6 l6 y6 z6 st6 hQ6
  subst l6 y6 z6
  obtain ⟨r, rfl, hr, N6q, e6q⟩ := hQ6
  have N6 := Fr.app N0 N6q
  refine ⟨T6, _, r, X6, N6, e6q, hr, fun target kt => ?_⟩
  show Steps p.tables e below (T0.setTop (mkF m 19 #[s0, .val (.long j1), .second, s3, s4, s5, s6, .val (.int i7), s8, s9, s10, s11, s12, s13, s14, s15, s16, s17, s18, s19, s20, s21, s22, s23] [])) _
  refine XS.iload X0.here hx rfl (hb hby at_19) rfl ?_
  show Steps p.tables e below (T0.setTop (mkF m 21 #[s0, .val (.long j1), .second, s3, s4, s5, s6, .val (.int i7), s8, s9, s10, s11, s12, s13, s14, s15, s16, s17, s18, s19, s20, s21, s22, s23] [(.int i7)])) _
  refine XS.lloadN X0.here hx rfl (hb hby at_21) rfl ?_
  show Steps p.tables e below (T0.setTop (mkF m 22 #[s0, .val (.long j1), .second, s3, s4, s5, s6, .val (.int i7), s8, s9, s10, s11, s12, s13, s14, s15, s16, s17, s18, s19, s20, s21, s22, s23] [(.long j1), (.int i7)])) _
  refine XS.iconst X0.here hx rfl (hb hby at_22) ?_
  show Steps p.tables e below (T0.setTop (mkF m 23 #[s0, .val (.long j1), .second, s3, s4, s5, s6, .val (.int i7), s8, s9, s10, s11, s12, s13, s14, s15, s16, s17, s18, s19, s20, s21, s22, s23] [(.int (0 : Int32)), (.long j1), (.int i7)])) _
  refine st6 _ ?_
  show Steps p.tables e below (T6.setTop (mkF m 26 #[s0, .val (.long j1), .second, s3, s4, s5, s6, .val (.int i7), s8, s9, s10, s11, s12, s13, s14, s15, s16, s17, s18, s19, s20, s21, s22, s23] [(.int r)])) _
  refine XS.istore X6.here hx rfl (hb hby at_26) rfl (l' := #[s0, .val (.long j1), .second, s3, s4, s5, s6, .val (.int i7), .val (.int r), s9, s10, s11, s12, s13, s14, s15, s16, s17, s18, s19, s20, s21, s22, s23]) (os_tn0_19_26 hs8) ?_
  exact kt
theorem os_tn0_28_35 {s0 : Slot} {z1 : Value} {s3 : Slot} {s4 : Slot} {s5 : Slot} {s6 : Slot} {s7 : Slot} {z8 : Value} {s9 : Slot} {s10 : Slot} {s11 : Slot} {s12 : Slot} {s13 : Slot} {s14 : Slot} {s15 : Slot} {s16 : Slot} {s17 : Slot} {s18 : Slot} {s19 : Slot} {s20 : Slot} {s21 : Slot} {s22 : Slot} {s23 : Slot} {v : Int32} (h : One s9) : storeLocals #[s0, .val z1, .second, s3, s4, s5, s6, s7, .val z8, s9, s10, s11, s12, s13, s14, s15, s16, s17, s18, s19, s20, s21, s22, s23] 9 (.int v) = some #[s0, .val z1, .second, s3, s4, s5, s6, s7, .val z8, .val (.int v), s10, s11, s12, s13, s14, s15, s16, s17, s18, s19, s20, s21, s22, s23] := by
  rcases h with rfl | ⟨w, rfl, hw⟩
  · rfl
  · cases w <;> first | rfl | (simp [Value.category] at hw)
set_option maxRecDepth 65536 in
set_option maxHeartbeats 40000000 in
theorem tn0_28 {p : Program} {l : Launch} {e : Env} {s : State} {m : MethodId} {args : Array Value} {below : List Frame} {meth : Method} {c : Code} {T0 : State} {locs : List Loc} {Z : State} {a0 : Array Value} {h0 : Heap} (s0 : Slot) (j1 : Int64) (s3 : Slot) (s4 : Slot) (s5 : Slot) (s6 : Slot) (s7 : Slot) (i8 : Int32) (s9 : Slot) (s10 : Slot) (s11 : Slot) (s12 : Slot) (s13 : Slot) (s14 : Slot) (s15 : Slot) (s16 : Slot) (s17 : Slot) (s18 : Slot) (s19 : Slot) (s20 : Slot) (s21 : Slot) (s22 : Slot) (s23 : Slot)
    (X0 : Stand p l e room_1 s m args below meth c T0 locs 0 0) (hx : p.tables.exec = Jvm.exec) (hZ : Z.Warmed39 s.vm) (hw : ∀ d ∈ tables_1, d.before a0 Z = true) (hby : c.code = code) (hml : c.maxLocals = 24) (hown : s.vm.findClass "com/example/umbel/umbel/query/OccurrencesFirstUnusedAfterPinLaw" = some m.cls) (e0 : T0.heap = h0) (n0 : Nat) (Z0 : n0 ≤ h0.size) (N0 : Fr n0 locs) (hs9 : One s9) :
    ∃ (T' : State) (locs' : List Loc) (r : Int32), Stand p l e room_1 s m args below meth c T' locs' 0 0 ∧ Fr n0 locs' ∧ T'.heap = h0 ∧ i8.toInt ≤ r.toInt ∧
      ∀ target, Steps p.tables e below (T'.setTop (mkF m 37 #[s0, .val (.long j1), .second, s3, s4, s5, s6, s7, .val (.int i8), .val (.int r), s10, s11, s12, s13, s14, s15, s16, s17, s18, s19, s20, s21, s22, s23] [])) target → Steps p.tables e below (T0.setTop (mkF m 28 #[s0, .val (.long j1), .second, s3, s4, s5, s6, s7, .val (.int i8), s9, s10, s11, s12, s13, s14, s15, s16, s17, s18, s19, s20, s21, s22, s23] [])) target := by
  obtain ⟨_, _, ⟨T6, L6, k6, n6⟩, -, X6, ⟨Lc6, hQ6, l6, y6, z6⟩, st6⟩ := Jvm.LawKit.callS X0 hx (y := (⟨"com/example/umbel/umbel/query/OccurrencesFirstUnusedAfterPinLaw", "next", "(IJI)I"⟩ : MethodName)) hown (mvT hZ (hw _ (List.mem_of_getElem? (i := 5) rfl))) (mvT hZ (hw _ (List.mem_of_getElem? (i := 6) rfl))) (mvT hZ (hw _ (List.mem_of_getElem? (i := 7) rfl))) (mvT hZ (hw _ (List.mem_of_getElem? (i := 8) rfl))) (by decide) (backOf (W := 0) (rm2 l Z a0 hw [] i8 j1 (1 : Int32) h0 n0 Z0) hZ (hw _ (List.mem_of_getElem? (i := 8) rfl)) (hw _ (List.mem_of_getElem? (i := 7) rfl)) (by decide) (by decide)) (g := (mkF m 32 #[s0, .val (.long j1), .second, s3, s4, s5, s6, s7, .val (.int i8), s9, s10, s11, s12, s13, s14, s15, s16, s17, s18, s19, s20, s21, s22, s23] [(.int (1 : Int32)), (.long j1), (.int i8)])) rfl (by rw [hml]; rfl) (argsL := [(.int i8), (.long j1), (.int (1 : Int32))]) (rest := []) (lenOf pd_0_1 rfl) rfl (by show 2 * 0 + _ ≤ _; exact Nat.le_of_eq rfl) (hb hby at_32) (fun _ _ => ⟨rfl, e0, (by decide : 0 + 0 ≤ _), (by decide : 0 + 0 ≤ _)⟩)
  dsimp only [Pt.U, Pt.locs, Pt.cells, Pt.slots] at X6 l6 y6 z6 st6 hQ6
  subst l6 y6 z6
  obtain ⟨r, rfl, hr, N6q, e6q⟩ := hQ6
  have N6 := Fr.app N0 N6q
  refine ⟨T6, _, r, X6, N6, e6q, hr, fun target kt => ?_⟩
  show Steps p.tables e below (T0.setTop (mkF m 28 #[s0, .val (.long j1), .second, s3, s4, s5, s6, s7, .val (.int i8), s9, s10, s11, s12, s13, s14, s15, s16, s17, s18, s19, s20, s21, s22, s23] [])) _
  refine XS.iload X0.here hx rfl (hb hby at_28) rfl ?_
  show Steps p.tables e below (T0.setTop (mkF m 30 #[s0, .val (.long j1), .second, s3, s4, s5, s6, s7, .val (.int i8), s9, s10, s11, s12, s13, s14, s15, s16, s17, s18, s19, s20, s21, s22, s23] [(.int i8)])) _
  refine XS.lloadN X0.here hx rfl (hb hby at_30) rfl ?_
  show Steps p.tables e below (T0.setTop (mkF m 31 #[s0, .val (.long j1), .second, s3, s4, s5, s6, s7, .val (.int i8), s9, s10, s11, s12, s13, s14, s15, s16, s17, s18, s19, s20, s21, s22, s23] [(.long j1), (.int i8)])) _
  refine XS.iconst X0.here hx rfl (hb hby at_31) ?_
  show Steps p.tables e below (T0.setTop (mkF m 32 #[s0, .val (.long j1), .second, s3, s4, s5, s6, s7, .val (.int i8), s9, s10, s11, s12, s13, s14, s15, s16, s17, s18, s19, s20, s21, s22, s23] [(.int (1 : Int32)), (.long j1), (.int i8)])) _
  refine st6 _ ?_
  show Steps p.tables e below (T6.setTop (mkF m 35 #[s0, .val (.long j1), .second, s3, s4, s5, s6, s7, .val (.int i8), s9, s10, s11, s12, s13, s14, s15, s16, s17, s18, s19, s20, s21, s22, s23] [(.int r)])) _
  refine XS.istore X6.here hx rfl (hb hby at_35) rfl (l' := #[s0, .val (.long j1), .second, s3, s4, s5, s6, s7, .val (.int i8), .val (.int r), s10, s11, s12, s13, s14, s15, s16, s17, s18, s19, s20, s21, s22, s23]) (os_tn0_28_35 hs9) ?_
  exact kt
theorem os_tn0_37_44 {s0 : Slot} {z1 : Value} {s3 : Slot} {s4 : Slot} {s5 : Slot} {s6 : Slot} {s7 : Slot} {s8 : Slot} {z9 : Value} {s10 : Slot} {s11 : Slot} {s12 : Slot} {s13 : Slot} {s14 : Slot} {s15 : Slot} {s16 : Slot} {s17 : Slot} {s18 : Slot} {s19 : Slot} {s20 : Slot} {s21 : Slot} {s22 : Slot} {s23 : Slot} {v : Int32} (h : One s10) : storeLocals #[s0, .val z1, .second, s3, s4, s5, s6, s7, s8, .val z9, s10, s11, s12, s13, s14, s15, s16, s17, s18, s19, s20, s21, s22, s23] 10 (.int v) = some #[s0, .val z1, .second, s3, s4, s5, s6, s7, s8, .val z9, .val (.int v), s11, s12, s13, s14, s15, s16, s17, s18, s19, s20, s21, s22, s23] := by
  rcases h with rfl | ⟨w, rfl, hw⟩
  · rfl
  · cases w <;> first | rfl | (simp [Value.category] at hw)
set_option maxRecDepth 65536 in
set_option maxHeartbeats 40000000 in
theorem tn0_37 {p : Program} {l : Launch} {e : Env} {s : State} {m : MethodId} {args : Array Value} {below : List Frame} {meth : Method} {c : Code} {T0 : State} {locs : List Loc} {Z : State} {a0 : Array Value} {h0 : Heap} (s0 : Slot) (j1 : Int64) (s3 : Slot) (s4 : Slot) (s5 : Slot) (s6 : Slot) (s7 : Slot) (s8 : Slot) (i9 : Int32) (s10 : Slot) (s11 : Slot) (s12 : Slot) (s13 : Slot) (s14 : Slot) (s15 : Slot) (s16 : Slot) (s17 : Slot) (s18 : Slot) (s19 : Slot) (s20 : Slot) (s21 : Slot) (s22 : Slot) (s23 : Slot)
    (X0 : Stand p l e room_1 s m args below meth c T0 locs 0 0) (hx : p.tables.exec = Jvm.exec) (hZ : Z.Warmed39 s.vm) (hw : ∀ d ∈ tables_1, d.before a0 Z = true) (hby : c.code = code) (hml : c.maxLocals = 24) (hown : s.vm.findClass "com/example/umbel/umbel/query/OccurrencesFirstUnusedAfterPinLaw" = some m.cls) (e0 : T0.heap = h0) (n0 : Nat) (Z0 : n0 ≤ h0.size) (N0 : Fr n0 locs) (hs10 : One s10) :
    ∃ (T' : State) (locs' : List Loc) (r : Int32), Stand p l e room_1 s m args below meth c T' locs' 0 0 ∧ Fr n0 locs' ∧ T'.heap = h0 ∧ i9.toInt ≤ r.toInt ∧
      ∀ target, Steps p.tables e below (T'.setTop (mkF m 46 #[s0, .val (.long j1), .second, s3, s4, s5, s6, s7, s8, .val (.int i9), .val (.int r), s11, s12, s13, s14, s15, s16, s17, s18, s19, s20, s21, s22, s23] [])) target → Steps p.tables e below (T0.setTop (mkF m 37 #[s0, .val (.long j1), .second, s3, s4, s5, s6, s7, s8, .val (.int i9), s10, s11, s12, s13, s14, s15, s16, s17, s18, s19, s20, s21, s22, s23] [])) target := by
  obtain ⟨_, _, ⟨T6, L6, k6, n6⟩, -, X6, ⟨Lc6, hQ6, l6, y6, z6⟩, st6⟩ := Jvm.LawKit.callS X0 hx (y := (⟨"com/example/umbel/umbel/query/OccurrencesFirstUnusedAfterPinLaw", "next", "(IJI)I"⟩ : MethodName)) hown (mvT hZ (hw _ (List.mem_of_getElem? (i := 5) rfl))) (mvT hZ (hw _ (List.mem_of_getElem? (i := 6) rfl))) (mvT hZ (hw _ (List.mem_of_getElem? (i := 7) rfl))) (mvT hZ (hw _ (List.mem_of_getElem? (i := 8) rfl))) (by decide) (backOf (W := 0) (rm2 l Z a0 hw [] i9 j1 (2 : Int32) h0 n0 Z0) hZ (hw _ (List.mem_of_getElem? (i := 8) rfl)) (hw _ (List.mem_of_getElem? (i := 7) rfl)) (by decide) (by decide)) (g := (mkF m 41 #[s0, .val (.long j1), .second, s3, s4, s5, s6, s7, s8, .val (.int i9), s10, s11, s12, s13, s14, s15, s16, s17, s18, s19, s20, s21, s22, s23] [(.int (2 : Int32)), (.long j1), (.int i9)])) rfl (by rw [hml]; rfl) (argsL := [(.int i9), (.long j1), (.int (2 : Int32))]) (rest := []) (lenOf pd_0_1 rfl) rfl (by show 2 * 0 + _ ≤ _; exact Nat.le_of_eq rfl) (hb hby at_41) (fun _ _ => ⟨rfl, e0, (by decide : 0 + 0 ≤ _), (by decide : 0 + 0 ≤ _)⟩)
  dsimp only [Pt.U, Pt.locs, Pt.cells, Pt.slots] at X6 l6 y6 z6 st6 hQ6
  subst l6 y6 z6
  obtain ⟨r, rfl, hr, N6q, e6q⟩ := hQ6
  have N6 := Fr.app N0 N6q
  refine ⟨T6, _, r, X6, N6, e6q, hr, fun target kt => ?_⟩
  show Steps p.tables e below (T0.setTop (mkF m 37 #[s0, .val (.long j1), .second, s3, s4, s5, s6, s7, s8, .val (.int i9), s10, s11, s12, s13, s14, s15, s16, s17, s18, s19, s20, s21, s22, s23] [])) _
  refine XS.iload X0.here hx rfl (hb hby at_37) rfl ?_
  show Steps p.tables e below (T0.setTop (mkF m 39 #[s0, .val (.long j1), .second, s3, s4, s5, s6, s7, s8, .val (.int i9), s10, s11, s12, s13, s14, s15, s16, s17, s18, s19, s20, s21, s22, s23] [(.int i9)])) _
  refine XS.lloadN X0.here hx rfl (hb hby at_39) rfl ?_
  show Steps p.tables e below (T0.setTop (mkF m 40 #[s0, .val (.long j1), .second, s3, s4, s5, s6, s7, s8, .val (.int i9), s10, s11, s12, s13, s14, s15, s16, s17, s18, s19, s20, s21, s22, s23] [(.long j1), (.int i9)])) _
  refine XS.iconst X0.here hx rfl (hb hby at_40) ?_
  show Steps p.tables e below (T0.setTop (mkF m 41 #[s0, .val (.long j1), .second, s3, s4, s5, s6, s7, s8, .val (.int i9), s10, s11, s12, s13, s14, s15, s16, s17, s18, s19, s20, s21, s22, s23] [(.int (2 : Int32)), (.long j1), (.int i9)])) _
  refine st6 _ ?_
  show Steps p.tables e below (T6.setTop (mkF m 44 #[s0, .val (.long j1), .second, s3, s4, s5, s6, s7, s8, .val (.int i9), s10, s11, s12, s13, s14, s15, s16, s17, s18, s19, s20, s21, s22, s23] [(.int r)])) _
  refine XS.istore X6.here hx rfl (hb hby at_44) rfl (l' := #[s0, .val (.long j1), .second, s3, s4, s5, s6, s7, s8, .val (.int i9), .val (.int r), s11, s12, s13, s14, s15, s16, s17, s18, s19, s20, s21, s22, s23]) (os_tn0_37_44 hs10) ?_
  exact kt
theorem os_tn0_46_51 {s0 : Slot} {s1 : Slot} {s2 : Slot} {z3 : Value} {s4 : Slot} {s5 : Slot} {s6 : Slot} {s7 : Slot} {s8 : Slot} {s9 : Slot} {s10 : Slot} {s11 : Slot} {s12 : Slot} {s13 : Slot} {s14 : Slot} {s15 : Slot} {s16 : Slot} {s17 : Slot} {s18 : Slot} {s19 : Slot} {s20 : Slot} {s21 : Slot} {s22 : Slot} {s23 : Slot} {v : Int32} (h : One s11) : storeLocals #[s0, s1, s2, .val z3, s4, s5, s6, s7, s8, s9, s10, s11, s12, s13, s14, s15, s16, s17, s18, s19, s20, s21, s22, s23] 11 (.int v) = some #[s0, s1, s2, .val z3, s4, s5, s6, s7, s8, s9, s10, .val (.int v), s12, s13, s14, s15, s16, s17, s18, s19, s20, s21, s22, s23] := by
  rcases h with rfl | ⟨w, rfl, hw⟩
  · rfl
  · cases w <;> first | rfl | (simp [Value.category] at hw)
theorem os_tn0_46_64 {s0 : Slot} {s1 : Slot} {s2 : Slot} {z3 : Value} {s4 : Slot} {s5 : Slot} {s6 : Slot} {s7 : Slot} {s8 : Slot} {s9 : Slot} {s10 : Slot} {z11 : Value} {s12 : Slot} {s13 : Slot} {s14 : Slot} {s15 : Slot} {s16 : Slot} {s17 : Slot} {s18 : Slot} {s19 : Slot} {s20 : Slot} {s21 : Slot} {s22 : Slot} {s23 : Slot} {v : Int32} (h : One s12) : storeLocals #[s0, s1, s2, .val z3, s4, s5, s6, s7, s8, s9, s10, .val z11, s12, s13, s14, s15, s16, s17, s18, s19, s20, s21, s22, s23] 12 (.int v) = some #[s0, s1, s2, .val z3, s4, s5, s6, s7, s8, s9, s10, .val z11, .val (.int v), s13, s14, s15, s16, s17, s18, s19, s20, s21, s22, s23] := by
  rcases h with rfl | ⟨w, rfl, hw⟩
  · rfl
  · cases w <;> first | rfl | (simp [Value.category] at hw)
theorem os_tn0_46_77 {s0 : Slot} {s1 : Slot} {s2 : Slot} {z3 : Value} {s4 : Slot} {s5 : Slot} {s6 : Slot} {s7 : Slot} {s8 : Slot} {s9 : Slot} {s10 : Slot} {z11 : Value} {z12 : Value} {s13 : Slot} {s14 : Slot} {s15 : Slot} {s16 : Slot} {s17 : Slot} {s18 : Slot} {s19 : Slot} {s20 : Slot} {s21 : Slot} {s22 : Slot} {s23 : Slot} {v : Int32} (h : One s13) : storeLocals #[s0, s1, s2, .val z3, s4, s5, s6, s7, s8, s9, s10, .val z11, .val z12, s13, s14, s15, s16, s17, s18, s19, s20, s21, s22, s23] 13 (.int v) = some #[s0, s1, s2, .val z3, s4, s5, s6, s7, s8, s9, s10, .val z11, .val z12, .val (.int v), s14, s15, s16, s17, s18, s19, s20, s21, s22, s23] := by
  rcases h with rfl | ⟨w, rfl, hw⟩
  · rfl
  · cases w <;> first | rfl | (simp [Value.category] at hw)
theorem os_tn0_46_90 {s0 : Slot} {s1 : Slot} {s2 : Slot} {z3 : Value} {s4 : Slot} {s5 : Slot} {s6 : Slot} {s7 : Slot} {s8 : Slot} {s9 : Slot} {s10 : Slot} {z11 : Value} {z12 : Value} {z13 : Value} {s14 : Slot} {s15 : Slot} {s16 : Slot} {s17 : Slot} {s18 : Slot} {s19 : Slot} {s20 : Slot} {s21 : Slot} {s22 : Slot} {s23 : Slot} {v : Int32} (h : One s14) : storeLocals #[s0, s1, s2, .val z3, s4, s5, s6, s7, s8, s9, s10, .val z11, .val z12, .val z13, s14, s15, s16, s17, s18, s19, s20, s21, s22, s23] 14 (.int v) = some #[s0, s1, s2, .val z3, s4, s5, s6, s7, s8, s9, s10, .val z11, .val z12, .val z13, .val (.int v), s15, s16, s17, s18, s19, s20, s21, s22, s23] := by
  rcases h with rfl | ⟨w, rfl, hw⟩
  · rfl
  · cases w <;> first | rfl | (simp [Value.category] at hw)
set_option maxRecDepth 65536 in
set_option maxHeartbeats 40000000 in
theorem tn0_46 {p : Program} {l : Launch} {e : Env} {s : State} {m : MethodId} {args : Array Value} {below : List Frame} {meth : Method} {c : Code} {T0 : State} {locs : List Loc} {Z : State} {a0 : Array Value} {h0 : Heap} (s0 : Slot) (s1 : Slot) (s2 : Slot) (i3 : Int32) (s4 : Slot) (s5 : Slot) (s6 : Slot) (s7 : Slot) (s8 : Slot) (s9 : Slot) (s10 : Slot) (s11 : Slot) (s12 : Slot) (s13 : Slot) (s14 : Slot) (s15 : Slot) (s16 : Slot) (s17 : Slot) (s18 : Slot) (s19 : Slot) (s20 : Slot) (s21 : Slot) (s22 : Slot) (s23 : Slot)
    (X0 : Stand p l e room_1 s m args below meth c T0 locs 0 0) (hx : p.tables.exec = Jvm.exec) (hZ : Z.Warmed39 s.vm) (hw : ∀ d ∈ tables_1, d.before a0 Z = true) (hby : c.code = code) (hml : c.maxLocals = 24) (hown : s.vm.findClass "com/example/umbel/umbel/query/OccurrencesFirstUnusedAfterPinLaw" = some m.cls) (e0 : T0.heap = h0) (n0 : Nat) (Z0 : n0 ≤ h0.size) (N0 : Fr n0 locs) (hs11 : One s11) (hs12 : One s12) (hs13 : One s13) (hs14 : One s14) :
    ∃ (T' : State) (locs' : List Loc), Stand p l e room_1 s m args below meth c T' locs' 0 0 ∧ Fr n0 locs' ∧ T'.heap = h0 ∧
      ∀ target, Steps p.tables e below (T'.setTop (mkF m 92 #[s0, s1, s2, .val (.int i3), s4, s5, s6, s7, s8, s9, s10, .val (.int (i3 &&& (255 : Int32))), .val (.int ((i3 &&& (255 : Int32)) + (((i3.toUInt32 >>> ((8 : Int32) &&& 31).toUInt32).toInt32) &&& (255 : Int32)))), .val (.int (((i3 &&& (255 : Int32)) + (((i3.toUInt32 >>> ((8 : Int32) &&& 31).toUInt32).toInt32) &&& (255 : Int32))) + (((i3.toUInt32 >>> ((16 : Int32) &&& 31).toUInt32).toInt32) &&& (255 : Int32)))), .val (.int ((((i3 &&& (255 : Int32)) + (((i3.toUInt32 >>> ((8 : Int32) &&& 31).toUInt32).toInt32) &&& (255 : Int32))) + (((i3.toUInt32 >>> ((16 : Int32) &&& 31).toUInt32).toInt32) &&& (255 : Int32))) + (((i3.toUInt32 >>> ((24 : Int32) &&& 31).toUInt32).toInt32) &&& (255 : Int32)))), s15, s16, s17, s18, s19, s20, s21, s22, s23] [])) target → Steps p.tables e below (T0.setTop (mkF m 46 #[s0, s1, s2, .val (.int i3), s4, s5, s6, s7, s8, s9, s10, s11, s12, s13, s14, s15, s16, s17, s18, s19, s20, s21, s22, s23] [])) target := by
  refine ⟨T0, _, X0, N0, e0, fun target kt => ?_⟩
  show Steps p.tables e below (T0.setTop (mkF m 46 #[s0, s1, s2, .val (.int i3), s4, s5, s6, s7, s8, s9, s10, s11, s12, s13, s14, s15, s16, s17, s18, s19, s20, s21, s22, s23] [])) _
  refine XS.iloadN X0.here hx rfl (hb hby at_46) rfl ?_
  show Steps p.tables e below (T0.setTop (mkF m 47 #[s0, s1, s2, .val (.int i3), s4, s5, s6, s7, s8, s9, s10, s11, s12, s13, s14, s15, s16, s17, s18, s19, s20, s21, s22, s23] [(.int i3)])) _
  refine XS.sipush X0.here hx rfl (hb hby at_47) ?_
  show Steps p.tables e below (T0.setTop (mkF m 50 #[s0, s1, s2, .val (.int i3), s4, s5, s6, s7, s8, s9, s10, s11, s12, s13, s14, s15, s16, s17, s18, s19, s20, s21, s22, s23] [(.int (255 : Int32)), (.int i3)])) _
  refine XS.iand X0.here hx rfl (hb hby at_50) rfl ?_
  show Steps p.tables e below (T0.setTop (mkF m 51 #[s0, s1, s2, .val (.int i3), s4, s5, s6, s7, s8, s9, s10, s11, s12, s13, s14, s15, s16, s17, s18, s19, s20, s21, s22, s23] [(.int (i3 &&& (255 : Int32)))])) _
  refine XS.istore X0.here hx rfl (hb hby at_51) rfl (l' := #[s0, s1, s2, .val (.int i3), s4, s5, s6, s7, s8, s9, s10, .val (.int (i3 &&& (255 : Int32))), s12, s13, s14, s15, s16, s17, s18, s19, s20, s21, s22, s23]) (os_tn0_46_51 hs11) ?_
  show Steps p.tables e below (T0.setTop (mkF m 53 #[s0, s1, s2, .val (.int i3), s4, s5, s6, s7, s8, s9, s10, .val (.int (i3 &&& (255 : Int32))), s12, s13, s14, s15, s16, s17, s18, s19, s20, s21, s22, s23] [])) _
  refine XS.iload X0.here hx rfl (hb hby at_53) rfl ?_
  show Steps p.tables e below (T0.setTop (mkF m 55 #[s0, s1, s2, .val (.int i3), s4, s5, s6, s7, s8, s9, s10, .val (.int (i3 &&& (255 : Int32))), s12, s13, s14, s15, s16, s17, s18, s19, s20, s21, s22, s23] [(.int (i3 &&& (255 : Int32)))])) _
  refine XS.iloadN X0.here hx rfl (hb hby at_55) rfl ?_
  show Steps p.tables e below (T0.setTop (mkF m 56 #[s0, s1, s2, .val (.int i3), s4, s5, s6, s7, s8, s9, s10, .val (.int (i3 &&& (255 : Int32))), s12, s13, s14, s15, s16, s17, s18, s19, s20, s21, s22, s23] [(.int i3), (.int (i3 &&& (255 : Int32)))])) _
  refine XS.bipush X0.here hx rfl (hb hby at_56) ?_
  show Steps p.tables e below (T0.setTop (mkF m 58 #[s0, s1, s2, .val (.int i3), s4, s5, s6, s7, s8, s9, s10, .val (.int (i3 &&& (255 : Int32))), s12, s13, s14, s15, s16, s17, s18, s19, s20, s21, s22, s23] [(.int (8 : Int32)), (.int i3), (.int (i3 &&& (255 : Int32)))])) _
  refine XS.iushr X0.here hx rfl (hb hby at_58) rfl ?_
  show Steps p.tables e below (T0.setTop (mkF m 59 #[s0, s1, s2, .val (.int i3), s4, s5, s6, s7, s8, s9, s10, .val (.int (i3 &&& (255 : Int32))), s12, s13, s14, s15, s16, s17, s18, s19, s20, s21, s22, s23] [(.int ((i3.toUInt32 >>> ((8 : Int32) &&& 31).toUInt32).toInt32)), (.int (i3 &&& (255 : Int32)))])) _
  refine XS.sipush X0.here hx rfl (hb hby at_59) ?_
  show Steps p.tables e below (T0.setTop (mkF m 62 #[s0, s1, s2, .val (.int i3), s4, s5, s6, s7, s8, s9, s10, .val (.int (i3 &&& (255 : Int32))), s12, s13, s14, s15, s16, s17, s18, s19, s20, s21, s22, s23] [(.int (255 : Int32)), (.int ((i3.toUInt32 >>> ((8 : Int32) &&& 31).toUInt32).toInt32)), (.int (i3 &&& (255 : Int32)))])) _
  refine XS.iand X0.here hx rfl (hb hby at_62) rfl ?_
  show Steps p.tables e below (T0.setTop (mkF m 63 #[s0, s1, s2, .val (.int i3), s4, s5, s6, s7, s8, s9, s10, .val (.int (i3 &&& (255 : Int32))), s12, s13, s14, s15, s16, s17, s18, s19, s20, s21, s22, s23] [(.int (((i3.toUInt32 >>> ((8 : Int32) &&& 31).toUInt32).toInt32) &&& (255 : Int32))), (.int (i3 &&& (255 : Int32)))])) _
  refine XS.iadd X0.here hx rfl (hb hby at_63) rfl ?_
  show Steps p.tables e below (T0.setTop (mkF m 64 #[s0, s1, s2, .val (.int i3), s4, s5, s6, s7, s8, s9, s10, .val (.int (i3 &&& (255 : Int32))), s12, s13, s14, s15, s16, s17, s18, s19, s20, s21, s22, s23] [(.int ((i3 &&& (255 : Int32)) + (((i3.toUInt32 >>> ((8 : Int32) &&& 31).toUInt32).toInt32) &&& (255 : Int32))))])) _
  refine XS.istore X0.here hx rfl (hb hby at_64) rfl (l' := #[s0, s1, s2, .val (.int i3), s4, s5, s6, s7, s8, s9, s10, .val (.int (i3 &&& (255 : Int32))), .val (.int ((i3 &&& (255 : Int32)) + (((i3.toUInt32 >>> ((8 : Int32) &&& 31).toUInt32).toInt32) &&& (255 : Int32)))), s13, s14, s15, s16, s17, s18, s19, s20, s21, s22, s23]) (os_tn0_46_64 hs12) ?_
  show Steps p.tables e below (T0.setTop (mkF m 66 #[s0, s1, s2, .val (.int i3), s4, s5, s6, s7, s8, s9, s10, .val (.int (i3 &&& (255 : Int32))), .val (.int ((i3 &&& (255 : Int32)) + (((i3.toUInt32 >>> ((8 : Int32) &&& 31).toUInt32).toInt32) &&& (255 : Int32)))), s13, s14, s15, s16, s17, s18, s19, s20, s21, s22, s23] [])) _
  refine XS.iload X0.here hx rfl (hb hby at_66) rfl ?_
  show Steps p.tables e below (T0.setTop (mkF m 68 #[s0, s1, s2, .val (.int i3), s4, s5, s6, s7, s8, s9, s10, .val (.int (i3 &&& (255 : Int32))), .val (.int ((i3 &&& (255 : Int32)) + (((i3.toUInt32 >>> ((8 : Int32) &&& 31).toUInt32).toInt32) &&& (255 : Int32)))), s13, s14, s15, s16, s17, s18, s19, s20, s21, s22, s23] [(.int ((i3 &&& (255 : Int32)) + (((i3.toUInt32 >>> ((8 : Int32) &&& 31).toUInt32).toInt32) &&& (255 : Int32))))])) _
  refine XS.iloadN X0.here hx rfl (hb hby at_68) rfl ?_
  show Steps p.tables e below (T0.setTop (mkF m 69 #[s0, s1, s2, .val (.int i3), s4, s5, s6, s7, s8, s9, s10, .val (.int (i3 &&& (255 : Int32))), .val (.int ((i3 &&& (255 : Int32)) + (((i3.toUInt32 >>> ((8 : Int32) &&& 31).toUInt32).toInt32) &&& (255 : Int32)))), s13, s14, s15, s16, s17, s18, s19, s20, s21, s22, s23] [(.int i3), (.int ((i3 &&& (255 : Int32)) + (((i3.toUInt32 >>> ((8 : Int32) &&& 31).toUInt32).toInt32) &&& (255 : Int32))))])) _
  refine XS.bipush X0.here hx rfl (hb hby at_69) ?_
  show Steps p.tables e below (T0.setTop (mkF m 71 #[s0, s1, s2, .val (.int i3), s4, s5, s6, s7, s8, s9, s10, .val (.int (i3 &&& (255 : Int32))), .val (.int ((i3 &&& (255 : Int32)) + (((i3.toUInt32 >>> ((8 : Int32) &&& 31).toUInt32).toInt32) &&& (255 : Int32)))), s13, s14, s15, s16, s17, s18, s19, s20, s21, s22, s23] [(.int (16 : Int32)), (.int i3), (.int ((i3 &&& (255 : Int32)) + (((i3.toUInt32 >>> ((8 : Int32) &&& 31).toUInt32).toInt32) &&& (255 : Int32))))])) _
  refine XS.iushr X0.here hx rfl (hb hby at_71) rfl ?_
  show Steps p.tables e below (T0.setTop (mkF m 72 #[s0, s1, s2, .val (.int i3), s4, s5, s6, s7, s8, s9, s10, .val (.int (i3 &&& (255 : Int32))), .val (.int ((i3 &&& (255 : Int32)) + (((i3.toUInt32 >>> ((8 : Int32) &&& 31).toUInt32).toInt32) &&& (255 : Int32)))), s13, s14, s15, s16, s17, s18, s19, s20, s21, s22, s23] [(.int ((i3.toUInt32 >>> ((16 : Int32) &&& 31).toUInt32).toInt32)), (.int ((i3 &&& (255 : Int32)) + (((i3.toUInt32 >>> ((8 : Int32) &&& 31).toUInt32).toInt32) &&& (255 : Int32))))])) _
  refine XS.sipush X0.here hx rfl (hb hby at_72) ?_
  show Steps p.tables e below (T0.setTop (mkF m 75 #[s0, s1, s2, .val (.int i3), s4, s5, s6, s7, s8, s9, s10, .val (.int (i3 &&& (255 : Int32))), .val (.int ((i3 &&& (255 : Int32)) + (((i3.toUInt32 >>> ((8 : Int32) &&& 31).toUInt32).toInt32) &&& (255 : Int32)))), s13, s14, s15, s16, s17, s18, s19, s20, s21, s22, s23] [(.int (255 : Int32)), (.int ((i3.toUInt32 >>> ((16 : Int32) &&& 31).toUInt32).toInt32)), (.int ((i3 &&& (255 : Int32)) + (((i3.toUInt32 >>> ((8 : Int32) &&& 31).toUInt32).toInt32) &&& (255 : Int32))))])) _
  refine XS.iand X0.here hx rfl (hb hby at_75) rfl ?_
  show Steps p.tables e below (T0.setTop (mkF m 76 #[s0, s1, s2, .val (.int i3), s4, s5, s6, s7, s8, s9, s10, .val (.int (i3 &&& (255 : Int32))), .val (.int ((i3 &&& (255 : Int32)) + (((i3.toUInt32 >>> ((8 : Int32) &&& 31).toUInt32).toInt32) &&& (255 : Int32)))), s13, s14, s15, s16, s17, s18, s19, s20, s21, s22, s23] [(.int (((i3.toUInt32 >>> ((16 : Int32) &&& 31).toUInt32).toInt32) &&& (255 : Int32))), (.int ((i3 &&& (255 : Int32)) + (((i3.toUInt32 >>> ((8 : Int32) &&& 31).toUInt32).toInt32) &&& (255 : Int32))))])) _
  refine XS.iadd X0.here hx rfl (hb hby at_76) rfl ?_
  show Steps p.tables e below (T0.setTop (mkF m 77 #[s0, s1, s2, .val (.int i3), s4, s5, s6, s7, s8, s9, s10, .val (.int (i3 &&& (255 : Int32))), .val (.int ((i3 &&& (255 : Int32)) + (((i3.toUInt32 >>> ((8 : Int32) &&& 31).toUInt32).toInt32) &&& (255 : Int32)))), s13, s14, s15, s16, s17, s18, s19, s20, s21, s22, s23] [(.int (((i3 &&& (255 : Int32)) + (((i3.toUInt32 >>> ((8 : Int32) &&& 31).toUInt32).toInt32) &&& (255 : Int32))) + (((i3.toUInt32 >>> ((16 : Int32) &&& 31).toUInt32).toInt32) &&& (255 : Int32))))])) _
  refine XS.istore X0.here hx rfl (hb hby at_77) rfl (l' := #[s0, s1, s2, .val (.int i3), s4, s5, s6, s7, s8, s9, s10, .val (.int (i3 &&& (255 : Int32))), .val (.int ((i3 &&& (255 : Int32)) + (((i3.toUInt32 >>> ((8 : Int32) &&& 31).toUInt32).toInt32) &&& (255 : Int32)))), .val (.int (((i3 &&& (255 : Int32)) + (((i3.toUInt32 >>> ((8 : Int32) &&& 31).toUInt32).toInt32) &&& (255 : Int32))) + (((i3.toUInt32 >>> ((16 : Int32) &&& 31).toUInt32).toInt32) &&& (255 : Int32)))), s14, s15, s16, s17, s18, s19, s20, s21, s22, s23]) (os_tn0_46_77 hs13) ?_
  show Steps p.tables e below (T0.setTop (mkF m 79 #[s0, s1, s2, .val (.int i3), s4, s5, s6, s7, s8, s9, s10, .val (.int (i3 &&& (255 : Int32))), .val (.int ((i3 &&& (255 : Int32)) + (((i3.toUInt32 >>> ((8 : Int32) &&& 31).toUInt32).toInt32) &&& (255 : Int32)))), .val (.int (((i3 &&& (255 : Int32)) + (((i3.toUInt32 >>> ((8 : Int32) &&& 31).toUInt32).toInt32) &&& (255 : Int32))) + (((i3.toUInt32 >>> ((16 : Int32) &&& 31).toUInt32).toInt32) &&& (255 : Int32)))), s14, s15, s16, s17, s18, s19, s20, s21, s22, s23] [])) _
  refine XS.iload X0.here hx rfl (hb hby at_79) rfl ?_
  show Steps p.tables e below (T0.setTop (mkF m 81 #[s0, s1, s2, .val (.int i3), s4, s5, s6, s7, s8, s9, s10, .val (.int (i3 &&& (255 : Int32))), .val (.int ((i3 &&& (255 : Int32)) + (((i3.toUInt32 >>> ((8 : Int32) &&& 31).toUInt32).toInt32) &&& (255 : Int32)))), .val (.int (((i3 &&& (255 : Int32)) + (((i3.toUInt32 >>> ((8 : Int32) &&& 31).toUInt32).toInt32) &&& (255 : Int32))) + (((i3.toUInt32 >>> ((16 : Int32) &&& 31).toUInt32).toInt32) &&& (255 : Int32)))), s14, s15, s16, s17, s18, s19, s20, s21, s22, s23] [(.int (((i3 &&& (255 : Int32)) + (((i3.toUInt32 >>> ((8 : Int32) &&& 31).toUInt32).toInt32) &&& (255 : Int32))) + (((i3.toUInt32 >>> ((16 : Int32) &&& 31).toUInt32).toInt32) &&& (255 : Int32))))])) _
  refine XS.iloadN X0.here hx rfl (hb hby at_81) rfl ?_
  show Steps p.tables e below (T0.setTop (mkF m 82 #[s0, s1, s2, .val (.int i3), s4, s5, s6, s7, s8, s9, s10, .val (.int (i3 &&& (255 : Int32))), .val (.int ((i3 &&& (255 : Int32)) + (((i3.toUInt32 >>> ((8 : Int32) &&& 31).toUInt32).toInt32) &&& (255 : Int32)))), .val (.int (((i3 &&& (255 : Int32)) + (((i3.toUInt32 >>> ((8 : Int32) &&& 31).toUInt32).toInt32) &&& (255 : Int32))) + (((i3.toUInt32 >>> ((16 : Int32) &&& 31).toUInt32).toInt32) &&& (255 : Int32)))), s14, s15, s16, s17, s18, s19, s20, s21, s22, s23] [(.int i3), (.int (((i3 &&& (255 : Int32)) + (((i3.toUInt32 >>> ((8 : Int32) &&& 31).toUInt32).toInt32) &&& (255 : Int32))) + (((i3.toUInt32 >>> ((16 : Int32) &&& 31).toUInt32).toInt32) &&& (255 : Int32))))])) _
  refine XS.bipush X0.here hx rfl (hb hby at_82) ?_
  show Steps p.tables e below (T0.setTop (mkF m 84 #[s0, s1, s2, .val (.int i3), s4, s5, s6, s7, s8, s9, s10, .val (.int (i3 &&& (255 : Int32))), .val (.int ((i3 &&& (255 : Int32)) + (((i3.toUInt32 >>> ((8 : Int32) &&& 31).toUInt32).toInt32) &&& (255 : Int32)))), .val (.int (((i3 &&& (255 : Int32)) + (((i3.toUInt32 >>> ((8 : Int32) &&& 31).toUInt32).toInt32) &&& (255 : Int32))) + (((i3.toUInt32 >>> ((16 : Int32) &&& 31).toUInt32).toInt32) &&& (255 : Int32)))), s14, s15, s16, s17, s18, s19, s20, s21, s22, s23] [(.int (24 : Int32)), (.int i3), (.int (((i3 &&& (255 : Int32)) + (((i3.toUInt32 >>> ((8 : Int32) &&& 31).toUInt32).toInt32) &&& (255 : Int32))) + (((i3.toUInt32 >>> ((16 : Int32) &&& 31).toUInt32).toInt32) &&& (255 : Int32))))])) _
  refine XS.iushr X0.here hx rfl (hb hby at_84) rfl ?_
  show Steps p.tables e below (T0.setTop (mkF m 85 #[s0, s1, s2, .val (.int i3), s4, s5, s6, s7, s8, s9, s10, .val (.int (i3 &&& (255 : Int32))), .val (.int ((i3 &&& (255 : Int32)) + (((i3.toUInt32 >>> ((8 : Int32) &&& 31).toUInt32).toInt32) &&& (255 : Int32)))), .val (.int (((i3 &&& (255 : Int32)) + (((i3.toUInt32 >>> ((8 : Int32) &&& 31).toUInt32).toInt32) &&& (255 : Int32))) + (((i3.toUInt32 >>> ((16 : Int32) &&& 31).toUInt32).toInt32) &&& (255 : Int32)))), s14, s15, s16, s17, s18, s19, s20, s21, s22, s23] [(.int ((i3.toUInt32 >>> ((24 : Int32) &&& 31).toUInt32).toInt32)), (.int (((i3 &&& (255 : Int32)) + (((i3.toUInt32 >>> ((8 : Int32) &&& 31).toUInt32).toInt32) &&& (255 : Int32))) + (((i3.toUInt32 >>> ((16 : Int32) &&& 31).toUInt32).toInt32) &&& (255 : Int32))))])) _
  refine XS.sipush X0.here hx rfl (hb hby at_85) ?_
  show Steps p.tables e below (T0.setTop (mkF m 88 #[s0, s1, s2, .val (.int i3), s4, s5, s6, s7, s8, s9, s10, .val (.int (i3 &&& (255 : Int32))), .val (.int ((i3 &&& (255 : Int32)) + (((i3.toUInt32 >>> ((8 : Int32) &&& 31).toUInt32).toInt32) &&& (255 : Int32)))), .val (.int (((i3 &&& (255 : Int32)) + (((i3.toUInt32 >>> ((8 : Int32) &&& 31).toUInt32).toInt32) &&& (255 : Int32))) + (((i3.toUInt32 >>> ((16 : Int32) &&& 31).toUInt32).toInt32) &&& (255 : Int32)))), s14, s15, s16, s17, s18, s19, s20, s21, s22, s23] [(.int (255 : Int32)), (.int ((i3.toUInt32 >>> ((24 : Int32) &&& 31).toUInt32).toInt32)), (.int (((i3 &&& (255 : Int32)) + (((i3.toUInt32 >>> ((8 : Int32) &&& 31).toUInt32).toInt32) &&& (255 : Int32))) + (((i3.toUInt32 >>> ((16 : Int32) &&& 31).toUInt32).toInt32) &&& (255 : Int32))))])) _
  refine XS.iand X0.here hx rfl (hb hby at_88) rfl ?_
  show Steps p.tables e below (T0.setTop (mkF m 89 #[s0, s1, s2, .val (.int i3), s4, s5, s6, s7, s8, s9, s10, .val (.int (i3 &&& (255 : Int32))), .val (.int ((i3 &&& (255 : Int32)) + (((i3.toUInt32 >>> ((8 : Int32) &&& 31).toUInt32).toInt32) &&& (255 : Int32)))), .val (.int (((i3 &&& (255 : Int32)) + (((i3.toUInt32 >>> ((8 : Int32) &&& 31).toUInt32).toInt32) &&& (255 : Int32))) + (((i3.toUInt32 >>> ((16 : Int32) &&& 31).toUInt32).toInt32) &&& (255 : Int32)))), s14, s15, s16, s17, s18, s19, s20, s21, s22, s23] [(.int (((i3.toUInt32 >>> ((24 : Int32) &&& 31).toUInt32).toInt32) &&& (255 : Int32))), (.int (((i3 &&& (255 : Int32)) + (((i3.toUInt32 >>> ((8 : Int32) &&& 31).toUInt32).toInt32) &&& (255 : Int32))) + (((i3.toUInt32 >>> ((16 : Int32) &&& 31).toUInt32).toInt32) &&& (255 : Int32))))])) _
  refine XS.iadd X0.here hx rfl (hb hby at_89) rfl ?_
  show Steps p.tables e below (T0.setTop (mkF m 90 #[s0, s1, s2, .val (.int i3), s4, s5, s6, s7, s8, s9, s10, .val (.int (i3 &&& (255 : Int32))), .val (.int ((i3 &&& (255 : Int32)) + (((i3.toUInt32 >>> ((8 : Int32) &&& 31).toUInt32).toInt32) &&& (255 : Int32)))), .val (.int (((i3 &&& (255 : Int32)) + (((i3.toUInt32 >>> ((8 : Int32) &&& 31).toUInt32).toInt32) &&& (255 : Int32))) + (((i3.toUInt32 >>> ((16 : Int32) &&& 31).toUInt32).toInt32) &&& (255 : Int32)))), s14, s15, s16, s17, s18, s19, s20, s21, s22, s23] [(.int ((((i3 &&& (255 : Int32)) + (((i3.toUInt32 >>> ((8 : Int32) &&& 31).toUInt32).toInt32) &&& (255 : Int32))) + (((i3.toUInt32 >>> ((16 : Int32) &&& 31).toUInt32).toInt32) &&& (255 : Int32))) + (((i3.toUInt32 >>> ((24 : Int32) &&& 31).toUInt32).toInt32) &&& (255 : Int32))))])) _
  refine XS.istore X0.here hx rfl (hb hby at_90) rfl (l' := #[s0, s1, s2, .val (.int i3), s4, s5, s6, s7, s8, s9, s10, .val (.int (i3 &&& (255 : Int32))), .val (.int ((i3 &&& (255 : Int32)) + (((i3.toUInt32 >>> ((8 : Int32) &&& 31).toUInt32).toInt32) &&& (255 : Int32)))), .val (.int (((i3 &&& (255 : Int32)) + (((i3.toUInt32 >>> ((8 : Int32) &&& 31).toUInt32).toInt32) &&& (255 : Int32))) + (((i3.toUInt32 >>> ((16 : Int32) &&& 31).toUInt32).toInt32) &&& (255 : Int32)))), .val (.int ((((i3 &&& (255 : Int32)) + (((i3.toUInt32 >>> ((8 : Int32) &&& 31).toUInt32).toInt32) &&& (255 : Int32))) + (((i3.toUInt32 >>> ((16 : Int32) &&& 31).toUInt32).toInt32) &&& (255 : Int32))) + (((i3.toUInt32 >>> ((24 : Int32) &&& 31).toUInt32).toInt32) &&& (255 : Int32)))), s15, s16, s17, s18, s19, s20, s21, s22, s23]) (os_tn0_46_90 hs14) ?_
  exact kt
theorem os_tn0_92_t_106 {s0 : Slot} {s1 : Slot} {s2 : Slot} {s3 : Slot} {s4 : Slot} {z5 : Value} {s6 : Slot} {s7 : Slot} {s8 : Slot} {s9 : Slot} {s10 : Slot} {s11 : Slot} {s12 : Slot} {s13 : Slot} {s14 : Slot} {s15 : Slot} {s16 : Slot} {s17 : Slot} {s18 : Slot} {s19 : Slot} {s20 : Slot} {s21 : Slot} {s22 : Slot} {s23 : Slot} {v : Int32} (h : One s15) : storeLocals #[s0, s1, s2, s3, s4, .val z5, s6, s7, s8, s9, s10, s11, s12, s13, s14, s15, s16, s17, s18, s19, s20, s21, s22, s23] 15 (.int v) = some #[s0, s1, s2, s3, s4, .val z5, s6, s7, s8, s9, s10, s11, s12, s13, s14, .val (.int v), s16, s17, s18, s19, s20, s21, s22, s23] := by
  rcases h with rfl | ⟨w, rfl, hw⟩
  · rfl
  · cases w <;> first | rfl | (simp [Value.category] at hw)
set_option maxRecDepth 65536 in
set_option maxHeartbeats 40000000 in
theorem tn0_92_t {p : Program} {l : Launch} {e : Env} {s : State} {m : MethodId} {args : Array Value} {below : List Frame} {meth : Method} {c : Code} {T0 : State} {locs : List Loc} {Z : State} {a0 : Array Value} {h0 : Heap} (s0 : Slot) (s1 : Slot) (s2 : Slot) (s3 : Slot) (s4 : Slot) (i5 : Int32) (s6 : Slot) (s7 : Slot) (s8 : Slot) (s9 : Slot) (s10 : Slot) (s11 : Slot) (s12 : Slot) (s13 : Slot) (s14 : Slot) (s15 : Slot) (s16 : Slot) (s17 : Slot) (s18 : Slot) (s19 : Slot) (s20 : Slot) (s21 : Slot) (s22 : Slot) (s23 : Slot)
    (X0 : Stand p l e room_1 s m args below meth c T0 locs 0 0) (hx : p.tables.exec = Jvm.exec) (hZ : Z.Warmed39 s.vm) (hw : ∀ d ∈ tables_1, d.before a0 Z = true) (hby : c.code = code) (hml : c.maxLocals = 24) (hown : s.vm.findClass "com/example/umbel/umbel/query/OccurrencesFirstUnusedAfterPinLaw" = some m.cls) (e0 : T0.heap = h0) (n0 : Nat) (Z0 : n0 ≤ h0.size) (N0 : Fr n0 locs) (hs15 : One s15) (hc98 : (((i5.toUInt32 >>> ((3 : Int32) &&& 31).toUInt32).toInt32) &&& (1 : Int32)) = (0 : Int32)) :
    ∃ (T' : State) (locs' : List Loc), Stand p l e room_1 s m args below meth c T' locs' 0 0 ∧ Fr n0 locs' ∧ T'.heap = h0 ∧
      ∀ target, Steps p.tables e below (T'.setTop (mkF m 108 #[s0, s1, s2, s3, s4, .val (.int i5), s6, s7, s8, s9, s10, s11, s12, s13, s14, .val (.int (0 : Int32)), s16, s17, s18, s19, s20, s21, s22, s23] [])) target → Steps p.tables e below (T0.setTop (mkF m 92 #[s0, s1, s2, s3, s4, .val (.int i5), s6, s7, s8, s9, s10, s11, s12, s13, s14, s15, s16, s17, s18, s19, s20, s21, s22, s23] [])) target := by
  refine ⟨T0, _, X0, N0, e0, fun target kt => ?_⟩
  show Steps p.tables e below (T0.setTop (mkF m 92 #[s0, s1, s2, s3, s4, .val (.int i5), s6, s7, s8, s9, s10, s11, s12, s13, s14, s15, s16, s17, s18, s19, s20, s21, s22, s23] [])) _
  refine XS.iload X0.here hx rfl (hb hby at_92) rfl ?_
  show Steps p.tables e below (T0.setTop (mkF m 94 #[s0, s1, s2, s3, s4, .val (.int i5), s6, s7, s8, s9, s10, s11, s12, s13, s14, s15, s16, s17, s18, s19, s20, s21, s22, s23] [(.int i5)])) _
  refine XS.iconst X0.here hx rfl (hb hby at_94) ?_
  show Steps p.tables e below (T0.setTop (mkF m 95 #[s0, s1, s2, s3, s4, .val (.int i5), s6, s7, s8, s9, s10, s11, s12, s13, s14, s15, s16, s17, s18, s19, s20, s21, s22, s23] [(.int (3 : Int32)), (.int i5)])) _
  refine XS.iushr X0.here hx rfl (hb hby at_95) rfl ?_
  show Steps p.tables e below (T0.setTop (mkF m 96 #[s0, s1, s2, s3, s4, .val (.int i5), s6, s7, s8, s9, s10, s11, s12, s13, s14, s15, s16, s17, s18, s19, s20, s21, s22, s23] [(.int ((i5.toUInt32 >>> ((3 : Int32) &&& 31).toUInt32).toInt32))])) _
  refine XS.iconst X0.here hx rfl (hb hby at_96) ?_
  show Steps p.tables e below (T0.setTop (mkF m 97 #[s0, s1, s2, s3, s4, .val (.int i5), s6, s7, s8, s9, s10, s11, s12, s13, s14, s15, s16, s17, s18, s19, s20, s21, s22, s23] [(.int (1 : Int32)), (.int ((i5.toUInt32 >>> ((3 : Int32) &&& 31).toUInt32).toInt32))])) _
  refine XS.iand X0.here hx rfl (hb hby at_97) rfl ?_
  show Steps p.tables e below (T0.setTop (mkF m 98 #[s0, s1, s2, s3, s4, .val (.int i5), s6, s7, s8, s9, s10, s11, s12, s13, s14, s15, s16, s17, s18, s19, s20, s21, s22, s23] [(.int (((i5.toUInt32 >>> ((3 : Int32) &&& 31).toUInt32).toInt32) &&& (1 : Int32)))])) _
  refine XS.ifYes X0.here hx rfl (pc0 := 98) (pc' := 105) rfl (hb hby at_98) rfl ((if0 _ _).trans (teq hc98).1) (by decide) (by decide) ?_
  show Steps p.tables e below (T0.setTop (mkF m 105 #[s0, s1, s2, s3, s4, .val (.int i5), s6, s7, s8, s9, s10, s11, s12, s13, s14, s15, s16, s17, s18, s19, s20, s21, s22, s23] [])) _
  refine XS.iconst X0.here hx rfl (hb hby at_105) ?_
  show Steps p.tables e below (T0.setTop (mkF m 106 #[s0, s1, s2, s3, s4, .val (.int i5), s6, s7, s8, s9, s10, s11, s12, s13, s14, s15, s16, s17, s18, s19, s20, s21, s22, s23] [(.int (0 : Int32))])) _
  refine XS.istore X0.here hx rfl (hb hby at_106) rfl (l' := #[s0, s1, s2, s3, s4, .val (.int i5), s6, s7, s8, s9, s10, s11, s12, s13, s14, .val (.int (0 : Int32)), s16, s17, s18, s19, s20, s21, s22, s23]) (os_tn0_92_t_106 hs15) ?_
  exact kt
theorem os_tn0_92_f_106 {s0 : Slot} {s1 : Slot} {s2 : Slot} {s3 : Slot} {s4 : Slot} {z5 : Value} {s6 : Slot} {s7 : Slot} {s8 : Slot} {s9 : Slot} {s10 : Slot} {s11 : Slot} {s12 : Slot} {s13 : Slot} {s14 : Slot} {s15 : Slot} {s16 : Slot} {s17 : Slot} {s18 : Slot} {s19 : Slot} {s20 : Slot} {s21 : Slot} {s22 : Slot} {s23 : Slot} {v : Int32} (h : One s15) : storeLocals #[s0, s1, s2, s3, s4, .val z5, s6, s7, s8, s9, s10, s11, s12, s13, s14, s15, s16, s17, s18, s19, s20, s21, s22, s23] 15 (.int v) = some #[s0, s1, s2, s3, s4, .val z5, s6, s7, s8, s9, s10, s11, s12, s13, s14, .val (.int v), s16, s17, s18, s19, s20, s21, s22, s23] := by
  rcases h with rfl | ⟨w, rfl, hw⟩
  · rfl
  · cases w <;> first | rfl | (simp [Value.category] at hw)
set_option maxRecDepth 65536 in
set_option maxHeartbeats 40000000 in
theorem tn0_92_f {p : Program} {l : Launch} {e : Env} {s : State} {m : MethodId} {args : Array Value} {below : List Frame} {meth : Method} {c : Code} {T0 : State} {locs : List Loc} {Z : State} {a0 : Array Value} {h0 : Heap} (s0 : Slot) (s1 : Slot) (s2 : Slot) (s3 : Slot) (s4 : Slot) (i5 : Int32) (s6 : Slot) (s7 : Slot) (s8 : Slot) (s9 : Slot) (s10 : Slot) (s11 : Slot) (s12 : Slot) (s13 : Slot) (s14 : Slot) (s15 : Slot) (s16 : Slot) (s17 : Slot) (s18 : Slot) (s19 : Slot) (s20 : Slot) (s21 : Slot) (s22 : Slot) (s23 : Slot)
    (X0 : Stand p l e room_1 s m args below meth c T0 locs 0 0) (hx : p.tables.exec = Jvm.exec) (hZ : Z.Warmed39 s.vm) (hw : ∀ d ∈ tables_1, d.before a0 Z = true) (hby : c.code = code) (hml : c.maxLocals = 24) (hown : s.vm.findClass "com/example/umbel/umbel/query/OccurrencesFirstUnusedAfterPinLaw" = some m.cls) (e0 : T0.heap = h0) (n0 : Nat) (Z0 : n0 ≤ h0.size) (N0 : Fr n0 locs) (hs15 : One s15) (hc98 : ¬ ((((i5.toUInt32 >>> ((3 : Int32) &&& 31).toUInt32).toInt32) &&& (1 : Int32)) = (0 : Int32))) :
    ∃ (T' : State) (locs' : List Loc), Stand p l e room_1 s m args below meth c T' locs' 0 0 ∧ Fr n0 locs' ∧ T'.heap = h0 ∧
      ∀ target, Steps p.tables e below (T'.setTop (mkF m 108 #[s0, s1, s2, s3, s4, .val (.int i5), s6, s7, s8, s9, s10, s11, s12, s13, s14, .val (.int (1 : Int32)), s16, s17, s18, s19, s20, s21, s22, s23] [])) target → Steps p.tables e below (T0.setTop (mkF m 92 #[s0, s1, s2, s3, s4, .val (.int i5), s6, s7, s8, s9, s10, s11, s12, s13, s14, s15, s16, s17, s18, s19, s20, s21, s22, s23] [])) target := by
  refine ⟨T0, _, X0, N0, e0, fun target kt => ?_⟩
  show Steps p.tables e below (T0.setTop (mkF m 92 #[s0, s1, s2, s3, s4, .val (.int i5), s6, s7, s8, s9, s10, s11, s12, s13, s14, s15, s16, s17, s18, s19, s20, s21, s22, s23] [])) _
  refine XS.iload X0.here hx rfl (hb hby at_92) rfl ?_
  show Steps p.tables e below (T0.setTop (mkF m 94 #[s0, s1, s2, s3, s4, .val (.int i5), s6, s7, s8, s9, s10, s11, s12, s13, s14, s15, s16, s17, s18, s19, s20, s21, s22, s23] [(.int i5)])) _
  refine XS.iconst X0.here hx rfl (hb hby at_94) ?_
  show Steps p.tables e below (T0.setTop (mkF m 95 #[s0, s1, s2, s3, s4, .val (.int i5), s6, s7, s8, s9, s10, s11, s12, s13, s14, s15, s16, s17, s18, s19, s20, s21, s22, s23] [(.int (3 : Int32)), (.int i5)])) _
  refine XS.iushr X0.here hx rfl (hb hby at_95) rfl ?_
  show Steps p.tables e below (T0.setTop (mkF m 96 #[s0, s1, s2, s3, s4, .val (.int i5), s6, s7, s8, s9, s10, s11, s12, s13, s14, s15, s16, s17, s18, s19, s20, s21, s22, s23] [(.int ((i5.toUInt32 >>> ((3 : Int32) &&& 31).toUInt32).toInt32))])) _
  refine XS.iconst X0.here hx rfl (hb hby at_96) ?_
  show Steps p.tables e below (T0.setTop (mkF m 97 #[s0, s1, s2, s3, s4, .val (.int i5), s6, s7, s8, s9, s10, s11, s12, s13, s14, s15, s16, s17, s18, s19, s20, s21, s22, s23] [(.int (1 : Int32)), (.int ((i5.toUInt32 >>> ((3 : Int32) &&& 31).toUInt32).toInt32))])) _
  refine XS.iand X0.here hx rfl (hb hby at_97) rfl ?_
  show Steps p.tables e below (T0.setTop (mkF m 98 #[s0, s1, s2, s3, s4, .val (.int i5), s6, s7, s8, s9, s10, s11, s12, s13, s14, s15, s16, s17, s18, s19, s20, s21, s22, s23] [(.int (((i5.toUInt32 >>> ((3 : Int32) &&& 31).toUInt32).toInt32) &&& (1 : Int32)))])) _
  refine XS.ifNo X0.here hx rfl (hb hby at_98) rfl ((if0 _ _).trans (feq hc98).1) ?_
  show Steps p.tables e below (T0.setTop (mkF m 101 #[s0, s1, s2, s3, s4, .val (.int i5), s6, s7, s8, s9, s10, s11, s12, s13, s14, s15, s16, s17, s18, s19, s20, s21, s22, s23] [])) _
  refine XS.iconst X0.here hx rfl (hb hby at_101) ?_
  show Steps p.tables e below (T0.setTop (mkF m 102 #[s0, s1, s2, s3, s4, .val (.int i5), s6, s7, s8, s9, s10, s11, s12, s13, s14, s15, s16, s17, s18, s19, s20, s21, s22, s23] [(.int (1 : Int32))])) _
  refine XS.goto X0.here hx rfl (pc0 := 102) (pc' := 106) rfl (hb hby at_102) (by decide) (by decide) ?_
  show Steps p.tables e below (T0.setTop (mkF m 106 #[s0, s1, s2, s3, s4, .val (.int i5), s6, s7, s8, s9, s10, s11, s12, s13, s14, s15, s16, s17, s18, s19, s20, s21, s22, s23] [(.int (1 : Int32))])) _
  refine XS.istore X0.here hx rfl (hb hby at_106) rfl (l' := #[s0, s1, s2, s3, s4, .val (.int i5), s6, s7, s8, s9, s10, s11, s12, s13, s14, .val (.int (1 : Int32)), s16, s17, s18, s19, s20, s21, s22, s23]) (os_tn0_92_f_106 hs15) ?_
  exact kt
theorem tn0_92 {p : Program} {l : Launch} {e : Env} {s : State} {m : MethodId} {args : Array Value} {below : List Frame} {meth : Method} {c : Code} {Z : State} {a0 : Array Value} {h0 : Heap} {T0 : State} {locs : List Loc} (s0 : Slot) (s1 : Slot) (s2 : Slot) (s3 : Slot) (s4 : Slot) (i5 : Int32) (s6 : Slot) (s7 : Slot) (s8 : Slot) (s9 : Slot) (s10 : Slot) (s11 : Slot) (s12 : Slot) (s13 : Slot) (s14 : Slot) (s15 : Slot) (s16 : Slot) (s17 : Slot) (s18 : Slot) (s19 : Slot) (s20 : Slot) (s21 : Slot) (s22 : Slot) (s23 : Slot)
    (X0 : Stand p l e room_1 s m args below meth c T0 locs 0 0) (hx : p.tables.exec = Jvm.exec) (hZ : Z.Warmed39 s.vm) (hw : ∀ d ∈ tables_1, d.before a0 Z = true) (hby : c.code = code) (hml : c.maxLocals = 24) (hown : s.vm.findClass "com/example/umbel/umbel/query/OccurrencesFirstUnusedAfterPinLaw" = some m.cls) (e0 : T0.heap = h0) (n0 : Nat) (Z0 : n0 ≤ h0.size) (N0 : Fr n0 locs) (hs15 : One s15) :
    ∃ (T' : State) (locs' : List Loc) (u : Int32), Stand p l e room_1 s m args below meth c T' locs' 0 0 ∧ Fr n0 locs' ∧ T'.heap = h0 ∧
      ∀ target, Steps p.tables e below (T'.setTop (mkF m 108 #[s0, s1, s2, s3, s4, .val (.int i5), s6, s7, s8, s9, s10, s11, s12, s13, s14, .val (.int u), s16, s17, s18, s19, s20, s21, s22, s23] [])) target → Steps p.tables e below (T0.setTop (mkF m 92 #[s0, s1, s2, s3, s4, .val (.int i5), s6, s7, s8, s9, s10, s11, s12, s13, s14, s15, s16, s17, s18, s19, s20, s21, s22, s23] [])) target := by
  by_cases q : (((i5.toUInt32 >>> ((3 : Int32) &&& 31).toUInt32).toInt32) &&& (1 : Int32)) = (0 : Int32)
  · obtain ⟨T1, L1, X1, N1, e1, st1⟩ := tn0_92_t s0 s1 s2 s3 s4 i5 s6 s7 s8 s9 s10 s11 s12 s13 s14 s15 s16 s17 s18 s19 s20 s21 s22 s23 X0 hx hZ hw hby hml hown e0 n0 Z0 N0 hs15 q
    exact ⟨T1, L1, (0 : Int32), X1, N1, e1, st1⟩
  · obtain ⟨T1, L1, X1, N1, e1, st1⟩ := tn0_92_f s0 s1 s2 s3 s4 i5 s6 s7 s8 s9 s10 s11 s12 s13 s14 s15 s16 s17 s18 s19 s20 s21 s22 s23 X0 hx hZ hw hby hml hown e0 n0 Z0 N0 hs15 q
    exact ⟨T1, L1, (1 : Int32), X1, N1, e1, st1⟩
theorem os_tn0_108_t_122 {s0 : Slot} {s1 : Slot} {s2 : Slot} {s3 : Slot} {s4 : Slot} {z5 : Value} {s6 : Slot} {s7 : Slot} {s8 : Slot} {s9 : Slot} {s10 : Slot} {s11 : Slot} {s12 : Slot} {s13 : Slot} {s14 : Slot} {s15 : Slot} {s16 : Slot} {s17 : Slot} {s18 : Slot} {s19 : Slot} {s20 : Slot} {s21 : Slot} {s22 : Slot} {s23 : Slot} {v : Int32} (h : One s16) : storeLocals #[s0, s1, s2, s3, s4, .val z5, s6, s7, s8, s9, s10, s11, s12, s13, s14, s15, s16, s17, s18, s19, s20, s21, s22, s23] 16 (.int v) = some #[s0, s1, s2, s3, s4, .val z5, s6, s7, s8, s9, s10, s11, s12, s13, s14, s15, .val (.int v), s17, s18, s19, s20, s21, s22, s23] := by
  rcases h with rfl | ⟨w, rfl, hw⟩
  · rfl
  · cases w <;> first | rfl | (simp [Value.category] at hw)
set_option maxRecDepth 65536 in
set_option maxHeartbeats 40000000 in
theorem tn0_108_t {p : Program} {l : Launch} {e : Env} {s : State} {m : MethodId} {args : Array Value} {below : List Frame} {meth : Method} {c : Code} {T0 : State} {locs : List Loc} {Z : State} {a0 : Array Value} {h0 : Heap} (s0 : Slot) (s1 : Slot) (s2 : Slot) (s3 : Slot) (s4 : Slot) (i5 : Int32) (s6 : Slot) (s7 : Slot) (s8 : Slot) (s9 : Slot) (s10 : Slot) (s11 : Slot) (s12 : Slot) (s13 : Slot) (s14 : Slot) (s15 : Slot) (s16 : Slot) (s17 : Slot) (s18 : Slot) (s19 : Slot) (s20 : Slot) (s21 : Slot) (s22 : Slot) (s23 : Slot)
    (X0 : Stand p l e room_1 s m args below meth c T0 locs 0 0) (hx : p.tables.exec = Jvm.exec) (hZ : Z.Warmed39 s.vm) (hw : ∀ d ∈ tables_1, d.before a0 Z = true) (hby : c.code = code) (hml : c.maxLocals = 24) (hown : s.vm.findClass "com/example/umbel/umbel/query/OccurrencesFirstUnusedAfterPinLaw" = some m.cls) (e0 : T0.heap = h0) (n0 : Nat) (Z0 : n0 ≤ h0.size) (N0 : Fr n0 locs) (hs16 : One s16) (hc114 : (((i5.toUInt32 >>> ((4 : Int32) &&& 31).toUInt32).toInt32) &&& (1 : Int32)) = (0 : Int32)) :
    ∃ (T' : State) (locs' : List Loc), Stand p l e room_1 s m args below meth c T' locs' 0 0 ∧ Fr n0 locs' ∧ T'.heap = h0 ∧
      ∀ target, Steps p.tables e below (T'.setTop (mkF m 124 #[s0, s1, s2, s3, s4, .val (.int i5), s6, s7, s8, s9, s10, s11, s12, s13, s14, s15, .val (.int (0 : Int32)), s17, s18, s19, s20, s21, s22, s23] [])) target → Steps p.tables e below (T0.setTop (mkF m 108 #[s0, s1, s2, s3, s4, .val (.int i5), s6, s7, s8, s9, s10, s11, s12, s13, s14, s15, s16, s17, s18, s19, s20, s21, s22, s23] [])) target := by
  refine ⟨T0, _, X0, N0, e0, fun target kt => ?_⟩
  show Steps p.tables e below (T0.setTop (mkF m 108 #[s0, s1, s2, s3, s4, .val (.int i5), s6, s7, s8, s9, s10, s11, s12, s13, s14, s15, s16, s17, s18, s19, s20, s21, s22, s23] [])) _
  refine XS.iload X0.here hx rfl (hb hby at_108) rfl ?_
  show Steps p.tables e below (T0.setTop (mkF m 110 #[s0, s1, s2, s3, s4, .val (.int i5), s6, s7, s8, s9, s10, s11, s12, s13, s14, s15, s16, s17, s18, s19, s20, s21, s22, s23] [(.int i5)])) _
  refine XS.iconst X0.here hx rfl (hb hby at_110) ?_
  show Steps p.tables e below (T0.setTop (mkF m 111 #[s0, s1, s2, s3, s4, .val (.int i5), s6, s7, s8, s9, s10, s11, s12, s13, s14, s15, s16, s17, s18, s19, s20, s21, s22, s23] [(.int (4 : Int32)), (.int i5)])) _
  refine XS.iushr X0.here hx rfl (hb hby at_111) rfl ?_
  show Steps p.tables e below (T0.setTop (mkF m 112 #[s0, s1, s2, s3, s4, .val (.int i5), s6, s7, s8, s9, s10, s11, s12, s13, s14, s15, s16, s17, s18, s19, s20, s21, s22, s23] [(.int ((i5.toUInt32 >>> ((4 : Int32) &&& 31).toUInt32).toInt32))])) _
  refine XS.iconst X0.here hx rfl (hb hby at_112) ?_
  show Steps p.tables e below (T0.setTop (mkF m 113 #[s0, s1, s2, s3, s4, .val (.int i5), s6, s7, s8, s9, s10, s11, s12, s13, s14, s15, s16, s17, s18, s19, s20, s21, s22, s23] [(.int (1 : Int32)), (.int ((i5.toUInt32 >>> ((4 : Int32) &&& 31).toUInt32).toInt32))])) _
  refine XS.iand X0.here hx rfl (hb hby at_113) rfl ?_
  show Steps p.tables e below (T0.setTop (mkF m 114 #[s0, s1, s2, s3, s4, .val (.int i5), s6, s7, s8, s9, s10, s11, s12, s13, s14, s15, s16, s17, s18, s19, s20, s21, s22, s23] [(.int (((i5.toUInt32 >>> ((4 : Int32) &&& 31).toUInt32).toInt32) &&& (1 : Int32)))])) _
  refine XS.ifYes X0.here hx rfl (pc0 := 114) (pc' := 121) rfl (hb hby at_114) rfl ((if0 _ _).trans (teq hc114).1) (by decide) (by decide) ?_
  show Steps p.tables e below (T0.setTop (mkF m 121 #[s0, s1, s2, s3, s4, .val (.int i5), s6, s7, s8, s9, s10, s11, s12, s13, s14, s15, s16, s17, s18, s19, s20, s21, s22, s23] [])) _
  refine XS.iconst X0.here hx rfl (hb hby at_121) ?_
  show Steps p.tables e below (T0.setTop (mkF m 122 #[s0, s1, s2, s3, s4, .val (.int i5), s6, s7, s8, s9, s10, s11, s12, s13, s14, s15, s16, s17, s18, s19, s20, s21, s22, s23] [(.int (0 : Int32))])) _
  refine XS.istore X0.here hx rfl (hb hby at_122) rfl (l' := #[s0, s1, s2, s3, s4, .val (.int i5), s6, s7, s8, s9, s10, s11, s12, s13, s14, s15, .val (.int (0 : Int32)), s17, s18, s19, s20, s21, s22, s23]) (os_tn0_108_t_122 hs16) ?_
  exact kt
theorem os_tn0_108_f_122 {s0 : Slot} {s1 : Slot} {s2 : Slot} {s3 : Slot} {s4 : Slot} {z5 : Value} {s6 : Slot} {s7 : Slot} {s8 : Slot} {s9 : Slot} {s10 : Slot} {s11 : Slot} {s12 : Slot} {s13 : Slot} {s14 : Slot} {s15 : Slot} {s16 : Slot} {s17 : Slot} {s18 : Slot} {s19 : Slot} {s20 : Slot} {s21 : Slot} {s22 : Slot} {s23 : Slot} {v : Int32} (h : One s16) : storeLocals #[s0, s1, s2, s3, s4, .val z5, s6, s7, s8, s9, s10, s11, s12, s13, s14, s15, s16, s17, s18, s19, s20, s21, s22, s23] 16 (.int v) = some #[s0, s1, s2, s3, s4, .val z5, s6, s7, s8, s9, s10, s11, s12, s13, s14, s15, .val (.int v), s17, s18, s19, s20, s21, s22, s23] := by
  rcases h with rfl | ⟨w, rfl, hw⟩
  · rfl
  · cases w <;> first | rfl | (simp [Value.category] at hw)
set_option maxRecDepth 65536 in
set_option maxHeartbeats 40000000 in
theorem tn0_108_f {p : Program} {l : Launch} {e : Env} {s : State} {m : MethodId} {args : Array Value} {below : List Frame} {meth : Method} {c : Code} {T0 : State} {locs : List Loc} {Z : State} {a0 : Array Value} {h0 : Heap} (s0 : Slot) (s1 : Slot) (s2 : Slot) (s3 : Slot) (s4 : Slot) (i5 : Int32) (s6 : Slot) (s7 : Slot) (s8 : Slot) (s9 : Slot) (s10 : Slot) (s11 : Slot) (s12 : Slot) (s13 : Slot) (s14 : Slot) (s15 : Slot) (s16 : Slot) (s17 : Slot) (s18 : Slot) (s19 : Slot) (s20 : Slot) (s21 : Slot) (s22 : Slot) (s23 : Slot)
    (X0 : Stand p l e room_1 s m args below meth c T0 locs 0 0) (hx : p.tables.exec = Jvm.exec) (hZ : Z.Warmed39 s.vm) (hw : ∀ d ∈ tables_1, d.before a0 Z = true) (hby : c.code = code) (hml : c.maxLocals = 24) (hown : s.vm.findClass "com/example/umbel/umbel/query/OccurrencesFirstUnusedAfterPinLaw" = some m.cls) (e0 : T0.heap = h0) (n0 : Nat) (Z0 : n0 ≤ h0.size) (N0 : Fr n0 locs) (hs16 : One s16) (hc114 : ¬ ((((i5.toUInt32 >>> ((4 : Int32) &&& 31).toUInt32).toInt32) &&& (1 : Int32)) = (0 : Int32))) :
    ∃ (T' : State) (locs' : List Loc), Stand p l e room_1 s m args below meth c T' locs' 0 0 ∧ Fr n0 locs' ∧ T'.heap = h0 ∧
      ∀ target, Steps p.tables e below (T'.setTop (mkF m 124 #[s0, s1, s2, s3, s4, .val (.int i5), s6, s7, s8, s9, s10, s11, s12, s13, s14, s15, .val (.int (1 : Int32)), s17, s18, s19, s20, s21, s22, s23] [])) target → Steps p.tables e below (T0.setTop (mkF m 108 #[s0, s1, s2, s3, s4, .val (.int i5), s6, s7, s8, s9, s10, s11, s12, s13, s14, s15, s16, s17, s18, s19, s20, s21, s22, s23] [])) target := by
  refine ⟨T0, _, X0, N0, e0, fun target kt => ?_⟩
  show Steps p.tables e below (T0.setTop (mkF m 108 #[s0, s1, s2, s3, s4, .val (.int i5), s6, s7, s8, s9, s10, s11, s12, s13, s14, s15, s16, s17, s18, s19, s20, s21, s22, s23] [])) _
  refine XS.iload X0.here hx rfl (hb hby at_108) rfl ?_
  show Steps p.tables e below (T0.setTop (mkF m 110 #[s0, s1, s2, s3, s4, .val (.int i5), s6, s7, s8, s9, s10, s11, s12, s13, s14, s15, s16, s17, s18, s19, s20, s21, s22, s23] [(.int i5)])) _
  refine XS.iconst X0.here hx rfl (hb hby at_110) ?_
  show Steps p.tables e below (T0.setTop (mkF m 111 #[s0, s1, s2, s3, s4, .val (.int i5), s6, s7, s8, s9, s10, s11, s12, s13, s14, s15, s16, s17, s18, s19, s20, s21, s22, s23] [(.int (4 : Int32)), (.int i5)])) _
  refine XS.iushr X0.here hx rfl (hb hby at_111) rfl ?_
  show Steps p.tables e below (T0.setTop (mkF m 112 #[s0, s1, s2, s3, s4, .val (.int i5), s6, s7, s8, s9, s10, s11, s12, s13, s14, s15, s16, s17, s18, s19, s20, s21, s22, s23] [(.int ((i5.toUInt32 >>> ((4 : Int32) &&& 31).toUInt32).toInt32))])) _
  refine XS.iconst X0.here hx rfl (hb hby at_112) ?_
  show Steps p.tables e below (T0.setTop (mkF m 113 #[s0, s1, s2, s3, s4, .val (.int i5), s6, s7, s8, s9, s10, s11, s12, s13, s14, s15, s16, s17, s18, s19, s20, s21, s22, s23] [(.int (1 : Int32)), (.int ((i5.toUInt32 >>> ((4 : Int32) &&& 31).toUInt32).toInt32))])) _
  refine XS.iand X0.here hx rfl (hb hby at_113) rfl ?_
  show Steps p.tables e below (T0.setTop (mkF m 114 #[s0, s1, s2, s3, s4, .val (.int i5), s6, s7, s8, s9, s10, s11, s12, s13, s14, s15, s16, s17, s18, s19, s20, s21, s22, s23] [(.int (((i5.toUInt32 >>> ((4 : Int32) &&& 31).toUInt32).toInt32) &&& (1 : Int32)))])) _
  refine XS.ifNo X0.here hx rfl (hb hby at_114) rfl ((if0 _ _).trans (feq hc114).1) ?_
  show Steps p.tables e below (T0.setTop (mkF m 117 #[s0, s1, s2, s3, s4, .val (.int i5), s6, s7, s8, s9, s10, s11, s12, s13, s14, s15, s16, s17, s18, s19, s20, s21, s22, s23] [])) _
  refine XS.iconst X0.here hx rfl (hb hby at_117) ?_
  show Steps p.tables e below (T0.setTop (mkF m 118 #[s0, s1, s2, s3, s4, .val (.int i5), s6, s7, s8, s9, s10, s11, s12, s13, s14, s15, s16, s17, s18, s19, s20, s21, s22, s23] [(.int (1 : Int32))])) _
  refine XS.goto X0.here hx rfl (pc0 := 118) (pc' := 122) rfl (hb hby at_118) (by decide) (by decide) ?_
  show Steps p.tables e below (T0.setTop (mkF m 122 #[s0, s1, s2, s3, s4, .val (.int i5), s6, s7, s8, s9, s10, s11, s12, s13, s14, s15, s16, s17, s18, s19, s20, s21, s22, s23] [(.int (1 : Int32))])) _
  refine XS.istore X0.here hx rfl (hb hby at_122) rfl (l' := #[s0, s1, s2, s3, s4, .val (.int i5), s6, s7, s8, s9, s10, s11, s12, s13, s14, s15, .val (.int (1 : Int32)), s17, s18, s19, s20, s21, s22, s23]) (os_tn0_108_f_122 hs16) ?_
  exact kt
theorem tn0_108 {p : Program} {l : Launch} {e : Env} {s : State} {m : MethodId} {args : Array Value} {below : List Frame} {meth : Method} {c : Code} {Z : State} {a0 : Array Value} {h0 : Heap} {T0 : State} {locs : List Loc} (s0 : Slot) (s1 : Slot) (s2 : Slot) (s3 : Slot) (s4 : Slot) (i5 : Int32) (s6 : Slot) (s7 : Slot) (s8 : Slot) (s9 : Slot) (s10 : Slot) (s11 : Slot) (s12 : Slot) (s13 : Slot) (s14 : Slot) (s15 : Slot) (s16 : Slot) (s17 : Slot) (s18 : Slot) (s19 : Slot) (s20 : Slot) (s21 : Slot) (s22 : Slot) (s23 : Slot)
    (X0 : Stand p l e room_1 s m args below meth c T0 locs 0 0) (hx : p.tables.exec = Jvm.exec) (hZ : Z.Warmed39 s.vm) (hw : ∀ d ∈ tables_1, d.before a0 Z = true) (hby : c.code = code) (hml : c.maxLocals = 24) (hown : s.vm.findClass "com/example/umbel/umbel/query/OccurrencesFirstUnusedAfterPinLaw" = some m.cls) (e0 : T0.heap = h0) (n0 : Nat) (Z0 : n0 ≤ h0.size) (N0 : Fr n0 locs) (hs16 : One s16) :
    ∃ (T' : State) (locs' : List Loc) (u : Int32), Stand p l e room_1 s m args below meth c T' locs' 0 0 ∧ Fr n0 locs' ∧ T'.heap = h0 ∧
      ∀ target, Steps p.tables e below (T'.setTop (mkF m 124 #[s0, s1, s2, s3, s4, .val (.int i5), s6, s7, s8, s9, s10, s11, s12, s13, s14, s15, .val (.int u), s17, s18, s19, s20, s21, s22, s23] [])) target → Steps p.tables e below (T0.setTop (mkF m 108 #[s0, s1, s2, s3, s4, .val (.int i5), s6, s7, s8, s9, s10, s11, s12, s13, s14, s15, s16, s17, s18, s19, s20, s21, s22, s23] [])) target := by
  by_cases q : (((i5.toUInt32 >>> ((4 : Int32) &&& 31).toUInt32).toInt32) &&& (1 : Int32)) = (0 : Int32)
  · obtain ⟨T1, L1, X1, N1, e1, st1⟩ := tn0_108_t s0 s1 s2 s3 s4 i5 s6 s7 s8 s9 s10 s11 s12 s13 s14 s15 s16 s17 s18 s19 s20 s21 s22 s23 X0 hx hZ hw hby hml hown e0 n0 Z0 N0 hs16 q
    exact ⟨T1, L1, (0 : Int32), X1, N1, e1, st1⟩
  · obtain ⟨T1, L1, X1, N1, e1, st1⟩ := tn0_108_f s0 s1 s2 s3 s4 i5 s6 s7 s8 s9 s10 s11 s12 s13 s14 s15 s16 s17 s18 s19 s20 s21 s22 s23 X0 hx hZ hw hby hml hown e0 n0 Z0 N0 hs16 q
    exact ⟨T1, L1, (1 : Int32), X1, N1, e1, st1⟩
theorem os_tn0_124_t_138 {s0 : Slot} {s1 : Slot} {s2 : Slot} {s3 : Slot} {s4 : Slot} {z5 : Value} {s6 : Slot} {s7 : Slot} {s8 : Slot} {s9 : Slot} {s10 : Slot} {s11 : Slot} {s12 : Slot} {s13 : Slot} {s14 : Slot} {s15 : Slot} {s16 : Slot} {s17 : Slot} {s18 : Slot} {s19 : Slot} {s20 : Slot} {s21 : Slot} {s22 : Slot} {s23 : Slot} {v : Int32} (h : One s17) : storeLocals #[s0, s1, s2, s3, s4, .val z5, s6, s7, s8, s9, s10, s11, s12, s13, s14, s15, s16, s17, s18, s19, s20, s21, s22, s23] 17 (.int v) = some #[s0, s1, s2, s3, s4, .val z5, s6, s7, s8, s9, s10, s11, s12, s13, s14, s15, s16, .val (.int v), s18, s19, s20, s21, s22, s23] := by
  rcases h with rfl | ⟨w, rfl, hw⟩
  · rfl
  · cases w <;> first | rfl | (simp [Value.category] at hw)
set_option maxRecDepth 65536 in
set_option maxHeartbeats 40000000 in
theorem tn0_124_t {p : Program} {l : Launch} {e : Env} {s : State} {m : MethodId} {args : Array Value} {below : List Frame} {meth : Method} {c : Code} {T0 : State} {locs : List Loc} {Z : State} {a0 : Array Value} {h0 : Heap} (s0 : Slot) (s1 : Slot) (s2 : Slot) (s3 : Slot) (s4 : Slot) (i5 : Int32) (s6 : Slot) (s7 : Slot) (s8 : Slot) (s9 : Slot) (s10 : Slot) (s11 : Slot) (s12 : Slot) (s13 : Slot) (s14 : Slot) (s15 : Slot) (s16 : Slot) (s17 : Slot) (s18 : Slot) (s19 : Slot) (s20 : Slot) (s21 : Slot) (s22 : Slot) (s23 : Slot)
    (X0 : Stand p l e room_1 s m args below meth c T0 locs 0 0) (hx : p.tables.exec = Jvm.exec) (hZ : Z.Warmed39 s.vm) (hw : ∀ d ∈ tables_1, d.before a0 Z = true) (hby : c.code = code) (hml : c.maxLocals = 24) (hown : s.vm.findClass "com/example/umbel/umbel/query/OccurrencesFirstUnusedAfterPinLaw" = some m.cls) (e0 : T0.heap = h0) (n0 : Nat) (Z0 : n0 ≤ h0.size) (N0 : Fr n0 locs) (hs17 : One s17) (hc130 : (((i5.toUInt32 >>> ((5 : Int32) &&& 31).toUInt32).toInt32) &&& (1 : Int32)) = (0 : Int32)) :
    ∃ (T' : State) (locs' : List Loc), Stand p l e room_1 s m args below meth c T' locs' 0 0 ∧ Fr n0 locs' ∧ T'.heap = h0 ∧
      ∀ target, Steps p.tables e below (T'.setTop (mkF m 140 #[s0, s1, s2, s3, s4, .val (.int i5), s6, s7, s8, s9, s10, s11, s12, s13, s14, s15, s16, .val (.int (0 : Int32)), s18, s19, s20, s21, s22, s23] [])) target → Steps p.tables e below (T0.setTop (mkF m 124 #[s0, s1, s2, s3, s4, .val (.int i5), s6, s7, s8, s9, s10, s11, s12, s13, s14, s15, s16, s17, s18, s19, s20, s21, s22, s23] [])) target := by
  refine ⟨T0, _, X0, N0, e0, fun target kt => ?_⟩
  show Steps p.tables e below (T0.setTop (mkF m 124 #[s0, s1, s2, s3, s4, .val (.int i5), s6, s7, s8, s9, s10, s11, s12, s13, s14, s15, s16, s17, s18, s19, s20, s21, s22, s23] [])) _
  refine XS.iload X0.here hx rfl (hb hby at_124) rfl ?_
  show Steps p.tables e below (T0.setTop (mkF m 126 #[s0, s1, s2, s3, s4, .val (.int i5), s6, s7, s8, s9, s10, s11, s12, s13, s14, s15, s16, s17, s18, s19, s20, s21, s22, s23] [(.int i5)])) _
  refine XS.iconst X0.here hx rfl (hb hby at_126) ?_
  show Steps p.tables e below (T0.setTop (mkF m 127 #[s0, s1, s2, s3, s4, .val (.int i5), s6, s7, s8, s9, s10, s11, s12, s13, s14, s15, s16, s17, s18, s19, s20, s21, s22, s23] [(.int (5 : Int32)), (.int i5)])) _
  refine XS.iushr X0.here hx rfl (hb hby at_127) rfl ?_
  show Steps p.tables e below (T0.setTop (mkF m 128 #[s0, s1, s2, s3, s4, .val (.int i5), s6, s7, s8, s9, s10, s11, s12, s13, s14, s15, s16, s17, s18, s19, s20, s21, s22, s23] [(.int ((i5.toUInt32 >>> ((5 : Int32) &&& 31).toUInt32).toInt32))])) _
  refine XS.iconst X0.here hx rfl (hb hby at_128) ?_
  show Steps p.tables e below (T0.setTop (mkF m 129 #[s0, s1, s2, s3, s4, .val (.int i5), s6, s7, s8, s9, s10, s11, s12, s13, s14, s15, s16, s17, s18, s19, s20, s21, s22, s23] [(.int (1 : Int32)), (.int ((i5.toUInt32 >>> ((5 : Int32) &&& 31).toUInt32).toInt32))])) _
  refine XS.iand X0.here hx rfl (hb hby at_129) rfl ?_
  show Steps p.tables e below (T0.setTop (mkF m 130 #[s0, s1, s2, s3, s4, .val (.int i5), s6, s7, s8, s9, s10, s11, s12, s13, s14, s15, s16, s17, s18, s19, s20, s21, s22, s23] [(.int (((i5.toUInt32 >>> ((5 : Int32) &&& 31).toUInt32).toInt32) &&& (1 : Int32)))])) _
  refine XS.ifYes X0.here hx rfl (pc0 := 130) (pc' := 137) rfl (hb hby at_130) rfl ((if0 _ _).trans (teq hc130).1) (by decide) (by decide) ?_
  show Steps p.tables e below (T0.setTop (mkF m 137 #[s0, s1, s2, s3, s4, .val (.int i5), s6, s7, s8, s9, s10, s11, s12, s13, s14, s15, s16, s17, s18, s19, s20, s21, s22, s23] [])) _
  refine XS.iconst X0.here hx rfl (hb hby at_137) ?_
  show Steps p.tables e below (T0.setTop (mkF m 138 #[s0, s1, s2, s3, s4, .val (.int i5), s6, s7, s8, s9, s10, s11, s12, s13, s14, s15, s16, s17, s18, s19, s20, s21, s22, s23] [(.int (0 : Int32))])) _
  refine XS.istore X0.here hx rfl (hb hby at_138) rfl (l' := #[s0, s1, s2, s3, s4, .val (.int i5), s6, s7, s8, s9, s10, s11, s12, s13, s14, s15, s16, .val (.int (0 : Int32)), s18, s19, s20, s21, s22, s23]) (os_tn0_124_t_138 hs17) ?_
  exact kt
theorem os_tn0_124_f_138 {s0 : Slot} {s1 : Slot} {s2 : Slot} {s3 : Slot} {s4 : Slot} {z5 : Value} {s6 : Slot} {s7 : Slot} {s8 : Slot} {s9 : Slot} {s10 : Slot} {s11 : Slot} {s12 : Slot} {s13 : Slot} {s14 : Slot} {s15 : Slot} {s16 : Slot} {s17 : Slot} {s18 : Slot} {s19 : Slot} {s20 : Slot} {s21 : Slot} {s22 : Slot} {s23 : Slot} {v : Int32} (h : One s17) : storeLocals #[s0, s1, s2, s3, s4, .val z5, s6, s7, s8, s9, s10, s11, s12, s13, s14, s15, s16, s17, s18, s19, s20, s21, s22, s23] 17 (.int v) = some #[s0, s1, s2, s3, s4, .val z5, s6, s7, s8, s9, s10, s11, s12, s13, s14, s15, s16, .val (.int v), s18, s19, s20, s21, s22, s23] := by
  rcases h with rfl | ⟨w, rfl, hw⟩
  · rfl
  · cases w <;> first | rfl | (simp [Value.category] at hw)
set_option maxRecDepth 65536 in
set_option maxHeartbeats 40000000 in
theorem tn0_124_f {p : Program} {l : Launch} {e : Env} {s : State} {m : MethodId} {args : Array Value} {below : List Frame} {meth : Method} {c : Code} {T0 : State} {locs : List Loc} {Z : State} {a0 : Array Value} {h0 : Heap} (s0 : Slot) (s1 : Slot) (s2 : Slot) (s3 : Slot) (s4 : Slot) (i5 : Int32) (s6 : Slot) (s7 : Slot) (s8 : Slot) (s9 : Slot) (s10 : Slot) (s11 : Slot) (s12 : Slot) (s13 : Slot) (s14 : Slot) (s15 : Slot) (s16 : Slot) (s17 : Slot) (s18 : Slot) (s19 : Slot) (s20 : Slot) (s21 : Slot) (s22 : Slot) (s23 : Slot)
    (X0 : Stand p l e room_1 s m args below meth c T0 locs 0 0) (hx : p.tables.exec = Jvm.exec) (hZ : Z.Warmed39 s.vm) (hw : ∀ d ∈ tables_1, d.before a0 Z = true) (hby : c.code = code) (hml : c.maxLocals = 24) (hown : s.vm.findClass "com/example/umbel/umbel/query/OccurrencesFirstUnusedAfterPinLaw" = some m.cls) (e0 : T0.heap = h0) (n0 : Nat) (Z0 : n0 ≤ h0.size) (N0 : Fr n0 locs) (hs17 : One s17) (hc130 : ¬ ((((i5.toUInt32 >>> ((5 : Int32) &&& 31).toUInt32).toInt32) &&& (1 : Int32)) = (0 : Int32))) :
    ∃ (T' : State) (locs' : List Loc), Stand p l e room_1 s m args below meth c T' locs' 0 0 ∧ Fr n0 locs' ∧ T'.heap = h0 ∧
      ∀ target, Steps p.tables e below (T'.setTop (mkF m 140 #[s0, s1, s2, s3, s4, .val (.int i5), s6, s7, s8, s9, s10, s11, s12, s13, s14, s15, s16, .val (.int (1 : Int32)), s18, s19, s20, s21, s22, s23] [])) target → Steps p.tables e below (T0.setTop (mkF m 124 #[s0, s1, s2, s3, s4, .val (.int i5), s6, s7, s8, s9, s10, s11, s12, s13, s14, s15, s16, s17, s18, s19, s20, s21, s22, s23] [])) target := by
  refine ⟨T0, _, X0, N0, e0, fun target kt => ?_⟩
  show Steps p.tables e below (T0.setTop (mkF m 124 #[s0, s1, s2, s3, s4, .val (.int i5), s6, s7, s8, s9, s10, s11, s12, s13, s14, s15, s16, s17, s18, s19, s20, s21, s22, s23] [])) _
  refine XS.iload X0.here hx rfl (hb hby at_124) rfl ?_
  show Steps p.tables e below (T0.setTop (mkF m 126 #[s0, s1, s2, s3, s4, .val (.int i5), s6, s7, s8, s9, s10, s11, s12, s13, s14, s15, s16, s17, s18, s19, s20, s21, s22, s23] [(.int i5)])) _
  refine XS.iconst X0.here hx rfl (hb hby at_126) ?_
  show Steps p.tables e below (T0.setTop (mkF m 127 #[s0, s1, s2, s3, s4, .val (.int i5), s6, s7, s8, s9, s10, s11, s12, s13, s14, s15, s16, s17, s18, s19, s20, s21, s22, s23] [(.int (5 : Int32)), (.int i5)])) _
  refine XS.iushr X0.here hx rfl (hb hby at_127) rfl ?_
  show Steps p.tables e below (T0.setTop (mkF m 128 #[s0, s1, s2, s3, s4, .val (.int i5), s6, s7, s8, s9, s10, s11, s12, s13, s14, s15, s16, s17, s18, s19, s20, s21, s22, s23] [(.int ((i5.toUInt32 >>> ((5 : Int32) &&& 31).toUInt32).toInt32))])) _
  refine XS.iconst X0.here hx rfl (hb hby at_128) ?_
  show Steps p.tables e below (T0.setTop (mkF m 129 #[s0, s1, s2, s3, s4, .val (.int i5), s6, s7, s8, s9, s10, s11, s12, s13, s14, s15, s16, s17, s18, s19, s20, s21, s22, s23] [(.int (1 : Int32)), (.int ((i5.toUInt32 >>> ((5 : Int32) &&& 31).toUInt32).toInt32))])) _
  refine XS.iand X0.here hx rfl (hb hby at_129) rfl ?_
  show Steps p.tables e below (T0.setTop (mkF m 130 #[s0, s1, s2, s3, s4, .val (.int i5), s6, s7, s8, s9, s10, s11, s12, s13, s14, s15, s16, s17, s18, s19, s20, s21, s22, s23] [(.int (((i5.toUInt32 >>> ((5 : Int32) &&& 31).toUInt32).toInt32) &&& (1 : Int32)))])) _
  refine XS.ifNo X0.here hx rfl (hb hby at_130) rfl ((if0 _ _).trans (feq hc130).1) ?_
  show Steps p.tables e below (T0.setTop (mkF m 133 #[s0, s1, s2, s3, s4, .val (.int i5), s6, s7, s8, s9, s10, s11, s12, s13, s14, s15, s16, s17, s18, s19, s20, s21, s22, s23] [])) _
  refine XS.iconst X0.here hx rfl (hb hby at_133) ?_
  show Steps p.tables e below (T0.setTop (mkF m 134 #[s0, s1, s2, s3, s4, .val (.int i5), s6, s7, s8, s9, s10, s11, s12, s13, s14, s15, s16, s17, s18, s19, s20, s21, s22, s23] [(.int (1 : Int32))])) _
  refine XS.goto X0.here hx rfl (pc0 := 134) (pc' := 138) rfl (hb hby at_134) (by decide) (by decide) ?_
  show Steps p.tables e below (T0.setTop (mkF m 138 #[s0, s1, s2, s3, s4, .val (.int i5), s6, s7, s8, s9, s10, s11, s12, s13, s14, s15, s16, s17, s18, s19, s20, s21, s22, s23] [(.int (1 : Int32))])) _
  refine XS.istore X0.here hx rfl (hb hby at_138) rfl (l' := #[s0, s1, s2, s3, s4, .val (.int i5), s6, s7, s8, s9, s10, s11, s12, s13, s14, s15, s16, .val (.int (1 : Int32)), s18, s19, s20, s21, s22, s23]) (os_tn0_124_f_138 hs17) ?_
  exact kt
theorem tn0_124 {p : Program} {l : Launch} {e : Env} {s : State} {m : MethodId} {args : Array Value} {below : List Frame} {meth : Method} {c : Code} {Z : State} {a0 : Array Value} {h0 : Heap} {T0 : State} {locs : List Loc} (s0 : Slot) (s1 : Slot) (s2 : Slot) (s3 : Slot) (s4 : Slot) (i5 : Int32) (s6 : Slot) (s7 : Slot) (s8 : Slot) (s9 : Slot) (s10 : Slot) (s11 : Slot) (s12 : Slot) (s13 : Slot) (s14 : Slot) (s15 : Slot) (s16 : Slot) (s17 : Slot) (s18 : Slot) (s19 : Slot) (s20 : Slot) (s21 : Slot) (s22 : Slot) (s23 : Slot)
    (X0 : Stand p l e room_1 s m args below meth c T0 locs 0 0) (hx : p.tables.exec = Jvm.exec) (hZ : Z.Warmed39 s.vm) (hw : ∀ d ∈ tables_1, d.before a0 Z = true) (hby : c.code = code) (hml : c.maxLocals = 24) (hown : s.vm.findClass "com/example/umbel/umbel/query/OccurrencesFirstUnusedAfterPinLaw" = some m.cls) (e0 : T0.heap = h0) (n0 : Nat) (Z0 : n0 ≤ h0.size) (N0 : Fr n0 locs) (hs17 : One s17) :
    ∃ (T' : State) (locs' : List Loc) (u : Int32), Stand p l e room_1 s m args below meth c T' locs' 0 0 ∧ Fr n0 locs' ∧ T'.heap = h0 ∧
      ∀ target, Steps p.tables e below (T'.setTop (mkF m 140 #[s0, s1, s2, s3, s4, .val (.int i5), s6, s7, s8, s9, s10, s11, s12, s13, s14, s15, s16, .val (.int u), s18, s19, s20, s21, s22, s23] [])) target → Steps p.tables e below (T0.setTop (mkF m 124 #[s0, s1, s2, s3, s4, .val (.int i5), s6, s7, s8, s9, s10, s11, s12, s13, s14, s15, s16, s17, s18, s19, s20, s21, s22, s23] [])) target := by
  by_cases q : (((i5.toUInt32 >>> ((5 : Int32) &&& 31).toUInt32).toInt32) &&& (1 : Int32)) = (0 : Int32)
  · obtain ⟨T1, L1, X1, N1, e1, st1⟩ := tn0_124_t s0 s1 s2 s3 s4 i5 s6 s7 s8 s9 s10 s11 s12 s13 s14 s15 s16 s17 s18 s19 s20 s21 s22 s23 X0 hx hZ hw hby hml hown e0 n0 Z0 N0 hs17 q
    exact ⟨T1, L1, (0 : Int32), X1, N1, e1, st1⟩
  · obtain ⟨T1, L1, X1, N1, e1, st1⟩ := tn0_124_f s0 s1 s2 s3 s4 i5 s6 s7 s8 s9 s10 s11 s12 s13 s14 s15 s16 s17 s18 s19 s20 s21 s22 s23 X0 hx hZ hw hby hml hown e0 n0 Z0 N0 hs17 q
    exact ⟨T1, L1, (1 : Int32), X1, N1, e1, st1⟩
theorem os_tn0_140_t_155 {s0 : Slot} {s1 : Slot} {s2 : Slot} {s3 : Slot} {s4 : Slot} {z5 : Value} {s6 : Slot} {s7 : Slot} {s8 : Slot} {s9 : Slot} {s10 : Slot} {s11 : Slot} {s12 : Slot} {s13 : Slot} {s14 : Slot} {s15 : Slot} {s16 : Slot} {s17 : Slot} {s18 : Slot} {s19 : Slot} {s20 : Slot} {s21 : Slot} {s22 : Slot} {s23 : Slot} {v : Int32} (h : One s18) : storeLocals #[s0, s1, s2, s3, s4, .val z5, s6, s7, s8, s9, s10, s11, s12, s13, s14, s15, s16, s17, s18, s19, s20, s21, s22, s23] 18 (.int v) = some #[s0, s1, s2, s3, s4, .val z5, s6, s7, s8, s9, s10, s11, s12, s13, s14, s15, s16, s17, .val (.int v), s19, s20, s21, s22, s23] := by
  rcases h with rfl | ⟨w, rfl, hw⟩
  · rfl
  · cases w <;> first | rfl | (simp [Value.category] at hw)
set_option maxRecDepth 65536 in
set_option maxHeartbeats 40000000 in
theorem tn0_140_t {p : Program} {l : Launch} {e : Env} {s : State} {m : MethodId} {args : Array Value} {below : List Frame} {meth : Method} {c : Code} {T0 : State} {locs : List Loc} {Z : State} {a0 : Array Value} {h0 : Heap} (s0 : Slot) (s1 : Slot) (s2 : Slot) (s3 : Slot) (s4 : Slot) (i5 : Int32) (s6 : Slot) (s7 : Slot) (s8 : Slot) (s9 : Slot) (s10 : Slot) (s11 : Slot) (s12 : Slot) (s13 : Slot) (s14 : Slot) (s15 : Slot) (s16 : Slot) (s17 : Slot) (s18 : Slot) (s19 : Slot) (s20 : Slot) (s21 : Slot) (s22 : Slot) (s23 : Slot)
    (X0 : Stand p l e room_1 s m args below meth c T0 locs 0 0) (hx : p.tables.exec = Jvm.exec) (hZ : Z.Warmed39 s.vm) (hw : ∀ d ∈ tables_1, d.before a0 Z = true) (hby : c.code = code) (hml : c.maxLocals = 24) (hown : s.vm.findClass "com/example/umbel/umbel/query/OccurrencesFirstUnusedAfterPinLaw" = some m.cls) (e0 : T0.heap = h0) (n0 : Nat) (Z0 : n0 ≤ h0.size) (N0 : Fr n0 locs) (hs18 : One s18) (hc147 : (((i5.toUInt32 >>> ((6 : Int32) &&& 31).toUInt32).toInt32) &&& (1 : Int32)) = (0 : Int32)) :
    ∃ (T' : State) (locs' : List Loc), Stand p l e room_1 s m args below meth c T' locs' 0 0 ∧ Fr n0 locs' ∧ T'.heap = h0 ∧
      ∀ target, Steps p.tables e below (T'.setTop (mkF m 157 #[s0, s1, s2, s3, s4, .val (.int i5), s6, s7, s8, s9, s10, s11, s12, s13, s14, s15, s16, s17, .val (.int (0 : Int32)), s19, s20, s21, s22, s23] [])) target → Steps p.tables e below (T0.setTop (mkF m 140 #[s0, s1, s2, s3, s4, .val (.int i5), s6, s7, s8, s9, s10, s11, s12, s13, s14, s15, s16, s17, s18, s19, s20, s21, s22, s23] [])) target := by
  refine ⟨T0, _, X0, N0, e0, fun target kt => ?_⟩
  show Steps p.tables e below (T0.setTop (mkF m 140 #[s0, s1, s2, s3, s4, .val (.int i5), s6, s7, s8, s9, s10, s11, s12, s13, s14, s15, s16, s17, s18, s19, s20, s21, s22, s23] [])) _
  refine XS.iload X0.here hx rfl (hb hby at_140) rfl ?_
  show Steps p.tables e below (T0.setTop (mkF m 142 #[s0, s1, s2, s3, s4, .val (.int i5), s6, s7, s8, s9, s10, s11, s12, s13, s14, s15, s16, s17, s18, s19, s20, s21, s22, s23] [(.int i5)])) _
  refine XS.bipush X0.here hx rfl (hb hby at_142) ?_
  show Steps p.tables e below (T0.setTop (mkF m 144 #[s0, s1, s2, s3, s4, .val (.int i5), s6, s7, s8, s9, s10, s11, s12, s13, s14, s15, s16, s17, s18, s19, s20, s21, s22, s23] [(.int (6 : Int32)), (.int i5)])) _
  refine XS.iushr X0.here hx rfl (hb hby at_144) rfl ?_
  show Steps p.tables e below (T0.setTop (mkF m 145 #[s0, s1, s2, s3, s4, .val (.int i5), s6, s7, s8, s9, s10, s11, s12, s13, s14, s15, s16, s17, s18, s19, s20, s21, s22, s23] [(.int ((i5.toUInt32 >>> ((6 : Int32) &&& 31).toUInt32).toInt32))])) _
  refine XS.iconst X0.here hx rfl (hb hby at_145) ?_
  show Steps p.tables e below (T0.setTop (mkF m 146 #[s0, s1, s2, s3, s4, .val (.int i5), s6, s7, s8, s9, s10, s11, s12, s13, s14, s15, s16, s17, s18, s19, s20, s21, s22, s23] [(.int (1 : Int32)), (.int ((i5.toUInt32 >>> ((6 : Int32) &&& 31).toUInt32).toInt32))])) _
  refine XS.iand X0.here hx rfl (hb hby at_146) rfl ?_
  show Steps p.tables e below (T0.setTop (mkF m 147 #[s0, s1, s2, s3, s4, .val (.int i5), s6, s7, s8, s9, s10, s11, s12, s13, s14, s15, s16, s17, s18, s19, s20, s21, s22, s23] [(.int (((i5.toUInt32 >>> ((6 : Int32) &&& 31).toUInt32).toInt32) &&& (1 : Int32)))])) _
  refine XS.ifYes X0.here hx rfl (pc0 := 147) (pc' := 154) rfl (hb hby at_147) rfl ((if0 _ _).trans (teq hc147).1) (by decide) (by decide) ?_
  show Steps p.tables e below (T0.setTop (mkF m 154 #[s0, s1, s2, s3, s4, .val (.int i5), s6, s7, s8, s9, s10, s11, s12, s13, s14, s15, s16, s17, s18, s19, s20, s21, s22, s23] [])) _
  refine XS.iconst X0.here hx rfl (hb hby at_154) ?_
  show Steps p.tables e below (T0.setTop (mkF m 155 #[s0, s1, s2, s3, s4, .val (.int i5), s6, s7, s8, s9, s10, s11, s12, s13, s14, s15, s16, s17, s18, s19, s20, s21, s22, s23] [(.int (0 : Int32))])) _
  refine XS.istore X0.here hx rfl (hb hby at_155) rfl (l' := #[s0, s1, s2, s3, s4, .val (.int i5), s6, s7, s8, s9, s10, s11, s12, s13, s14, s15, s16, s17, .val (.int (0 : Int32)), s19, s20, s21, s22, s23]) (os_tn0_140_t_155 hs18) ?_
  exact kt
theorem os_tn0_140_f_155 {s0 : Slot} {s1 : Slot} {s2 : Slot} {s3 : Slot} {s4 : Slot} {z5 : Value} {s6 : Slot} {s7 : Slot} {s8 : Slot} {s9 : Slot} {s10 : Slot} {s11 : Slot} {s12 : Slot} {s13 : Slot} {s14 : Slot} {s15 : Slot} {s16 : Slot} {s17 : Slot} {s18 : Slot} {s19 : Slot} {s20 : Slot} {s21 : Slot} {s22 : Slot} {s23 : Slot} {v : Int32} (h : One s18) : storeLocals #[s0, s1, s2, s3, s4, .val z5, s6, s7, s8, s9, s10, s11, s12, s13, s14, s15, s16, s17, s18, s19, s20, s21, s22, s23] 18 (.int v) = some #[s0, s1, s2, s3, s4, .val z5, s6, s7, s8, s9, s10, s11, s12, s13, s14, s15, s16, s17, .val (.int v), s19, s20, s21, s22, s23] := by
  rcases h with rfl | ⟨w, rfl, hw⟩
  · rfl
  · cases w <;> first | rfl | (simp [Value.category] at hw)
set_option maxRecDepth 65536 in
set_option maxHeartbeats 40000000 in
theorem tn0_140_f {p : Program} {l : Launch} {e : Env} {s : State} {m : MethodId} {args : Array Value} {below : List Frame} {meth : Method} {c : Code} {T0 : State} {locs : List Loc} {Z : State} {a0 : Array Value} {h0 : Heap} (s0 : Slot) (s1 : Slot) (s2 : Slot) (s3 : Slot) (s4 : Slot) (i5 : Int32) (s6 : Slot) (s7 : Slot) (s8 : Slot) (s9 : Slot) (s10 : Slot) (s11 : Slot) (s12 : Slot) (s13 : Slot) (s14 : Slot) (s15 : Slot) (s16 : Slot) (s17 : Slot) (s18 : Slot) (s19 : Slot) (s20 : Slot) (s21 : Slot) (s22 : Slot) (s23 : Slot)
    (X0 : Stand p l e room_1 s m args below meth c T0 locs 0 0) (hx : p.tables.exec = Jvm.exec) (hZ : Z.Warmed39 s.vm) (hw : ∀ d ∈ tables_1, d.before a0 Z = true) (hby : c.code = code) (hml : c.maxLocals = 24) (hown : s.vm.findClass "com/example/umbel/umbel/query/OccurrencesFirstUnusedAfterPinLaw" = some m.cls) (e0 : T0.heap = h0) (n0 : Nat) (Z0 : n0 ≤ h0.size) (N0 : Fr n0 locs) (hs18 : One s18) (hc147 : ¬ ((((i5.toUInt32 >>> ((6 : Int32) &&& 31).toUInt32).toInt32) &&& (1 : Int32)) = (0 : Int32))) :
    ∃ (T' : State) (locs' : List Loc), Stand p l e room_1 s m args below meth c T' locs' 0 0 ∧ Fr n0 locs' ∧ T'.heap = h0 ∧
      ∀ target, Steps p.tables e below (T'.setTop (mkF m 157 #[s0, s1, s2, s3, s4, .val (.int i5), s6, s7, s8, s9, s10, s11, s12, s13, s14, s15, s16, s17, .val (.int (1 : Int32)), s19, s20, s21, s22, s23] [])) target → Steps p.tables e below (T0.setTop (mkF m 140 #[s0, s1, s2, s3, s4, .val (.int i5), s6, s7, s8, s9, s10, s11, s12, s13, s14, s15, s16, s17, s18, s19, s20, s21, s22, s23] [])) target := by
  refine ⟨T0, _, X0, N0, e0, fun target kt => ?_⟩
  show Steps p.tables e below (T0.setTop (mkF m 140 #[s0, s1, s2, s3, s4, .val (.int i5), s6, s7, s8, s9, s10, s11, s12, s13, s14, s15, s16, s17, s18, s19, s20, s21, s22, s23] [])) _
  refine XS.iload X0.here hx rfl (hb hby at_140) rfl ?_
  show Steps p.tables e below (T0.setTop (mkF m 142 #[s0, s1, s2, s3, s4, .val (.int i5), s6, s7, s8, s9, s10, s11, s12, s13, s14, s15, s16, s17, s18, s19, s20, s21, s22, s23] [(.int i5)])) _
  refine XS.bipush X0.here hx rfl (hb hby at_142) ?_
  show Steps p.tables e below (T0.setTop (mkF m 144 #[s0, s1, s2, s3, s4, .val (.int i5), s6, s7, s8, s9, s10, s11, s12, s13, s14, s15, s16, s17, s18, s19, s20, s21, s22, s23] [(.int (6 : Int32)), (.int i5)])) _
  refine XS.iushr X0.here hx rfl (hb hby at_144) rfl ?_
  show Steps p.tables e below (T0.setTop (mkF m 145 #[s0, s1, s2, s3, s4, .val (.int i5), s6, s7, s8, s9, s10, s11, s12, s13, s14, s15, s16, s17, s18, s19, s20, s21, s22, s23] [(.int ((i5.toUInt32 >>> ((6 : Int32) &&& 31).toUInt32).toInt32))])) _
  refine XS.iconst X0.here hx rfl (hb hby at_145) ?_
  show Steps p.tables e below (T0.setTop (mkF m 146 #[s0, s1, s2, s3, s4, .val (.int i5), s6, s7, s8, s9, s10, s11, s12, s13, s14, s15, s16, s17, s18, s19, s20, s21, s22, s23] [(.int (1 : Int32)), (.int ((i5.toUInt32 >>> ((6 : Int32) &&& 31).toUInt32).toInt32))])) _
  refine XS.iand X0.here hx rfl (hb hby at_146) rfl ?_
  show Steps p.tables e below (T0.setTop (mkF m 147 #[s0, s1, s2, s3, s4, .val (.int i5), s6, s7, s8, s9, s10, s11, s12, s13, s14, s15, s16, s17, s18, s19, s20, s21, s22, s23] [(.int (((i5.toUInt32 >>> ((6 : Int32) &&& 31).toUInt32).toInt32) &&& (1 : Int32)))])) _
  refine XS.ifNo X0.here hx rfl (hb hby at_147) rfl ((if0 _ _).trans (feq hc147).1) ?_
  show Steps p.tables e below (T0.setTop (mkF m 150 #[s0, s1, s2, s3, s4, .val (.int i5), s6, s7, s8, s9, s10, s11, s12, s13, s14, s15, s16, s17, s18, s19, s20, s21, s22, s23] [])) _
  refine XS.iconst X0.here hx rfl (hb hby at_150) ?_
  show Steps p.tables e below (T0.setTop (mkF m 151 #[s0, s1, s2, s3, s4, .val (.int i5), s6, s7, s8, s9, s10, s11, s12, s13, s14, s15, s16, s17, s18, s19, s20, s21, s22, s23] [(.int (1 : Int32))])) _
  refine XS.goto X0.here hx rfl (pc0 := 151) (pc' := 155) rfl (hb hby at_151) (by decide) (by decide) ?_
  show Steps p.tables e below (T0.setTop (mkF m 155 #[s0, s1, s2, s3, s4, .val (.int i5), s6, s7, s8, s9, s10, s11, s12, s13, s14, s15, s16, s17, s18, s19, s20, s21, s22, s23] [(.int (1 : Int32))])) _
  refine XS.istore X0.here hx rfl (hb hby at_155) rfl (l' := #[s0, s1, s2, s3, s4, .val (.int i5), s6, s7, s8, s9, s10, s11, s12, s13, s14, s15, s16, s17, .val (.int (1 : Int32)), s19, s20, s21, s22, s23]) (os_tn0_140_f_155 hs18) ?_
  exact kt
theorem tn0_140 {p : Program} {l : Launch} {e : Env} {s : State} {m : MethodId} {args : Array Value} {below : List Frame} {meth : Method} {c : Code} {Z : State} {a0 : Array Value} {h0 : Heap} {T0 : State} {locs : List Loc} (s0 : Slot) (s1 : Slot) (s2 : Slot) (s3 : Slot) (s4 : Slot) (i5 : Int32) (s6 : Slot) (s7 : Slot) (s8 : Slot) (s9 : Slot) (s10 : Slot) (s11 : Slot) (s12 : Slot) (s13 : Slot) (s14 : Slot) (s15 : Slot) (s16 : Slot) (s17 : Slot) (s18 : Slot) (s19 : Slot) (s20 : Slot) (s21 : Slot) (s22 : Slot) (s23 : Slot)
    (X0 : Stand p l e room_1 s m args below meth c T0 locs 0 0) (hx : p.tables.exec = Jvm.exec) (hZ : Z.Warmed39 s.vm) (hw : ∀ d ∈ tables_1, d.before a0 Z = true) (hby : c.code = code) (hml : c.maxLocals = 24) (hown : s.vm.findClass "com/example/umbel/umbel/query/OccurrencesFirstUnusedAfterPinLaw" = some m.cls) (e0 : T0.heap = h0) (n0 : Nat) (Z0 : n0 ≤ h0.size) (N0 : Fr n0 locs) (hs18 : One s18) :
    ∃ (T' : State) (locs' : List Loc) (u : Int32), Stand p l e room_1 s m args below meth c T' locs' 0 0 ∧ Fr n0 locs' ∧ T'.heap = h0 ∧
      ∀ target, Steps p.tables e below (T'.setTop (mkF m 157 #[s0, s1, s2, s3, s4, .val (.int i5), s6, s7, s8, s9, s10, s11, s12, s13, s14, s15, s16, s17, .val (.int u), s19, s20, s21, s22, s23] [])) target → Steps p.tables e below (T0.setTop (mkF m 140 #[s0, s1, s2, s3, s4, .val (.int i5), s6, s7, s8, s9, s10, s11, s12, s13, s14, s15, s16, s17, s18, s19, s20, s21, s22, s23] [])) target := by
  by_cases q : (((i5.toUInt32 >>> ((6 : Int32) &&& 31).toUInt32).toInt32) &&& (1 : Int32)) = (0 : Int32)
  · obtain ⟨T1, L1, X1, N1, e1, st1⟩ := tn0_140_t s0 s1 s2 s3 s4 i5 s6 s7 s8 s9 s10 s11 s12 s13 s14 s15 s16 s17 s18 s19 s20 s21 s22 s23 X0 hx hZ hw hby hml hown e0 n0 Z0 N0 hs18 q
    exact ⟨T1, L1, (0 : Int32), X1, N1, e1, st1⟩
  · obtain ⟨T1, L1, X1, N1, e1, st1⟩ := tn0_140_f s0 s1 s2 s3 s4 i5 s6 s7 s8 s9 s10 s11 s12 s13 s14 s15 s16 s17 s18 s19 s20 s21 s22 s23 X0 hx hZ hw hby hml hown e0 n0 Z0 N0 hs18 q
    exact ⟨T1, L1, (1 : Int32), X1, N1, e1, st1⟩
theorem os_tn0_157_f_173 {s0 : Slot} {s1 : Slot} {s2 : Slot} {s3 : Slot} {z4 : Value} {s5 : Slot} {s6 : Slot} {s7 : Slot} {s8 : Slot} {s9 : Slot} {s10 : Slot} {s11 : Slot} {s12 : Slot} {s13 : Slot} {s14 : Slot} {s15 : Slot} {s16 : Slot} {s17 : Slot} {s18 : Slot} {s19 : Slot} {s20 : Slot} {s21 : Slot} {s22 : Slot} {s23 : Slot} {v : Int32} (h : One s19) : storeLocals #[s0, s1, s2, s3, .val z4, s5, s6, s7, s8, s9, s10, s11, s12, s13, s14, s15, s16, s17, s18, s19, s20, s21, s22, s23] 19 (.int v) = some #[s0, s1, s2, s3, .val z4, s5, s6, s7, s8, s9, s10, s11, s12, s13, s14, s15, s16, s17, s18, .val (.int v), s20, s21, s22, s23] := by
  rcases h with rfl | ⟨w, rfl, hw⟩
  · rfl
  · cases w <;> first | rfl | (simp [Value.category] at hw)
set_option maxRecDepth 65536 in
set_option maxHeartbeats 40000000 in
theorem tn0_157_f {p : Program} {l : Launch} {e : Env} {s : State} {m : MethodId} {args : Array Value} {below : List Frame} {meth : Method} {c : Code} {T0 : State} {locs : List Loc} {Z : State} {a0 : Array Value} {h0 : Heap} (s0 : Slot) (s1 : Slot) (s2 : Slot) (s3 : Slot) (i4 : Int32) (s5 : Slot) (s6 : Slot) (s7 : Slot) (s8 : Slot) (s9 : Slot) (s10 : Slot) (s11 : Slot) (s12 : Slot) (s13 : Slot) (s14 : Slot) (s15 : Slot) (s16 : Slot) (s17 : Slot) (s18 : Slot) (s19 : Slot) (s20 : Slot) (s21 : Slot) (s22 : Slot) (s23 : Slot)
    (X0 : Stand p l e room_1 s m args below meth c T0 locs 0 0) (hx : p.tables.exec = Jvm.exec) (hZ : Z.Warmed39 s.vm) (hw : ∀ d ∈ tables_1, d.before a0 Z = true) (hby : c.code = code) (hml : c.maxLocals = 24) (hown : s.vm.findClass "com/example/umbel/umbel/query/OccurrencesFirstUnusedAfterPinLaw" = some m.cls) (e0 : T0.heap = h0) (n0 : Nat) (Z0 : n0 ≤ h0.size) (N0 : Fr n0 locs) (hs19 : One s19) (hc161 : (i4 &&& (1 : Int32)) = (0 : Int32)) :
    ∃ (T' : State) (locs' : List Loc), Stand p l e room_1 s m args below meth c T' locs' 0 0 ∧ Fr n0 locs' ∧ T'.heap = h0 ∧
      ∀ target, Steps p.tables e below (T'.setTop (mkF m 253 #[s0, s1, s2, s3, .val (.int i4), s5, s6, s7, s8, s9, s10, s11, s12, s13, s14, s15, s16, s17, s18, .val (.int (own_min ((i4.toUInt32 >>> ((1 : Int32) &&& 31).toUInt32).toInt32) (2147483646 : Int32))), s20, s21, s22, s23] [])) target → Steps p.tables e below (T0.setTop (mkF m 157 #[s0, s1, s2, s3, .val (.int i4), s5, s6, s7, s8, s9, s10, s11, s12, s13, s14, s15, s16, s17, s18, s19, s20, s21, s22, s23] [])) target := by
  obtain ⟨_, _, ⟨T6, L6, k6, n6⟩, -, X6, ⟨Lc6, hQ6, l6, y6, z6⟩, st6⟩ := Jvm.LawKit.callS X0 hx (y := (⟨"java/lang/Math", "min", "(II)I"⟩ : MethodName)) hown (mvT hZ (hw _ (List.mem_of_getElem? (i := 15) rfl))) (mvT hZ (hw _ (List.mem_of_getElem? (i := 16) rfl))) (mvT hZ (hw _ (List.mem_of_getElem? (i := 3) rfl))) (mvT hZ (hw _ (List.mem_of_getElem? (i := 17) rfl))) (by decide) (backOf (W := 0) (rm4 l Z a0 hw [] ((i4.toUInt32 >>> ((1 : Int32) &&& 31).toUInt32).toInt32) (2147483646 : Int32) h0 n0 Z0) hZ (hw _ (List.mem_of_getElem? (i := 17) rfl)) (hw _ (List.mem_of_getElem? (i := 3) rfl)) (by decide) (by decide)) (g := (mkF m 170 #[s0, s1, s2, s3, .val (.int i4), s5, s6, s7, s8, s9, s10, s11, s12, s13, s14, s15, s16, s17, s18, s19, s20, s21, s22, s23] [(.int (2147483646 : Int32)), (.int ((i4.toUInt32 >>> ((1 : Int32) &&& 31).toUInt32).toInt32))])) rfl (by rw [hml]; rfl) (argsL := [(.int ((i4.toUInt32 >>> ((1 : Int32) &&& 31).toUInt32).toInt32)), (.int (2147483646 : Int32))]) (rest := []) (lenOf pd_0_0 rfl) rfl (by show 2 * 0 + _ ≤ _; exact Nat.le_of_eq rfl) (hb hby at_170) (fun _ _ => ⟨rfl, e0, (by decide : 0 + 0 ≤ _), (by decide : 0 + 0 ≤ _)⟩)
  dsimp only [Pt.U, Pt.locs, Pt.cells, Pt.slots] at X6 l6 y6 z6 st6 hQ6
  subst l6 y6 z6
  obtain ⟨rfl, N6q, e6q⟩ := hQ6
  have N6 := Fr.app N0 N6q
  refine ⟨T6, _, X6, N6, e6q, fun target kt => ?_⟩
  show Steps p.tables e below (T0.setTop (mkF m 157 #[s0, s1, s2, s3, .val (.int i4), s5, s6, s7, s8, s9, s10, s11, s12, s13, s14, s15, s16, s17, s18, s19, s20, s21, s22, s23] [])) _
  refine XS.iload X0.here hx rfl (hb hby at_157) rfl ?_
  show Steps p.tables e below (T0.setTop (mkF m 159 #[s0, s1, s2, s3, .val (.int i4), s5, s6, s7, s8, s9, s10, s11, s12, s13, s14, s15, s16, s17, s18, s19, s20, s21, s22, s23] [(.int i4)])) _
  refine XS.iconst X0.here hx rfl (hb hby at_159) ?_
  show Steps p.tables e below (T0.setTop (mkF m 160 #[s0, s1, s2, s3, .val (.int i4), s5, s6, s7, s8, s9, s10, s11, s12, s13, s14, s15, s16, s17, s18, s19, s20, s21, s22, s23] [(.int (1 : Int32)), (.int i4)])) _
  refine XS.iand X0.here hx rfl (hb hby at_160) rfl ?_
  show Steps p.tables e below (T0.setTop (mkF m 161 #[s0, s1, s2, s3, .val (.int i4), s5, s6, s7, s8, s9, s10, s11, s12, s13, s14, s15, s16, s17, s18, s19, s20, s21, s22, s23] [(.int (i4 &&& (1 : Int32)))])) _
  refine XS.ifNo X0.here hx rfl (hb hby at_161) rfl ((if0 _ _).trans (teq hc161).2) ?_
  show Steps p.tables e below (T0.setTop (mkF m 164 #[s0, s1, s2, s3, .val (.int i4), s5, s6, s7, s8, s9, s10, s11, s12, s13, s14, s15, s16, s17, s18, s19, s20, s21, s22, s23] [])) _
  refine XS.iload X0.here hx rfl (hb hby at_164) rfl ?_
  show Steps p.tables e below (T0.setTop (mkF m 166 #[s0, s1, s2, s3, .val (.int i4), s5, s6, s7, s8, s9, s10, s11, s12, s13, s14, s15, s16, s17, s18, s19, s20, s21, s22, s23] [(.int i4)])) _
  refine XS.iconst X0.here hx rfl (hb hby at_166) ?_
  show Steps p.tables e below (T0.setTop (mkF m 167 #[s0, s1, s2, s3, .val (.int i4), s5, s6, s7, s8, s9, s10, s11, s12, s13, s14, s15, s16, s17, s18, s19, s20, s21, s22, s23] [(.int (1 : Int32)), (.int i4)])) _
  refine XS.iushr X0.here hx rfl (hb hby at_167) rfl ?_
  show Steps p.tables e below (T0.setTop (mkF m 168 #[s0, s1, s2, s3, .val (.int i4), s5, s6, s7, s8, s9, s10, s11, s12, s13, s14, s15, s16, s17, s18, s19, s20, s21, s22, s23] [(.int ((i4.toUInt32 >>> ((1 : Int32) &&& 31).toUInt32).toInt32))])) _
  refine X0.ldcInt hx hown (mvT hZ (hw _ (List.mem_of_getElem? (i := 14) rfl))) (g := (mkF m 168 #[s0, s1, s2, s3, .val (.int i4), s5, s6, s7, s8, s9, s10, s11, s12, s13, s14, s15, s16, s17, s18, s19, s20, s21, s22, s23] [(.int ((i4.toUInt32 >>> ((1 : Int32) &&& 31).toUInt32).toInt32))])) rfl (hb hby at_168) _ ?_
  show Steps p.tables e below (T0.setTop (mkF m 170 #[s0, s1, s2, s3, .val (.int i4), s5, s6, s7, s8, s9, s10, s11, s12, s13, s14, s15, s16, s17, s18, s19, s20, s21, s22, s23] [(.int (2147483646 : Int32)), (.int ((i4.toUInt32 >>> ((1 : Int32) &&& 31).toUInt32).toInt32))])) _
  refine st6 _ ?_
  show Steps p.tables e below (T6.setTop (mkF m 173 #[s0, s1, s2, s3, .val (.int i4), s5, s6, s7, s8, s9, s10, s11, s12, s13, s14, s15, s16, s17, s18, s19, s20, s21, s22, s23] [(.int (own_min ((i4.toUInt32 >>> ((1 : Int32) &&& 31).toUInt32).toInt32) (2147483646 : Int32)))])) _
  refine XS.istore X6.here hx rfl (hb hby at_173) rfl (l' := #[s0, s1, s2, s3, .val (.int i4), s5, s6, s7, s8, s9, s10, s11, s12, s13, s14, s15, s16, s17, s18, .val (.int (own_min ((i4.toUInt32 >>> ((1 : Int32) &&& 31).toUInt32).toInt32) (2147483646 : Int32))), s20, s21, s22, s23]) (os_tn0_157_f_173 hs19) ?_
  show Steps p.tables e below (T6.setTop (mkF m 175 #[s0, s1, s2, s3, .val (.int i4), s5, s6, s7, s8, s9, s10, s11, s12, s13, s14, s15, s16, s17, s18, .val (.int (own_min ((i4.toUInt32 >>> ((1 : Int32) &&& 31).toUInt32).toInt32) (2147483646 : Int32))), s20, s21, s22, s23] [])) _
  refine XS.goto X6.here hx rfl (pc0 := 175) (pc' := 253) rfl (hb hby at_175) (by decide) (by decide) ?_
  exact kt
theorem os_tn0_157_tf_184 {s0 : Slot} {s1 : Slot} {s2 : Slot} {s3 : Slot} {z4 : Value} {s5 : Slot} {s6 : Slot} {z7 : Value} {s8 : Slot} {s9 : Slot} {s10 : Slot} {s11 : Slot} {s12 : Slot} {s13 : Slot} {s14 : Slot} {s15 : Slot} {s16 : Slot} {s17 : Slot} {s18 : Slot} {s19 : Slot} {s20 : Slot} {s21 : Slot} {s22 : Slot} {s23 : Slot} {v : Int32} (h : One s20) : storeLocals #[s0, s1, s2, s3, .val z4, s5, s6, .val z7, s8, s9, s10, s11, s12, s13, s14, s15, s16, s17, s18, s19, s20, s21, s22, s23] 20 (.int v) = some #[s0, s1, s2, s3, .val z4, s5, s6, .val z7, s8, s9, s10, s11, s12, s13, s14, s15, s16, s17, s18, s19, .val (.int v), s21, s22, s23] := by
  rcases h with rfl | ⟨w, rfl, hw⟩
  · rfl
  · cases w <;> first | rfl | (simp [Value.category] at hw)
theorem os_tn0_157_tf_220 {s0 : Slot} {s1 : Slot} {s2 : Slot} {s3 : Slot} {z4 : Value} {s5 : Slot} {s6 : Slot} {z7 : Value} {s8 : Slot} {s9 : Slot} {s10 : Slot} {s11 : Slot} {s12 : Slot} {s13 : Slot} {s14 : Slot} {s15 : Slot} {s16 : Slot} {s17 : Slot} {s18 : Slot} {s19 : Slot} {z20 : Value} {s21 : Slot} {s22 : Slot} {s23 : Slot} {v : Int32} (h : One s21) : storeLocals #[s0, s1, s2, s3, .val z4, s5, s6, .val z7, s8, s9, s10, s11, s12, s13, s14, s15, s16, s17, s18, s19, .val z20, s21, s22, s23] 21 (.int v) = some #[s0, s1, s2, s3, .val z4, s5, s6, .val z7, s8, s9, s10, s11, s12, s13, s14, s15, s16, s17, s18, s19, .val z20, .val (.int v), s22, s23] := by
  rcases h with rfl | ⟨w, rfl, hw⟩
  · rfl
  · cases w <;> first | rfl | (simp [Value.category] at hw)
set_option maxRecDepth 65536 in
set_option maxHeartbeats 40000000 in
theorem tn0_157_tf {p : Program} {l : Launch} {e : Env} {s : State} {m : MethodId} {args : Array Value} {below : List Frame} {meth : Method} {c : Code} {T0 : State} {locs : List Loc} {Z : State} {a0 : Array Value} {h0 : Heap} (s0 : Slot) (s1 : Slot) (s2 : Slot) (s3 : Slot) (i4 : Int32) (s5 : Slot) (s6 : Slot) (i7 : Int32) (s8 : Slot) (s9 : Slot) (s10 : Slot) (s11 : Slot) (s12 : Slot) (s13 : Slot) (s14 : Slot) (s15 : Slot) (s16 : Slot) (s17 : Slot) (s18 : Slot) (s19 : Slot) (s20 : Slot) (s21 : Slot) (s22 : Slot) (s23 : Slot)
    (X0 : Stand p l e room_1 s m args below meth c T0 locs 0 0) (hx : p.tables.exec = Jvm.exec) (hZ : Z.Warmed39 s.vm) (hw : ∀ d ∈ tables_1, d.before a0 Z = true) (hby : c.code = code) (hml : c.maxLocals = 24) (hown : s.vm.findClass "com/example/umbel/umbel/query/OccurrencesFirstUnusedAfterPinLaw" = some m.cls) (e0 : T0.heap = h0) (n0 : Nat) (Z0 : n0 ≤ h0.size) (N0 : Fr n0 locs) (hs20 : One s20) (hs21 : One s21) (hc161 : ¬ ((i4 &&& (1 : Int32)) = (0 : Int32))) (hc188 : (((i4.toUInt32 >>> ((1 : Int32) &&& 31).toUInt32).toInt32) &&& (3 : Int32)) = (0 : Int32)) :
    ∃ (T' : State) (locs' : List Loc), Stand p l e room_1 s m args below meth c T' locs' 0 0 ∧ Fr n0 locs' ∧ T'.heap = h0 ∧
      ∀ target, Steps p.tables e below (T'.setTop (mkF m 222 #[s0, s1, s2, s3, .val (.int i4), s5, s6, .val (.int i7), s8, s9, s10, s11, s12, s13, s14, s15, s16, s17, s18, s19, .val (.int (((i4.toUInt32 >>> ((1 : Int32) &&& 31).toUInt32).toInt32) &&& (3 : Int32))), .val (.int i7), s22, s23] [])) target → Steps p.tables e below (T0.setTop (mkF m 157 #[s0, s1, s2, s3, .val (.int i4), s5, s6, .val (.int i7), s8, s9, s10, s11, s12, s13, s14, s15, s16, s17, s18, s19, s20, s21, s22, s23] [])) target := by
  refine ⟨T0, _, X0, N0, e0, fun target kt => ?_⟩
  show Steps p.tables e below (T0.setTop (mkF m 157 #[s0, s1, s2, s3, .val (.int i4), s5, s6, .val (.int i7), s8, s9, s10, s11, s12, s13, s14, s15, s16, s17, s18, s19, s20, s21, s22, s23] [])) _
  refine XS.iload X0.here hx rfl (hb hby at_157) rfl ?_
  show Steps p.tables e below (T0.setTop (mkF m 159 #[s0, s1, s2, s3, .val (.int i4), s5, s6, .val (.int i7), s8, s9, s10, s11, s12, s13, s14, s15, s16, s17, s18, s19, s20, s21, s22, s23] [(.int i4)])) _
  refine XS.iconst X0.here hx rfl (hb hby at_159) ?_
  show Steps p.tables e below (T0.setTop (mkF m 160 #[s0, s1, s2, s3, .val (.int i4), s5, s6, .val (.int i7), s8, s9, s10, s11, s12, s13, s14, s15, s16, s17, s18, s19, s20, s21, s22, s23] [(.int (1 : Int32)), (.int i4)])) _
  refine XS.iand X0.here hx rfl (hb hby at_160) rfl ?_
  show Steps p.tables e below (T0.setTop (mkF m 161 #[s0, s1, s2, s3, .val (.int i4), s5, s6, .val (.int i7), s8, s9, s10, s11, s12, s13, s14, s15, s16, s17, s18, s19, s20, s21, s22, s23] [(.int (i4 &&& (1 : Int32)))])) _
  refine XS.ifYes X0.here hx rfl (pc0 := 161) (pc' := 178) rfl (hb hby at_161) rfl ((if0 _ _).trans (feq hc161).2) (by decide) (by decide) ?_
  show Steps p.tables e below (T0.setTop (mkF m 178 #[s0, s1, s2, s3, .val (.int i4), s5, s6, .val (.int i7), s8, s9, s10, s11, s12, s13, s14, s15, s16, s17, s18, s19, s20, s21, s22, s23] [])) _
  refine XS.iload X0.here hx rfl (hb hby at_178) rfl ?_
  show Steps p.tables e below (T0.setTop (mkF m 180 #[s0, s1, s2, s3, .val (.int i4), s5, s6, .val (.int i7), s8, s9, s10, s11, s12, s13, s14, s15, s16, s17, s18, s19, s20, s21, s22, s23] [(.int i4)])) _
  refine XS.iconst X0.here hx rfl (hb hby at_180) ?_
  show Steps p.tables e below (T0.setTop (mkF m 181 #[s0, s1, s2, s3, .val (.int i4), s5, s6, .val (.int i7), s8, s9, s10, s11, s12, s13, s14, s15, s16, s17, s18, s19, s20, s21, s22, s23] [(.int (1 : Int32)), (.int i4)])) _
  refine XS.iushr X0.here hx rfl (hb hby at_181) rfl ?_
  show Steps p.tables e below (T0.setTop (mkF m 182 #[s0, s1, s2, s3, .val (.int i4), s5, s6, .val (.int i7), s8, s9, s10, s11, s12, s13, s14, s15, s16, s17, s18, s19, s20, s21, s22, s23] [(.int ((i4.toUInt32 >>> ((1 : Int32) &&& 31).toUInt32).toInt32))])) _
  refine XS.iconst X0.here hx rfl (hb hby at_182) ?_
  show Steps p.tables e below (T0.setTop (mkF m 183 #[s0, s1, s2, s3, .val (.int i4), s5, s6, .val (.int i7), s8, s9, s10, s11, s12, s13, s14, s15, s16, s17, s18, s19, s20, s21, s22, s23] [(.int (3 : Int32)), (.int ((i4.toUInt32 >>> ((1 : Int32) &&& 31).toUInt32).toInt32))])) _
  refine XS.iand X0.here hx rfl (hb hby at_183) rfl ?_
  show Steps p.tables e below (T0.setTop (mkF m 184 #[s0, s1, s2, s3, .val (.int i4), s5, s6, .val (.int i7), s8, s9, s10, s11, s12, s13, s14, s15, s16, s17, s18, s19, s20, s21, s22, s23] [(.int (((i4.toUInt32 >>> ((1 : Int32) &&& 31).toUInt32).toInt32) &&& (3 : Int32)))])) _
  refine XS.istore X0.here hx rfl (hb hby at_184) rfl (l' := #[s0, s1, s2, s3, .val (.int i4), s5, s6, .val (.int i7), s8, s9, s10, s11, s12, s13, s14, s15, s16, s17, s18, s19, .val (.int (((i4.toUInt32 >>> ((1 : Int32) &&& 31).toUInt32).toInt32) &&& (3 : Int32))), s21, s22, s23]) (os_tn0_157_tf_184 hs20) ?_
  show Steps p.tables e below (T0.setTop (mkF m 186 #[s0, s1, s2, s3, .val (.int i4), s5, s6, .val (.int i7), s8, s9, s10, s11, s12, s13, s14, s15, s16, s17, s18, s19, .val (.int (((i4.toUInt32 >>> ((1 : Int32) &&& 31).toUInt32).toInt32) &&& (3 : Int32))), s21, s22, s23] [])) _
  refine XS.iload X0.here hx rfl (hb hby at_186) rfl ?_
  show Steps p.tables e below (T0.setTop (mkF m 188 #[s0, s1, s2, s3, .val (.int i4), s5, s6, .val (.int i7), s8, s9, s10, s11, s12, s13, s14, s15, s16, s17, s18, s19, .val (.int (((i4.toUInt32 >>> ((1 : Int32) &&& 31).toUInt32).toInt32) &&& (3 : Int32))), s21, s22, s23] [(.int (((i4.toUInt32 >>> ((1 : Int32) &&& 31).toUInt32).toInt32) &&& (3 : Int32)))])) _
  refine XS.ifNo X0.here hx rfl (hb hby at_188) rfl ((if0 _ _).trans (teq hc188).2) ?_
  show Steps p.tables e below (T0.setTop (mkF m 191 #[s0, s1, s2, s3, .val (.int i4), s5, s6, .val (.int i7), s8, s9, s10, s11, s12, s13, s14, s15, s16, s17, s18, s19, .val (.int (((i4.toUInt32 >>> ((1 : Int32) &&& 31).toUInt32).toInt32) &&& (3 : Int32))), s21, s22, s23] [])) _
  refine XS.iload X0.here hx rfl (hb hby at_191) rfl ?_
  show Steps p.tables e below (T0.setTop (mkF m 193 #[s0, s1, s2, s3, .val (.int i4), s5, s6, .val (.int i7), s8, s9, s10, s11, s12, s13, s14, s15, s16, s17, s18, s19, .val (.int (((i4.toUInt32 >>> ((1 : Int32) &&& 31).toUInt32).toInt32) &&& (3 : Int32))), s21, s22, s23] [(.int i7)])) _
  refine XS.goto X0.here hx rfl (pc0 := 193) (pc' := 220) rfl (hb hby at_193) (by decide) (by decide) ?_
  show Steps p.tables e below (T0.setTop (mkF m 220 #[s0, s1, s2, s3, .val (.int i4), s5, s6, .val (.int i7), s8, s9, s10, s11, s12, s13, s14, s15, s16, s17, s18, s19, .val (.int (((i4.toUInt32 >>> ((1 : Int32) &&& 31).toUInt32).toInt32) &&& (3 : Int32))), s21, s22, s23] [(.int i7)])) _
  refine XS.istore X0.here hx rfl (hb hby at_220) rfl (l' := #[s0, s1, s2, s3, .val (.int i4), s5, s6, .val (.int i7), s8, s9, s10, s11, s12, s13, s14, s15, s16, s17, s18, s19, .val (.int (((i4.toUInt32 >>> ((1 : Int32) &&& 31).toUInt32).toInt32) &&& (3 : Int32))), .val (.int i7), s22, s23]) (os_tn0_157_tf_220 hs21) ?_
  exact kt
theorem os_tn0_157_ttf_184 {s0 : Slot} {s1 : Slot} {s2 : Slot} {s3 : Slot} {z4 : Value} {s5 : Slot} {s6 : Slot} {s7 : Slot} {z8 : Value} {s9 : Slot} {s10 : Slot} {s11 : Slot} {s12 : Slot} {s13 : Slot} {s14 : Slot} {s15 : Slot} {s16 : Slot} {s17 : Slot} {s18 : Slot} {s19 : Slot} {s20 : Slot} {s21 : Slot} {s22 : Slot} {s23 : Slot} {v : Int32} (h : One s20) : storeLocals #[s0, s1, s2, s3, .val z4, s5, s6, s7, .val z8, s9, s10, s11, s12, s13, s14, s15, s16, s17, s18, s19, s20, s21, s22, s23] 20 (.int v) = some #[s0, s1, s2, s3, .val z4, s5, s6, s7, .val z8, s9, s10, s11, s12, s13, s14, s15, s16, s17, s18, s19, .val (.int v), s21, s22, s23] := by
  rcases h with rfl | ⟨w, rfl, hw⟩
  · rfl
  · cases w <;> first | rfl | (simp [Value.category] at hw)
theorem os_tn0_157_ttf_220 {s0 : Slot} {s1 : Slot} {s2 : Slot} {s3 : Slot} {z4 : Value} {s5 : Slot} {s6 : Slot} {s7 : Slot} {z8 : Value} {s9 : Slot} {s10 : Slot} {s11 : Slot} {s12 : Slot} {s13 : Slot} {s14 : Slot} {s15 : Slot} {s16 : Slot} {s17 : Slot} {s18 : Slot} {s19 : Slot} {z20 : Value} {s21 : Slot} {s22 : Slot} {s23 : Slot} {v : Int32} (h : One s21) : storeLocals #[s0, s1, s2, s3, .val z4, s5, s6, s7, .val z8, s9, s10, s11, s12, s13, s14, s15, s16, s17, s18, s19, .val z20, s21, s22, s23] 21 (.int v) = some #[s0, s1, s2, s3, .val z4, s5, s6, s7, .val z8, s9, s10, s11, s12, s13, s14, s15, s16, s17, s18, s19, .val z20, .val (.int v), s22, s23] := by
  rcases h with rfl | ⟨w, rfl, hw⟩
  · rfl
  · cases w <;> first | rfl | (simp [Value.category] at hw)
set_option maxRecDepth 65536 in
set_option maxHeartbeats 40000000 in
theorem tn0_157_ttf {p : Program} {l : Launch} {e : Env} {s : State} {m : MethodId} {args : Array Value} {below : List Frame} {meth : Method} {c : Code} {T0 : State} {locs : List Loc} {Z : State} {a0 : Array Value} {h0 : Heap} (s0 : Slot) (s1 : Slot) (s2 : Slot) (s3 : Slot) (i4 : Int32) (s5 : Slot) (s6 : Slot) (s7 : Slot) (i8 : Int32) (s9 : Slot) (s10 : Slot) (s11 : Slot) (s12 : Slot) (s13 : Slot) (s14 : Slot) (s15 : Slot) (s16 : Slot) (s17 : Slot) (s18 : Slot) (s19 : Slot) (s20 : Slot) (s21 : Slot) (s22 : Slot) (s23 : Slot)
    (X0 : Stand p l e room_1 s m args below meth c T0 locs 0 0) (hx : p.tables.exec = Jvm.exec) (hZ : Z.Warmed39 s.vm) (hw : ∀ d ∈ tables_1, d.before a0 Z = true) (hby : c.code = code) (hml : c.maxLocals = 24) (hown : s.vm.findClass "com/example/umbel/umbel/query/OccurrencesFirstUnusedAfterPinLaw" = some m.cls) (e0 : T0.heap = h0) (n0 : Nat) (Z0 : n0 ≤ h0.size) (N0 : Fr n0 locs) (hs20 : One s20) (hs21 : One s21) (hc161 : ¬ ((i4 &&& (1 : Int32)) = (0 : Int32))) (hc188 : ¬ ((((i4.toUInt32 >>> ((1 : Int32) &&& 31).toUInt32).toInt32) &&& (3 : Int32)) = (0 : Int32))) (hc199 : (((i4.toUInt32 >>> ((1 : Int32) &&& 31).toUInt32).toInt32) &&& (3 : Int32)) = (1 : Int32)) :
    ∃ (T' : State) (locs' : List Loc), Stand p l e room_1 s m args below meth c T' locs' 0 0 ∧ Fr n0 locs' ∧ T'.heap = h0 ∧
      ∀ target, Steps p.tables e below (T'.setTop (mkF m 222 #[s0, s1, s2, s3, .val (.int i4), s5, s6, s7, .val (.int i8), s9, s10, s11, s12, s13, s14, s15, s16, s17, s18, s19, .val (.int (((i4.toUInt32 >>> ((1 : Int32) &&& 31).toUInt32).toInt32) &&& (3 : Int32))), .val (.int i8), s22, s23] [])) target → Steps p.tables e below (T0.setTop (mkF m 157 #[s0, s1, s2, s3, .val (.int i4), s5, s6, s7, .val (.int i8), s9, s10, s11, s12, s13, s14, s15, s16, s17, s18, s19, s20, s21, s22, s23] [])) target := by
  refine ⟨T0, _, X0, N0, e0, fun target kt => ?_⟩
  show Steps p.tables e below (T0.setTop (mkF m 157 #[s0, s1, s2, s3, .val (.int i4), s5, s6, s7, .val (.int i8), s9, s10, s11, s12, s13, s14, s15, s16, s17, s18, s19, s20, s21, s22, s23] [])) _
  refine XS.iload X0.here hx rfl (hb hby at_157) rfl ?_
  show Steps p.tables e below (T0.setTop (mkF m 159 #[s0, s1, s2, s3, .val (.int i4), s5, s6, s7, .val (.int i8), s9, s10, s11, s12, s13, s14, s15, s16, s17, s18, s19, s20, s21, s22, s23] [(.int i4)])) _
  refine XS.iconst X0.here hx rfl (hb hby at_159) ?_
  show Steps p.tables e below (T0.setTop (mkF m 160 #[s0, s1, s2, s3, .val (.int i4), s5, s6, s7, .val (.int i8), s9, s10, s11, s12, s13, s14, s15, s16, s17, s18, s19, s20, s21, s22, s23] [(.int (1 : Int32)), (.int i4)])) _
  refine XS.iand X0.here hx rfl (hb hby at_160) rfl ?_
  show Steps p.tables e below (T0.setTop (mkF m 161 #[s0, s1, s2, s3, .val (.int i4), s5, s6, s7, .val (.int i8), s9, s10, s11, s12, s13, s14, s15, s16, s17, s18, s19, s20, s21, s22, s23] [(.int (i4 &&& (1 : Int32)))])) _
  refine XS.ifYes X0.here hx rfl (pc0 := 161) (pc' := 178) rfl (hb hby at_161) rfl ((if0 _ _).trans (feq hc161).2) (by decide) (by decide) ?_
  show Steps p.tables e below (T0.setTop (mkF m 178 #[s0, s1, s2, s3, .val (.int i4), s5, s6, s7, .val (.int i8), s9, s10, s11, s12, s13, s14, s15, s16, s17, s18, s19, s20, s21, s22, s23] [])) _
  refine XS.iload X0.here hx rfl (hb hby at_178) rfl ?_
  show Steps p.tables e below (T0.setTop (mkF m 180 #[s0, s1, s2, s3, .val (.int i4), s5, s6, s7, .val (.int i8), s9, s10, s11, s12, s13, s14, s15, s16, s17, s18, s19, s20, s21, s22, s23] [(.int i4)])) _
  refine XS.iconst X0.here hx rfl (hb hby at_180) ?_
  show Steps p.tables e below (T0.setTop (mkF m 181 #[s0, s1, s2, s3, .val (.int i4), s5, s6, s7, .val (.int i8), s9, s10, s11, s12, s13, s14, s15, s16, s17, s18, s19, s20, s21, s22, s23] [(.int (1 : Int32)), (.int i4)])) _
  refine XS.iushr X0.here hx rfl (hb hby at_181) rfl ?_
  show Steps p.tables e below (T0.setTop (mkF m 182 #[s0, s1, s2, s3, .val (.int i4), s5, s6, s7, .val (.int i8), s9, s10, s11, s12, s13, s14, s15, s16, s17, s18, s19, s20, s21, s22, s23] [(.int ((i4.toUInt32 >>> ((1 : Int32) &&& 31).toUInt32).toInt32))])) _
  refine XS.iconst X0.here hx rfl (hb hby at_182) ?_
  show Steps p.tables e below (T0.setTop (mkF m 183 #[s0, s1, s2, s3, .val (.int i4), s5, s6, s7, .val (.int i8), s9, s10, s11, s12, s13, s14, s15, s16, s17, s18, s19, s20, s21, s22, s23] [(.int (3 : Int32)), (.int ((i4.toUInt32 >>> ((1 : Int32) &&& 31).toUInt32).toInt32))])) _
  refine XS.iand X0.here hx rfl (hb hby at_183) rfl ?_
  show Steps p.tables e below (T0.setTop (mkF m 184 #[s0, s1, s2, s3, .val (.int i4), s5, s6, s7, .val (.int i8), s9, s10, s11, s12, s13, s14, s15, s16, s17, s18, s19, s20, s21, s22, s23] [(.int (((i4.toUInt32 >>> ((1 : Int32) &&& 31).toUInt32).toInt32) &&& (3 : Int32)))])) _
  refine XS.istore X0.here hx rfl (hb hby at_184) rfl (l' := #[s0, s1, s2, s3, .val (.int i4), s5, s6, s7, .val (.int i8), s9, s10, s11, s12, s13, s14, s15, s16, s17, s18, s19, .val (.int (((i4.toUInt32 >>> ((1 : Int32) &&& 31).toUInt32).toInt32) &&& (3 : Int32))), s21, s22, s23]) (os_tn0_157_ttf_184 hs20) ?_
  show Steps p.tables e below (T0.setTop (mkF m 186 #[s0, s1, s2, s3, .val (.int i4), s5, s6, s7, .val (.int i8), s9, s10, s11, s12, s13, s14, s15, s16, s17, s18, s19, .val (.int (((i4.toUInt32 >>> ((1 : Int32) &&& 31).toUInt32).toInt32) &&& (3 : Int32))), s21, s22, s23] [])) _
  refine XS.iload X0.here hx rfl (hb hby at_186) rfl ?_
  show Steps p.tables e below (T0.setTop (mkF m 188 #[s0, s1, s2, s3, .val (.int i4), s5, s6, s7, .val (.int i8), s9, s10, s11, s12, s13, s14, s15, s16, s17, s18, s19, .val (.int (((i4.toUInt32 >>> ((1 : Int32) &&& 31).toUInt32).toInt32) &&& (3 : Int32))), s21, s22, s23] [(.int (((i4.toUInt32 >>> ((1 : Int32) &&& 31).toUInt32).toInt32) &&& (3 : Int32)))])) _
  refine XS.ifYes X0.here hx rfl (pc0 := 188) (pc' := 196) rfl (hb hby at_188) rfl ((if0 _ _).trans (feq hc188).2) (by decide) (by decide) ?_
  show Steps p.tables e below (T0.setTop (mkF m 196 #[s0, s1, s2, s3, .val (.int i4), s5, s6, s7, .val (.int i8), s9, s10, s11, s12, s13, s14, s15, s16, s17, s18, s19, .val (.int (((i4.toUInt32 >>> ((1 : Int32) &&& 31).toUInt32).toInt32) &&& (3 : Int32))), s21, s22, s23] [])) _
  refine XS.iload X0.here hx rfl (hb hby at_196) rfl ?_
  show Steps p.tables e below (T0.setTop (mkF m 198 #[s0, s1, s2, s3, .val (.int i4), s5, s6, s7, .val (.int i8), s9, s10, s11, s12, s13, s14, s15, s16, s17, s18, s19, .val (.int (((i4.toUInt32 >>> ((1 : Int32) &&& 31).toUInt32).toInt32) &&& (3 : Int32))), s21, s22, s23] [(.int (((i4.toUInt32 >>> ((1 : Int32) &&& 31).toUInt32).toInt32) &&& (3 : Int32)))])) _
  refine XS.iconst X0.here hx rfl (hb hby at_198) ?_
  show Steps p.tables e below (T0.setTop (mkF m 199 #[s0, s1, s2, s3, .val (.int i4), s5, s6, s7, .val (.int i8), s9, s10, s11, s12, s13, s14, s15, s16, s17, s18, s19, .val (.int (((i4.toUInt32 >>> ((1 : Int32) &&& 31).toUInt32).toInt32) &&& (3 : Int32))), s21, s22, s23] [(.int (1 : Int32)), (.int (((i4.toUInt32 >>> ((1 : Int32) &&& 31).toUInt32).toInt32) &&& (3 : Int32)))])) _
  refine XS.icmpNo X0.here hx rfl (hb hby at_199) rfl (teq hc199).2 ?_
  show Steps p.tables e below (T0.setTop (mkF m 202 #[s0, s1, s2, s3, .val (.int i4), s5, s6, s7, .val (.int i8), s9, s10, s11, s12, s13, s14, s15, s16, s17, s18, s19, .val (.int (((i4.toUInt32 >>> ((1 : Int32) &&& 31).toUInt32).toInt32) &&& (3 : Int32))), s21, s22, s23] [])) _
  refine XS.iload X0.here hx rfl (hb hby at_202) rfl ?_
  show Steps p.tables e below (T0.setTop (mkF m 204 #[s0, s1, s2, s3, .val (.int i4), s5, s6, s7, .val (.int i8), s9, s10, s11, s12, s13, s14, s15, s16, s17, s18, s19, .val (.int (((i4.toUInt32 >>> ((1 : Int32) &&& 31).toUInt32).toInt32) &&& (3 : Int32))), s21, s22, s23] [(.int i8)])) _
  refine XS.goto X0.here hx rfl (pc0 := 204) (pc' := 220) rfl (hb hby at_204) (by decide) (by decide) ?_
  show Steps p.tables e below (T0.setTop (mkF m 220 #[s0, s1, s2, s3, .val (.int i4), s5, s6, s7, .val (.int i8), s9, s10, s11, s12, s13, s14, s15, s16, s17, s18, s19, .val (.int (((i4.toUInt32 >>> ((1 : Int32) &&& 31).toUInt32).toInt32) &&& (3 : Int32))), s21, s22, s23] [(.int i8)])) _
  refine XS.istore X0.here hx rfl (hb hby at_220) rfl (l' := #[s0, s1, s2, s3, .val (.int i4), s5, s6, s7, .val (.int i8), s9, s10, s11, s12, s13, s14, s15, s16, s17, s18, s19, .val (.int (((i4.toUInt32 >>> ((1 : Int32) &&& 31).toUInt32).toInt32) &&& (3 : Int32))), .val (.int i8), s22, s23]) (os_tn0_157_ttf_220 hs21) ?_
  exact kt
theorem os_tn0_157_tttf_184 {s0 : Slot} {s1 : Slot} {s2 : Slot} {s3 : Slot} {z4 : Value} {s5 : Slot} {s6 : Slot} {s7 : Slot} {s8 : Slot} {z9 : Value} {s10 : Slot} {s11 : Slot} {s12 : Slot} {s13 : Slot} {s14 : Slot} {s15 : Slot} {s16 : Slot} {s17 : Slot} {s18 : Slot} {s19 : Slot} {s20 : Slot} {s21 : Slot} {s22 : Slot} {s23 : Slot} {v : Int32} (h : One s20) : storeLocals #[s0, s1, s2, s3, .val z4, s5, s6, s7, s8, .val z9, s10, s11, s12, s13, s14, s15, s16, s17, s18, s19, s20, s21, s22, s23] 20 (.int v) = some #[s0, s1, s2, s3, .val z4, s5, s6, s7, s8, .val z9, s10, s11, s12, s13, s14, s15, s16, s17, s18, s19, .val (.int v), s21, s22, s23] := by
  rcases h with rfl | ⟨w, rfl, hw⟩
  · rfl
  · cases w <;> first | rfl | (simp [Value.category] at hw)
theorem os_tn0_157_tttf_220 {s0 : Slot} {s1 : Slot} {s2 : Slot} {s3 : Slot} {z4 : Value} {s5 : Slot} {s6 : Slot} {s7 : Slot} {s8 : Slot} {z9 : Value} {s10 : Slot} {s11 : Slot} {s12 : Slot} {s13 : Slot} {s14 : Slot} {s15 : Slot} {s16 : Slot} {s17 : Slot} {s18 : Slot} {s19 : Slot} {z20 : Value} {s21 : Slot} {s22 : Slot} {s23 : Slot} {v : Int32} (h : One s21) : storeLocals #[s0, s1, s2, s3, .val z4, s5, s6, s7, s8, .val z9, s10, s11, s12, s13, s14, s15, s16, s17, s18, s19, .val z20, s21, s22, s23] 21 (.int v) = some #[s0, s1, s2, s3, .val z4, s5, s6, s7, s8, .val z9, s10, s11, s12, s13, s14, s15, s16, s17, s18, s19, .val z20, .val (.int v), s22, s23] := by
  rcases h with rfl | ⟨w, rfl, hw⟩
  · rfl
  · cases w <;> first | rfl | (simp [Value.category] at hw)
set_option maxRecDepth 65536 in
set_option maxHeartbeats 40000000 in
theorem tn0_157_tttf {p : Program} {l : Launch} {e : Env} {s : State} {m : MethodId} {args : Array Value} {below : List Frame} {meth : Method} {c : Code} {T0 : State} {locs : List Loc} {Z : State} {a0 : Array Value} {h0 : Heap} (s0 : Slot) (s1 : Slot) (s2 : Slot) (s3 : Slot) (i4 : Int32) (s5 : Slot) (s6 : Slot) (s7 : Slot) (s8 : Slot) (i9 : Int32) (s10 : Slot) (s11 : Slot) (s12 : Slot) (s13 : Slot) (s14 : Slot) (s15 : Slot) (s16 : Slot) (s17 : Slot) (s18 : Slot) (s19 : Slot) (s20 : Slot) (s21 : Slot) (s22 : Slot) (s23 : Slot)
    (X0 : Stand p l e room_1 s m args below meth c T0 locs 0 0) (hx : p.tables.exec = Jvm.exec) (hZ : Z.Warmed39 s.vm) (hw : ∀ d ∈ tables_1, d.before a0 Z = true) (hby : c.code = code) (hml : c.maxLocals = 24) (hown : s.vm.findClass "com/example/umbel/umbel/query/OccurrencesFirstUnusedAfterPinLaw" = some m.cls) (e0 : T0.heap = h0) (n0 : Nat) (Z0 : n0 ≤ h0.size) (N0 : Fr n0 locs) (hs20 : One s20) (hs21 : One s21) (hc161 : ¬ ((i4 &&& (1 : Int32)) = (0 : Int32))) (hc188 : ¬ ((((i4.toUInt32 >>> ((1 : Int32) &&& 31).toUInt32).toInt32) &&& (3 : Int32)) = (0 : Int32))) (hc199 : ¬ ((((i4.toUInt32 >>> ((1 : Int32) &&& 31).toUInt32).toInt32) &&& (3 : Int32)) = (1 : Int32))) (hc210 : (((i4.toUInt32 >>> ((1 : Int32) &&& 31).toUInt32).toInt32) &&& (3 : Int32)) = (2 : Int32)) :
    ∃ (T' : State) (locs' : List Loc), Stand p l e room_1 s m args below meth c T' locs' 0 0 ∧ Fr n0 locs' ∧ T'.heap = h0 ∧
      ∀ target, Steps p.tables e below (T'.setTop (mkF m 222 #[s0, s1, s2, s3, .val (.int i4), s5, s6, s7, s8, .val (.int i9), s10, s11, s12, s13, s14, s15, s16, s17, s18, s19, .val (.int (((i4.toUInt32 >>> ((1 : Int32) &&& 31).toUInt32).toInt32) &&& (3 : Int32))), .val (.int i9), s22, s23] [])) target → Steps p.tables e below (T0.setTop (mkF m 157 #[s0, s1, s2, s3, .val (.int i4), s5, s6, s7, s8, .val (.int i9), s10, s11, s12, s13, s14, s15, s16, s17, s18, s19, s20, s21, s22, s23] [])) target := by
  refine ⟨T0, _, X0, N0, e0, fun target kt => ?_⟩
  show Steps p.tables e below (T0.setTop (mkF m 157 #[s0, s1, s2, s3, .val (.int i4), s5, s6, s7, s8, .val (.int i9), s10, s11, s12, s13, s14, s15, s16, s17, s18, s19, s20, s21, s22, s23] [])) _
  refine XS.iload X0.here hx rfl (hb hby at_157) rfl ?_
  show Steps p.tables e below (T0.setTop (mkF m 159 #[s0, s1, s2, s3, .val (.int i4), s5, s6, s7, s8, .val (.int i9), s10, s11, s12, s13, s14, s15, s16, s17, s18, s19, s20, s21, s22, s23] [(.int i4)])) _
  refine XS.iconst X0.here hx rfl (hb hby at_159) ?_
  show Steps p.tables e below (T0.setTop (mkF m 160 #[s0, s1, s2, s3, .val (.int i4), s5, s6, s7, s8, .val (.int i9), s10, s11, s12, s13, s14, s15, s16, s17, s18, s19, s20, s21, s22, s23] [(.int (1 : Int32)), (.int i4)])) _
  refine XS.iand X0.here hx rfl (hb hby at_160) rfl ?_
  show Steps p.tables e below (T0.setTop (mkF m 161 #[s0, s1, s2, s3, .val (.int i4), s5, s6, s7, s8, .val (.int i9), s10, s11, s12, s13, s14, s15, s16, s17, s18, s19, s20, s21, s22, s23] [(.int (i4 &&& (1 : Int32)))])) _
  refine XS.ifYes X0.here hx rfl (pc0 := 161) (pc' := 178) rfl (hb hby at_161) rfl ((if0 _ _).trans (feq hc161).2) (by decide) (by decide) ?_
  show Steps p.tables e below (T0.setTop (mkF m 178 #[s0, s1, s2, s3, .val (.int i4), s5, s6, s7, s8, .val (.int i9), s10, s11, s12, s13, s14, s15, s16, s17, s18, s19, s20, s21, s22, s23] [])) _
  refine XS.iload X0.here hx rfl (hb hby at_178) rfl ?_
  show Steps p.tables e below (T0.setTop (mkF m 180 #[s0, s1, s2, s3, .val (.int i4), s5, s6, s7, s8, .val (.int i9), s10, s11, s12, s13, s14, s15, s16, s17, s18, s19, s20, s21, s22, s23] [(.int i4)])) _
  refine XS.iconst X0.here hx rfl (hb hby at_180) ?_
  show Steps p.tables e below (T0.setTop (mkF m 181 #[s0, s1, s2, s3, .val (.int i4), s5, s6, s7, s8, .val (.int i9), s10, s11, s12, s13, s14, s15, s16, s17, s18, s19, s20, s21, s22, s23] [(.int (1 : Int32)), (.int i4)])) _
  refine XS.iushr X0.here hx rfl (hb hby at_181) rfl ?_
  show Steps p.tables e below (T0.setTop (mkF m 182 #[s0, s1, s2, s3, .val (.int i4), s5, s6, s7, s8, .val (.int i9), s10, s11, s12, s13, s14, s15, s16, s17, s18, s19, s20, s21, s22, s23] [(.int ((i4.toUInt32 >>> ((1 : Int32) &&& 31).toUInt32).toInt32))])) _
  refine XS.iconst X0.here hx rfl (hb hby at_182) ?_
  show Steps p.tables e below (T0.setTop (mkF m 183 #[s0, s1, s2, s3, .val (.int i4), s5, s6, s7, s8, .val (.int i9), s10, s11, s12, s13, s14, s15, s16, s17, s18, s19, s20, s21, s22, s23] [(.int (3 : Int32)), (.int ((i4.toUInt32 >>> ((1 : Int32) &&& 31).toUInt32).toInt32))])) _
  refine XS.iand X0.here hx rfl (hb hby at_183) rfl ?_
  show Steps p.tables e below (T0.setTop (mkF m 184 #[s0, s1, s2, s3, .val (.int i4), s5, s6, s7, s8, .val (.int i9), s10, s11, s12, s13, s14, s15, s16, s17, s18, s19, s20, s21, s22, s23] [(.int (((i4.toUInt32 >>> ((1 : Int32) &&& 31).toUInt32).toInt32) &&& (3 : Int32)))])) _
  refine XS.istore X0.here hx rfl (hb hby at_184) rfl (l' := #[s0, s1, s2, s3, .val (.int i4), s5, s6, s7, s8, .val (.int i9), s10, s11, s12, s13, s14, s15, s16, s17, s18, s19, .val (.int (((i4.toUInt32 >>> ((1 : Int32) &&& 31).toUInt32).toInt32) &&& (3 : Int32))), s21, s22, s23]) (os_tn0_157_tttf_184 hs20) ?_
  show Steps p.tables e below (T0.setTop (mkF m 186 #[s0, s1, s2, s3, .val (.int i4), s5, s6, s7, s8, .val (.int i9), s10, s11, s12, s13, s14, s15, s16, s17, s18, s19, .val (.int (((i4.toUInt32 >>> ((1 : Int32) &&& 31).toUInt32).toInt32) &&& (3 : Int32))), s21, s22, s23] [])) _
  refine XS.iload X0.here hx rfl (hb hby at_186) rfl ?_
  show Steps p.tables e below (T0.setTop (mkF m 188 #[s0, s1, s2, s3, .val (.int i4), s5, s6, s7, s8, .val (.int i9), s10, s11, s12, s13, s14, s15, s16, s17, s18, s19, .val (.int (((i4.toUInt32 >>> ((1 : Int32) &&& 31).toUInt32).toInt32) &&& (3 : Int32))), s21, s22, s23] [(.int (((i4.toUInt32 >>> ((1 : Int32) &&& 31).toUInt32).toInt32) &&& (3 : Int32)))])) _
  refine XS.ifYes X0.here hx rfl (pc0 := 188) (pc' := 196) rfl (hb hby at_188) rfl ((if0 _ _).trans (feq hc188).2) (by decide) (by decide) ?_
  show Steps p.tables e below (T0.setTop (mkF m 196 #[s0, s1, s2, s3, .val (.int i4), s5, s6, s7, s8, .val (.int i9), s10, s11, s12, s13, s14, s15, s16, s17, s18, s19, .val (.int (((i4.toUInt32 >>> ((1 : Int32) &&& 31).toUInt32).toInt32) &&& (3 : Int32))), s21, s22, s23] [])) _
  refine XS.iload X0.here hx rfl (hb hby at_196) rfl ?_
  show Steps p.tables e below (T0.setTop (mkF m 198 #[s0, s1, s2, s3, .val (.int i4), s5, s6, s7, s8, .val (.int i9), s10, s11, s12, s13, s14, s15, s16, s17, s18, s19, .val (.int (((i4.toUInt32 >>> ((1 : Int32) &&& 31).toUInt32).toInt32) &&& (3 : Int32))), s21, s22, s23] [(.int (((i4.toUInt32 >>> ((1 : Int32) &&& 31).toUInt32).toInt32) &&& (3 : Int32)))])) _
  refine XS.iconst X0.here hx rfl (hb hby at_198) ?_
  show Steps p.tables e below (T0.setTop (mkF m 199 #[s0, s1, s2, s3, .val (.int i4), s5, s6, s7, s8, .val (.int i9), s10, s11, s12, s13, s14, s15, s16, s17, s18, s19, .val (.int (((i4.toUInt32 >>> ((1 : Int32) &&& 31).toUInt32).toInt32) &&& (3 : Int32))), s21, s22, s23] [(.int (1 : Int32)), (.int (((i4.toUInt32 >>> ((1 : Int32) &&& 31).toUInt32).toInt32) &&& (3 : Int32)))])) _
  refine XS.icmpYes X0.here hx rfl (pc0 := 199) (pc' := 207) rfl (hb hby at_199) rfl (feq hc199).2 (by decide) (by decide) ?_
  show Steps p.tables e below (T0.setTop (mkF m 207 #[s0, s1, s2, s3, .val (.int i4), s5, s6, s7, s8, .val (.int i9), s10, s11, s12, s13, s14, s15, s16, s17, s18, s19, .val (.int (((i4.toUInt32 >>> ((1 : Int32) &&& 31).toUInt32).toInt32) &&& (3 : Int32))), s21, s22, s23] [])) _
  refine XS.iload X0.here hx rfl (hb hby at_207) rfl ?_
  show Steps p.tables e below (T0.setTop (mkF m 209 #[s0, s1, s2, s3, .val (.int i4), s5, s6, s7, s8, .val (.int i9), s10, s11, s12, s13, s14, s15, s16, s17, s18, s19, .val (.int (((i4.toUInt32 >>> ((1 : Int32) &&& 31).toUInt32).toInt32) &&& (3 : Int32))), s21, s22, s23] [(.int (((i4.toUInt32 >>> ((1 : Int32) &&& 31).toUInt32).toInt32) &&& (3 : Int32)))])) _
  refine XS.iconst X0.here hx rfl (hb hby at_209) ?_
  show Steps p.tables e below (T0.setTop (mkF m 210 #[s0, s1, s2, s3, .val (.int i4), s5, s6, s7, s8, .val (.int i9), s10, s11, s12, s13, s14, s15, s16, s17, s18, s19, .val (.int (((i4.toUInt32 >>> ((1 : Int32) &&& 31).toUInt32).toInt32) &&& (3 : Int32))), s21, s22, s23] [(.int (2 : Int32)), (.int (((i4.toUInt32 >>> ((1 : Int32) &&& 31).toUInt32).toInt32) &&& (3 : Int32)))])) _
  refine XS.icmpNo X0.here hx rfl (hb hby at_210) rfl (teq hc210).2 ?_
  show Steps p.tables e below (T0.setTop (mkF m 213 #[s0, s1, s2, s3, .val (.int i4), s5, s6, s7, s8, .val (.int i9), s10, s11, s12, s13, s14, s15, s16, s17, s18, s19, .val (.int (((i4.toUInt32 >>> ((1 : Int32) &&& 31).toUInt32).toInt32) &&& (3 : Int32))), s21, s22, s23] [])) _
  refine XS.iload X0.here hx rfl (hb hby at_213) rfl ?_
  show Steps p.tables e below (T0.setTop (mkF m 215 #[s0, s1, s2, s3, .val (.int i4), s5, s6, s7, s8, .val (.int i9), s10, s11, s12, s13, s14, s15, s16, s17, s18, s19, .val (.int (((i4.toUInt32 >>> ((1 : Int32) &&& 31).toUInt32).toInt32) &&& (3 : Int32))), s21, s22, s23] [(.int i9)])) _
  refine XS.goto X0.here hx rfl (pc0 := 215) (pc' := 220) rfl (hb hby at_215) (by decide) (by decide) ?_
  show Steps p.tables e below (T0.setTop (mkF m 220 #[s0, s1, s2, s3, .val (.int i4), s5, s6, s7, s8, .val (.int i9), s10, s11, s12, s13, s14, s15, s16, s17, s18, s19, .val (.int (((i4.toUInt32 >>> ((1 : Int32) &&& 31).toUInt32).toInt32) &&& (3 : Int32))), s21, s22, s23] [(.int i9)])) _
  refine XS.istore X0.here hx rfl (hb hby at_220) rfl (l' := #[s0, s1, s2, s3, .val (.int i4), s5, s6, s7, s8, .val (.int i9), s10, s11, s12, s13, s14, s15, s16, s17, s18, s19, .val (.int (((i4.toUInt32 >>> ((1 : Int32) &&& 31).toUInt32).toInt32) &&& (3 : Int32))), .val (.int i9), s22, s23]) (os_tn0_157_tttf_220 hs21) ?_
  exact kt
theorem os_tn0_157_tttt_184 {s0 : Slot} {s1 : Slot} {s2 : Slot} {s3 : Slot} {z4 : Value} {s5 : Slot} {s6 : Slot} {s7 : Slot} {s8 : Slot} {s9 : Slot} {z10 : Value} {s11 : Slot} {s12 : Slot} {s13 : Slot} {s14 : Slot} {s15 : Slot} {s16 : Slot} {s17 : Slot} {s18 : Slot} {s19 : Slot} {s20 : Slot} {s21 : Slot} {s22 : Slot} {s23 : Slot} {v : Int32} (h : One s20) : storeLocals #[s0, s1, s2, s3, .val z4, s5, s6, s7, s8, s9, .val z10, s11, s12, s13, s14, s15, s16, s17, s18, s19, s20, s21, s22, s23] 20 (.int v) = some #[s0, s1, s2, s3, .val z4, s5, s6, s7, s8, s9, .val z10, s11, s12, s13, s14, s15, s16, s17, s18, s19, .val (.int v), s21, s22, s23] := by
  rcases h with rfl | ⟨w, rfl, hw⟩
  · rfl
  · cases w <;> first | rfl | (simp [Value.category] at hw)
theorem os_tn0_157_tttt_220 {s0 : Slot} {s1 : Slot} {s2 : Slot} {s3 : Slot} {z4 : Value} {s5 : Slot} {s6 : Slot} {s7 : Slot} {s8 : Slot} {s9 : Slot} {z10 : Value} {s11 : Slot} {s12 : Slot} {s13 : Slot} {s14 : Slot} {s15 : Slot} {s16 : Slot} {s17 : Slot} {s18 : Slot} {s19 : Slot} {z20 : Value} {s21 : Slot} {s22 : Slot} {s23 : Slot} {v : Int32} (h : One s21) : storeLocals #[s0, s1, s2, s3, .val z4, s5, s6, s7, s8, s9, .val z10, s11, s12, s13, s14, s15, s16, s17, s18, s19, .val z20, s21, s22, s23] 21 (.int v) = some #[s0, s1, s2, s3, .val z4, s5, s6, s7, s8, s9, .val z10, s11, s12, s13, s14, s15, s16, s17, s18, s19, .val z20, .val (.int v), s22, s23] := by
  rcases h with rfl | ⟨w, rfl, hw⟩
  · rfl
  · cases w <;> first | rfl | (simp [Value.category] at hw)
set_option maxRecDepth 65536 in
set_option maxHeartbeats 40000000 in
theorem tn0_157_tttt {p : Program} {l : Launch} {e : Env} {s : State} {m : MethodId} {args : Array Value} {below : List Frame} {meth : Method} {c : Code} {T0 : State} {locs : List Loc} {Z : State} {a0 : Array Value} {h0 : Heap} (s0 : Slot) (s1 : Slot) (s2 : Slot) (s3 : Slot) (i4 : Int32) (s5 : Slot) (s6 : Slot) (s7 : Slot) (s8 : Slot) (s9 : Slot) (i10 : Int32) (s11 : Slot) (s12 : Slot) (s13 : Slot) (s14 : Slot) (s15 : Slot) (s16 : Slot) (s17 : Slot) (s18 : Slot) (s19 : Slot) (s20 : Slot) (s21 : Slot) (s22 : Slot) (s23 : Slot)
    (X0 : Stand p l e room_1 s m args below meth c T0 locs 0 0) (hx : p.tables.exec = Jvm.exec) (hZ : Z.Warmed39 s.vm) (hw : ∀ d ∈ tables_1, d.before a0 Z = true) (hby : c.code = code) (hml : c.maxLocals = 24) (hown : s.vm.findClass "com/example/umbel/umbel/query/OccurrencesFirstUnusedAfterPinLaw" = some m.cls) (e0 : T0.heap = h0) (n0 : Nat) (Z0 : n0 ≤ h0.size) (N0 : Fr n0 locs) (hs20 : One s20) (hs21 : One s21) (hc161 : ¬ ((i4 &&& (1 : Int32)) = (0 : Int32))) (hc188 : ¬ ((((i4.toUInt32 >>> ((1 : Int32) &&& 31).toUInt32).toInt32) &&& (3 : Int32)) = (0 : Int32))) (hc199 : ¬ ((((i4.toUInt32 >>> ((1 : Int32) &&& 31).toUInt32).toInt32) &&& (3 : Int32)) = (1 : Int32))) (hc210 : ¬ ((((i4.toUInt32 >>> ((1 : Int32) &&& 31).toUInt32).toInt32) &&& (3 : Int32)) = (2 : Int32))) :
    ∃ (T' : State) (locs' : List Loc), Stand p l e room_1 s m args below meth c T' locs' 0 0 ∧ Fr n0 locs' ∧ T'.heap = h0 ∧
      ∀ target, Steps p.tables e below (T'.setTop (mkF m 222 #[s0, s1, s2, s3, .val (.int i4), s5, s6, s7, s8, s9, .val (.int i10), s11, s12, s13, s14, s15, s16, s17, s18, s19, .val (.int (((i4.toUInt32 >>> ((1 : Int32) &&& 31).toUInt32).toInt32) &&& (3 : Int32))), .val (.int i10), s22, s23] [])) target → Steps p.tables e below (T0.setTop (mkF m 157 #[s0, s1, s2, s3, .val (.int i4), s5, s6, s7, s8, s9, .val (.int i10), s11, s12, s13, s14, s15, s16, s17, s18, s19, s20, s21, s22, s23] [])) target := by
  refine ⟨T0, _, X0, N0, e0, fun target kt => ?_⟩
  show Steps p.tables e below (T0.setTop (mkF m 157 #[s0, s1, s2, s3, .val (.int i4), s5, s6, s7, s8, s9, .val (.int i10), s11, s12, s13, s14, s15, s16, s17, s18, s19, s20, s21, s22, s23] [])) _
  refine XS.iload X0.here hx rfl (hb hby at_157) rfl ?_
  show Steps p.tables e below (T0.setTop (mkF m 159 #[s0, s1, s2, s3, .val (.int i4), s5, s6, s7, s8, s9, .val (.int i10), s11, s12, s13, s14, s15, s16, s17, s18, s19, s20, s21, s22, s23] [(.int i4)])) _
  refine XS.iconst X0.here hx rfl (hb hby at_159) ?_
  show Steps p.tables e below (T0.setTop (mkF m 160 #[s0, s1, s2, s3, .val (.int i4), s5, s6, s7, s8, s9, .val (.int i10), s11, s12, s13, s14, s15, s16, s17, s18, s19, s20, s21, s22, s23] [(.int (1 : Int32)), (.int i4)])) _
  refine XS.iand X0.here hx rfl (hb hby at_160) rfl ?_
  show Steps p.tables e below (T0.setTop (mkF m 161 #[s0, s1, s2, s3, .val (.int i4), s5, s6, s7, s8, s9, .val (.int i10), s11, s12, s13, s14, s15, s16, s17, s18, s19, s20, s21, s22, s23] [(.int (i4 &&& (1 : Int32)))])) _
  refine XS.ifYes X0.here hx rfl (pc0 := 161) (pc' := 178) rfl (hb hby at_161) rfl ((if0 _ _).trans (feq hc161).2) (by decide) (by decide) ?_
  show Steps p.tables e below (T0.setTop (mkF m 178 #[s0, s1, s2, s3, .val (.int i4), s5, s6, s7, s8, s9, .val (.int i10), s11, s12, s13, s14, s15, s16, s17, s18, s19, s20, s21, s22, s23] [])) _
  refine XS.iload X0.here hx rfl (hb hby at_178) rfl ?_
  show Steps p.tables e below (T0.setTop (mkF m 180 #[s0, s1, s2, s3, .val (.int i4), s5, s6, s7, s8, s9, .val (.int i10), s11, s12, s13, s14, s15, s16, s17, s18, s19, s20, s21, s22, s23] [(.int i4)])) _
  refine XS.iconst X0.here hx rfl (hb hby at_180) ?_
  show Steps p.tables e below (T0.setTop (mkF m 181 #[s0, s1, s2, s3, .val (.int i4), s5, s6, s7, s8, s9, .val (.int i10), s11, s12, s13, s14, s15, s16, s17, s18, s19, s20, s21, s22, s23] [(.int (1 : Int32)), (.int i4)])) _
  refine XS.iushr X0.here hx rfl (hb hby at_181) rfl ?_
  show Steps p.tables e below (T0.setTop (mkF m 182 #[s0, s1, s2, s3, .val (.int i4), s5, s6, s7, s8, s9, .val (.int i10), s11, s12, s13, s14, s15, s16, s17, s18, s19, s20, s21, s22, s23] [(.int ((i4.toUInt32 >>> ((1 : Int32) &&& 31).toUInt32).toInt32))])) _
  refine XS.iconst X0.here hx rfl (hb hby at_182) ?_
  show Steps p.tables e below (T0.setTop (mkF m 183 #[s0, s1, s2, s3, .val (.int i4), s5, s6, s7, s8, s9, .val (.int i10), s11, s12, s13, s14, s15, s16, s17, s18, s19, s20, s21, s22, s23] [(.int (3 : Int32)), (.int ((i4.toUInt32 >>> ((1 : Int32) &&& 31).toUInt32).toInt32))])) _
  refine XS.iand X0.here hx rfl (hb hby at_183) rfl ?_
  show Steps p.tables e below (T0.setTop (mkF m 184 #[s0, s1, s2, s3, .val (.int i4), s5, s6, s7, s8, s9, .val (.int i10), s11, s12, s13, s14, s15, s16, s17, s18, s19, s20, s21, s22, s23] [(.int (((i4.toUInt32 >>> ((1 : Int32) &&& 31).toUInt32).toInt32) &&& (3 : Int32)))])) _
  refine XS.istore X0.here hx rfl (hb hby at_184) rfl (l' := #[s0, s1, s2, s3, .val (.int i4), s5, s6, s7, s8, s9, .val (.int i10), s11, s12, s13, s14, s15, s16, s17, s18, s19, .val (.int (((i4.toUInt32 >>> ((1 : Int32) &&& 31).toUInt32).toInt32) &&& (3 : Int32))), s21, s22, s23]) (os_tn0_157_tttt_184 hs20) ?_
  show Steps p.tables e below (T0.setTop (mkF m 186 #[s0, s1, s2, s3, .val (.int i4), s5, s6, s7, s8, s9, .val (.int i10), s11, s12, s13, s14, s15, s16, s17, s18, s19, .val (.int (((i4.toUInt32 >>> ((1 : Int32) &&& 31).toUInt32).toInt32) &&& (3 : Int32))), s21, s22, s23] [])) _
  refine XS.iload X0.here hx rfl (hb hby at_186) rfl ?_
  show Steps p.tables e below (T0.setTop (mkF m 188 #[s0, s1, s2, s3, .val (.int i4), s5, s6, s7, s8, s9, .val (.int i10), s11, s12, s13, s14, s15, s16, s17, s18, s19, .val (.int (((i4.toUInt32 >>> ((1 : Int32) &&& 31).toUInt32).toInt32) &&& (3 : Int32))), s21, s22, s23] [(.int (((i4.toUInt32 >>> ((1 : Int32) &&& 31).toUInt32).toInt32) &&& (3 : Int32)))])) _
  refine XS.ifYes X0.here hx rfl (pc0 := 188) (pc' := 196) rfl (hb hby at_188) rfl ((if0 _ _).trans (feq hc188).2) (by decide) (by decide) ?_
  show Steps p.tables e below (T0.setTop (mkF m 196 #[s0, s1, s2, s3, .val (.int i4), s5, s6, s7, s8, s9, .val (.int i10), s11, s12, s13, s14, s15, s16, s17, s18, s19, .val (.int (((i4.toUInt32 >>> ((1 : Int32) &&& 31).toUInt32).toInt32) &&& (3 : Int32))), s21, s22, s23] [])) _
  refine XS.iload X0.here hx rfl (hb hby at_196) rfl ?_
  show Steps p.tables e below (T0.setTop (mkF m 198 #[s0, s1, s2, s3, .val (.int i4), s5, s6, s7, s8, s9, .val (.int i10), s11, s12, s13, s14, s15, s16, s17, s18, s19, .val (.int (((i4.toUInt32 >>> ((1 : Int32) &&& 31).toUInt32).toInt32) &&& (3 : Int32))), s21, s22, s23] [(.int (((i4.toUInt32 >>> ((1 : Int32) &&& 31).toUInt32).toInt32) &&& (3 : Int32)))])) _
  refine XS.iconst X0.here hx rfl (hb hby at_198) ?_
  show Steps p.tables e below (T0.setTop (mkF m 199 #[s0, s1, s2, s3, .val (.int i4), s5, s6, s7, s8, s9, .val (.int i10), s11, s12, s13, s14, s15, s16, s17, s18, s19, .val (.int (((i4.toUInt32 >>> ((1 : Int32) &&& 31).toUInt32).toInt32) &&& (3 : Int32))), s21, s22, s23] [(.int (1 : Int32)), (.int (((i4.toUInt32 >>> ((1 : Int32) &&& 31).toUInt32).toInt32) &&& (3 : Int32)))])) _
  refine XS.icmpYes X0.here hx rfl (pc0 := 199) (pc' := 207) rfl (hb hby at_199) rfl (feq hc199).2 (by decide) (by decide) ?_
  show Steps p.tables e below (T0.setTop (mkF m 207 #[s0, s1, s2, s3, .val (.int i4), s5, s6, s7, s8, s9, .val (.int i10), s11, s12, s13, s14, s15, s16, s17, s18, s19, .val (.int (((i4.toUInt32 >>> ((1 : Int32) &&& 31).toUInt32).toInt32) &&& (3 : Int32))), s21, s22, s23] [])) _
  refine XS.iload X0.here hx rfl (hb hby at_207) rfl ?_
  show Steps p.tables e below (T0.setTop (mkF m 209 #[s0, s1, s2, s3, .val (.int i4), s5, s6, s7, s8, s9, .val (.int i10), s11, s12, s13, s14, s15, s16, s17, s18, s19, .val (.int (((i4.toUInt32 >>> ((1 : Int32) &&& 31).toUInt32).toInt32) &&& (3 : Int32))), s21, s22, s23] [(.int (((i4.toUInt32 >>> ((1 : Int32) &&& 31).toUInt32).toInt32) &&& (3 : Int32)))])) _
  refine XS.iconst X0.here hx rfl (hb hby at_209) ?_
  show Steps p.tables e below (T0.setTop (mkF m 210 #[s0, s1, s2, s3, .val (.int i4), s5, s6, s7, s8, s9, .val (.int i10), s11, s12, s13, s14, s15, s16, s17, s18, s19, .val (.int (((i4.toUInt32 >>> ((1 : Int32) &&& 31).toUInt32).toInt32) &&& (3 : Int32))), s21, s22, s23] [(.int (2 : Int32)), (.int (((i4.toUInt32 >>> ((1 : Int32) &&& 31).toUInt32).toInt32) &&& (3 : Int32)))])) _
  refine XS.icmpYes X0.here hx rfl (pc0 := 210) (pc' := 218) rfl (hb hby at_210) rfl (feq hc210).2 (by decide) (by decide) ?_
  show Steps p.tables e below (T0.setTop (mkF m 218 #[s0, s1, s2, s3, .val (.int i4), s5, s6, s7, s8, s9, .val (.int i10), s11, s12, s13, s14, s15, s16, s17, s18, s19, .val (.int (((i4.toUInt32 >>> ((1 : Int32) &&& 31).toUInt32).toInt32) &&& (3 : Int32))), s21, s22, s23] [])) _
  refine XS.iload X0.here hx rfl (hb hby at_218) rfl ?_
  show Steps p.tables e below (T0.setTop (mkF m 220 #[s0, s1, s2, s3, .val (.int i4), s5, s6, s7, s8, s9, .val (.int i10), s11, s12, s13, s14, s15, s16, s17, s18, s19, .val (.int (((i4.toUInt32 >>> ((1 : Int32) &&& 31).toUInt32).toInt32) &&& (3 : Int32))), s21, s22, s23] [(.int i10)])) _
  refine XS.istore X0.here hx rfl (hb hby at_220) rfl (l' := #[s0, s1, s2, s3, .val (.int i4), s5, s6, s7, s8, s9, .val (.int i10), s11, s12, s13, s14, s15, s16, s17, s18, s19, .val (.int (((i4.toUInt32 >>> ((1 : Int32) &&& 31).toUInt32).toInt32) &&& (3 : Int32))), .val (.int i10), s22, s23]) (os_tn0_157_tttt_220 hs21) ?_
  exact kt
theorem pd_0_2 : parseMethodDescriptor "(JJ)J" = some ⟨[.long, .long], some .long⟩ := by decide +kernel
theorem os_tn0_222_251 {s0 : Slot} {s1 : Slot} {s2 : Slot} {s3 : Slot} {z4 : Value} {s5 : Slot} {s6 : Slot} {s7 : Slot} {s8 : Slot} {s9 : Slot} {s10 : Slot} {s11 : Slot} {s12 : Slot} {s13 : Slot} {s14 : Slot} {s15 : Slot} {s16 : Slot} {s17 : Slot} {s18 : Slot} {s19 : Slot} {s20 : Slot} {z21 : Value} {z22 : Value} {v : Int32} (h : One s19) : storeLocals #[s0, s1, s2, s3, .val z4, s5, s6, s7, s8, s9, s10, s11, s12, s13, s14, s15, s16, s17, s18, s19, s20, .val z21, .val z22, .second] 19 (.int v) = some #[s0, s1, s2, s3, .val z4, s5, s6, s7, s8, s9, s10, s11, s12, s13, s14, s15, s16, s17, s18, .val (.int v), s20, .val z21, .val z22, .second] := by
  rcases h with rfl | ⟨w, rfl, hw⟩
  · rfl
  · cases w <;> first | rfl | (simp [Value.category] at hw)
set_option maxRecDepth 65536 in
set_option maxHeartbeats 40000000 in
theorem tn0_222 {p : Program} {l : Launch} {e : Env} {s : State} {m : MethodId} {args : Array Value} {below : List Frame} {meth : Method} {c : Code} {T0 : State} {locs : List Loc} {Z : State} {a0 : Array Value} {h0 : Heap} (s0 : Slot) (s1 : Slot) (s2 : Slot) (s3 : Slot) (i4 : Int32) (s5 : Slot) (s6 : Slot) (s7 : Slot) (s8 : Slot) (s9 : Slot) (s10 : Slot) (s11 : Slot) (s12 : Slot) (s13 : Slot) (s14 : Slot) (s15 : Slot) (s16 : Slot) (s17 : Slot) (s18 : Slot) (s19 : Slot) (s20 : Slot) (i21 : Int32)
    (X0 : Stand p l e room_1 s m args below meth c T0 locs 0 0) (hx : p.tables.exec = Jvm.exec) (hZ : Z.Warmed39 s.vm) (hw : ∀ d ∈ tables_1, d.before a0 Z = true) (hby : c.code = code) (hml : c.maxLocals = 24) (hown : s.vm.findClass "com/example/umbel/umbel/query/OccurrencesFirstUnusedAfterPinLaw" = some m.cls) (e0 : T0.heap = h0) (n0 : Nat) (Z0 : n0 ≤ h0.size) (N0 : Fr n0 locs) (hs19 : One s19) :
    ∃ (T' : State) (locs' : List Loc), Stand p l e room_1 s m args below meth c T' locs' 0 0 ∧ Fr n0 locs' ∧ T'.heap = h0 ∧
      ∀ target, Steps p.tables e below (T'.setTop (mkF m 253 #[s0, s1, s2, s3, .val (.int i4), s5, s6, s7, s8, s9, s10, s11, s12, s13, s14, s15, s16, s17, s18, .val (.int ((own_maxL (0 : Int64) (own_minL ((i21.toInt64) + (((((i4.toUInt32 >>> ((3 : Int32) &&& 31).toUInt32).toInt32) &&& (7 : Int32)) - (4 : Int32)).toInt64)) (2147483646 : Int64))).toInt32)), s20, .val (.int i21), .val (.long ((i21.toInt64) + (((((i4.toUInt32 >>> ((3 : Int32) &&& 31).toUInt32).toInt32) &&& (7 : Int32)) - (4 : Int32)).toInt64))), .second] [])) target → Steps p.tables e below (T0.setTop (mkF m 222 #[s0, s1, s2, s3, .val (.int i4), s5, s6, s7, s8, s9, s10, s11, s12, s13, s14, s15, s16, s17, s18, s19, s20, .val (.int i21), .unset, .unset] [])) target := by
  obtain ⟨_, _, ⟨T6, L6, k6, n6⟩, -, X6, ⟨Lc6, hQ6, l6, y6, z6⟩, st6⟩ := Jvm.LawKit.callS X0 hx (y := (⟨"java/lang/Math", "min", "(JJ)J"⟩ : MethodName)) hown (mvT hZ (hw _ (List.mem_of_getElem? (i := 11) rfl))) (mvT hZ (hw _ (List.mem_of_getElem? (i := 12) rfl))) (mvT hZ (hw _ (List.mem_of_getElem? (i := 3) rfl))) (mvT hZ (hw _ (List.mem_of_getElem? (i := 13) rfl))) (by decide) (backOf (W := 2) (rm3 l Z a0 hw [] ((i21.toInt64) + (((((i4.toUInt32 >>> ((3 : Int32) &&& 31).toUInt32).toInt32) &&& (7 : Int32)) - (4 : Int32)).toInt64)) (2147483646 : Int64) h0 n0 Z0) hZ (hw _ (List.mem_of_getElem? (i := 13) rfl)) (hw _ (List.mem_of_getElem? (i := 3) rfl)) (by decide) (by decide)) (g := (mkF m 244 #[s0, s1, s2, s3, .val (.int i4), s5, s6, s7, s8, s9, s10, s11, s12, s13, s14, s15, s16, s17, s18, s19, s20, .val (.int i21), .val (.long ((i21.toInt64) + (((((i4.toUInt32 >>> ((3 : Int32) &&& 31).toUInt32).toInt32) &&& (7 : Int32)) - (4 : Int32)).toInt64))), .second] [(.long (2147483646 : Int64)), (.long ((i21.toInt64) + (((((i4.toUInt32 >>> ((3 : Int32) &&& 31).toUInt32).toInt32) &&& (7 : Int32)) - (4 : Int32)).toInt64))), (.long (0 : Int64))])) rfl (by rw [hml]; rfl) (argsL := [(.long ((i21.toInt64) + (((((i4.toUInt32 >>> ((3 : Int32) &&& 31).toUInt32).toInt32) &&& (7 : Int32)) - (4 : Int32)).toInt64))), (.long (2147483646 : Int64))]) (rest := [(.long (0 : Int64))]) (lenOf pd_0_2 rfl) rfl (by show 2 * 0 + _ ≤ _; exact Nat.le_of_eq rfl) (hb hby at_244) (fun _ _ => ⟨rfl, e0, (by decide : 0 + 0 ≤ _), (by decide : 0 + 0 ≤ _)⟩)
  dsimp only [Pt.U, Pt.locs, Pt.cells, Pt.slots] at X6 l6 y6 z6 st6 hQ6
  subst l6 y6 z6
  obtain ⟨rfl, N6q, e6q⟩ := hQ6
  have N6 := Fr.app N0 N6q
  obtain ⟨_, _, ⟨T7, L7, k7, n7⟩, -, X7, ⟨Lc7, hQ7, l7, y7, z7⟩, st7⟩ := Jvm.LawKit.callS X6 hx (y := (⟨"java/lang/Math", "max", "(JJ)J"⟩ : MethodName)) hown (mvT hZ (hw _ (List.mem_of_getElem? (i := 52) rfl))) (mvT hZ (hw _ (List.mem_of_getElem? (i := 53) rfl))) (mvT hZ (hw _ (List.mem_of_getElem? (i := 3) rfl))) (mvT hZ (hw _ (List.mem_of_getElem? (i := 54) rfl))) (by decide) (backOf (W := 0) (rm11 l Z a0 hw [] (0 : Int64) (own_minL ((i21.toInt64) + (((((i4.toUInt32 >>> ((3 : Int32) &&& 31).toUInt32).toInt32) &&& (7 : Int32)) - (4 : Int32)).toInt64)) (2147483646 : Int64)) T6.heap n0 (by rw [e6q]; exact Z0)) hZ (hw _ (List.mem_of_getElem? (i := 54) rfl)) (hw _ (List.mem_of_getElem? (i := 3) rfl)) (by decide) (by decide)) (g := (mkF m 247 #[s0, s1, s2, s3, .val (.int i4), s5, s6, s7, s8, s9, s10, s11, s12, s13, s14, s15, s16, s17, s18, s19, s20, .val (.int i21), .val (.long ((i21.toInt64) + (((((i4.toUInt32 >>> ((3 : Int32) &&& 31).toUInt32).toInt32) &&& (7 : Int32)) - (4 : Int32)).toInt64))), .second] [(.long (own_minL ((i21.toInt64) + (((((i4.toUInt32 >>> ((3 : Int32) &&& 31).toUInt32).toInt32) &&& (7 : Int32)) - (4 : Int32)).toInt64)) (2147483646 : Int64))), (.long (0 : Int64))])) rfl (by rw [hml]; rfl) (argsL := [(.long (0 : Int64)), (.long (own_minL ((i21.toInt64) + (((((i4.toUInt32 >>> ((3 : Int32) &&& 31).toUInt32).toInt32) &&& (7 : Int32)) - (4 : Int32)).toInt64)) (2147483646 : Int64)))]) (rest := []) (lenOf pd_0_2 rfl) rfl (by show 2 * 0 + _ ≤ _; exact Nat.le_of_eq rfl) (hb hby at_247) (fun _ _ => ⟨rfl, rfl, (by decide : 0 + 0 ≤ _), (by decide : 0 + 0 ≤ _)⟩)
  dsimp only [Pt.U, Pt.locs, Pt.cells, Pt.slots] at X7 l7 y7 z7 st7 hQ7
  subst l7 y7 z7
  obtain ⟨rfl, N7q, e7q⟩ := hQ7
  have N7 := Fr.app N6 N7q
  refine ⟨T7, _, X7, N7, e7q.trans e6q, fun target kt => ?_⟩
  show Steps p.tables e below (T0.setTop (mkF m 222 #[s0, s1, s2, s3, .val (.int i4), s5, s6, s7, s8, s9, s10, s11, s12, s13, s14, s15, s16, s17, s18, s19, s20, .val (.int i21), .unset, .unset] [])) _
  refine XS.iload X0.here hx rfl (hb hby at_222) rfl ?_
  show Steps p.tables e below (T0.setTop (mkF m 224 #[s0, s1, s2, s3, .val (.int i4), s5, s6, s7, s8, s9, s10, s11, s12, s13, s14, s15, s16, s17, s18, s19, s20, .val (.int i21), .unset, .unset] [(.int i21)])) _
  refine XS.i2l X0.here hx rfl (hb hby at_224) rfl ?_
  show Steps p.tables e below (T0.setTop (mkF m 225 #[s0, s1, s2, s3, .val (.int i4), s5, s6, s7, s8, s9, s10, s11, s12, s13, s14, s15, s16, s17, s18, s19, s20, .val (.int i21), .unset, .unset] [(.long (i21.toInt64))])) _
  refine XS.iload X0.here hx rfl (hb hby at_225) rfl ?_
  show Steps p.tables e below (T0.setTop (mkF m 227 #[s0, s1, s2, s3, .val (.int i4), s5, s6, s7, s8, s9, s10, s11, s12, s13, s14, s15, s16, s17, s18, s19, s20, .val (.int i21), .unset, .unset] [(.int i4), (.long (i21.toInt64))])) _
  refine XS.iconst X0.here hx rfl (hb hby at_227) ?_
  show Steps p.tables e below (T0.setTop (mkF m 228 #[s0, s1, s2, s3, .val (.int i4), s5, s6, s7, s8, s9, s10, s11, s12, s13, s14, s15, s16, s17, s18, s19, s20, .val (.int i21), .unset, .unset] [(.int (3 : Int32)), (.int i4), (.long (i21.toInt64))])) _
  refine XS.iushr X0.here hx rfl (hb hby at_228) rfl ?_
  show Steps p.tables e below (T0.setTop (mkF m 229 #[s0, s1, s2, s3, .val (.int i4), s5, s6, s7, s8, s9, s10, s11, s12, s13, s14, s15, s16, s17, s18, s19, s20, .val (.int i21), .unset, .unset] [(.int ((i4.toUInt32 >>> ((3 : Int32) &&& 31).toUInt32).toInt32)), (.long (i21.toInt64))])) _
  refine XS.bipush X0.here hx rfl (hb hby at_229) ?_
  show Steps p.tables e below (T0.setTop (mkF m 231 #[s0, s1, s2, s3, .val (.int i4), s5, s6, s7, s8, s9, s10, s11, s12, s13, s14, s15, s16, s17, s18, s19, s20, .val (.int i21), .unset, .unset] [(.int (7 : Int32)), (.int ((i4.toUInt32 >>> ((3 : Int32) &&& 31).toUInt32).toInt32)), (.long (i21.toInt64))])) _
  refine XS.iand X0.here hx rfl (hb hby at_231) rfl ?_
  show Steps p.tables e below (T0.setTop (mkF m 232 #[s0, s1, s2, s3, .val (.int i4), s5, s6, s7, s8, s9, s10, s11, s12, s13, s14, s15, s16, s17, s18, s19, s20, .val (.int i21), .unset, .unset] [(.int (((i4.toUInt32 >>> ((3 : Int32) &&& 31).toUInt32).toInt32) &&& (7 : Int32))), (.long (i21.toInt64))])) _
  refine XS.iconst X0.here hx rfl (hb hby at_232) ?_
  show Steps p.tables e below (T0.setTop (mkF m 233 #[s0, s1, s2, s3, .val (.int i4), s5, s6, s7, s8, s9, s10, s11, s12, s13, s14, s15, s16, s17, s18, s19, s20, .val (.int i21), .unset, .unset] [(.int (4 : Int32)), (.int (((i4.toUInt32 >>> ((3 : Int32) &&& 31).toUInt32).toInt32) &&& (7 : Int32))), (.long (i21.toInt64))])) _
  refine XS.isub X0.here hx rfl (hb hby at_233) rfl ?_
  show Steps p.tables e below (T0.setTop (mkF m 234 #[s0, s1, s2, s3, .val (.int i4), s5, s6, s7, s8, s9, s10, s11, s12, s13, s14, s15, s16, s17, s18, s19, s20, .val (.int i21), .unset, .unset] [(.int ((((i4.toUInt32 >>> ((3 : Int32) &&& 31).toUInt32).toInt32) &&& (7 : Int32)) - (4 : Int32))), (.long (i21.toInt64))])) _
  refine XS.i2l X0.here hx rfl (hb hby at_234) rfl ?_
  show Steps p.tables e below (T0.setTop (mkF m 235 #[s0, s1, s2, s3, .val (.int i4), s5, s6, s7, s8, s9, s10, s11, s12, s13, s14, s15, s16, s17, s18, s19, s20, .val (.int i21), .unset, .unset] [(.long (((((i4.toUInt32 >>> ((3 : Int32) &&& 31).toUInt32).toInt32) &&& (7 : Int32)) - (4 : Int32)).toInt64)), (.long (i21.toInt64))])) _
  refine XS.ladd X0.here hx rfl (hb hby at_235) rfl ?_
  show Steps p.tables e below (T0.setTop (mkF m 236 #[s0, s1, s2, s3, .val (.int i4), s5, s6, s7, s8, s9, s10, s11, s12, s13, s14, s15, s16, s17, s18, s19, s20, .val (.int i21), .unset, .unset] [(.long ((i21.toInt64) + (((((i4.toUInt32 >>> ((3 : Int32) &&& 31).toUInt32).toInt32) &&& (7 : Int32)) - (4 : Int32)).toInt64)))])) _
  refine XS.lstore X0.here hx rfl (hb hby at_236) rfl (l' := #[s0, s1, s2, s3, .val (.int i4), s5, s6, s7, s8, s9, s10, s11, s12, s13, s14, s15, s16, s17, s18, s19, s20, .val (.int i21), .val (.long ((i21.toInt64) + (((((i4.toUInt32 >>> ((3 : Int32) &&& 31).toUInt32).toInt32) &&& (7 : Int32)) - (4 : Int32)).toInt64))), .second]) rfl ?_
  show Steps p.tables e below (T0.setTop (mkF m 238 #[s0, s1, s2, s3, .val (.int i4), s5, s6, s7, s8, s9, s10, s11, s12, s13, s14, s15, s16, s17, s18, s19, s20, .val (.int i21), .val (.long ((i21.toInt64) + (((((i4.toUInt32 >>> ((3 : Int32) &&& 31).toUInt32).toInt32) &&& (7 : Int32)) - (4 : Int32)).toInt64))), .second] [])) _
  refine XS.lconst X0.here hx rfl (hb hby at_238) ?_
  show Steps p.tables e below (T0.setTop (mkF m 239 #[s0, s1, s2, s3, .val (.int i4), s5, s6, s7, s8, s9, s10, s11, s12, s13, s14, s15, s16, s17, s18, s19, s20, .val (.int i21), .val (.long ((i21.toInt64) + (((((i4.toUInt32 >>> ((3 : Int32) &&& 31).toUInt32).toInt32) &&& (7 : Int32)) - (4 : Int32)).toInt64))), .second] [(.long (0 : Int64))])) _
  refine XS.lload X0.here hx rfl (hb hby at_239) rfl ?_
  show Steps p.tables e below (T0.setTop (mkF m 241 #[s0, s1, s2, s3, .val (.int i4), s5, s6, s7, s8, s9, s10, s11, s12, s13, s14, s15, s16, s17, s18, s19, s20, .val (.int i21), .val (.long ((i21.toInt64) + (((((i4.toUInt32 >>> ((3 : Int32) &&& 31).toUInt32).toInt32) &&& (7 : Int32)) - (4 : Int32)).toInt64))), .second] [(.long ((i21.toInt64) + (((((i4.toUInt32 >>> ((3 : Int32) &&& 31).toUInt32).toInt32) &&& (7 : Int32)) - (4 : Int32)).toInt64))), (.long (0 : Int64))])) _
  refine X0.ldc2Long hx hown (mvT hZ (hw _ (List.mem_of_getElem? (i := 51) rfl))) (g := (mkF m 241 #[s0, s1, s2, s3, .val (.int i4), s5, s6, s7, s8, s9, s10, s11, s12, s13, s14, s15, s16, s17, s18, s19, s20, .val (.int i21), .val (.long ((i21.toInt64) + (((((i4.toUInt32 >>> ((3 : Int32) &&& 31).toUInt32).toInt32) &&& (7 : Int32)) - (4 : Int32)).toInt64))), .second] [(.long ((i21.toInt64) + (((((i4.toUInt32 >>> ((3 : Int32) &&& 31).toUInt32).toInt32) &&& (7 : Int32)) - (4 : Int32)).toInt64))), (.long (0 : Int64))])) rfl (hb hby at_241) _ ?_
  show Steps p.tables e below (T0.setTop (mkF m 244 #[s0, s1, s2, s3, .val (.int i4), s5, s6, s7, s8, s9, s10, s11, s12, s13, s14, s15, s16, s17, s18, s19, s20, .val (.int i21), .val (.long ((i21.toInt64) + (((((i4.toUInt32 >>> ((3 : Int32) &&& 31).toUInt32).toInt32) &&& (7 : Int32)) - (4 : Int32)).toInt64))), .second] [(.long (2147483646 : Int64)), (.long ((i21.toInt64) + (((((i4.toUInt32 >>> ((3 : Int32) &&& 31).toUInt32).toInt32) &&& (7 : Int32)) - (4 : Int32)).toInt64))), (.long (0 : Int64))])) _
  refine st6 _ ?_
  show Steps p.tables e below (T6.setTop (mkF m 247 #[s0, s1, s2, s3, .val (.int i4), s5, s6, s7, s8, s9, s10, s11, s12, s13, s14, s15, s16, s17, s18, s19, s20, .val (.int i21), .val (.long ((i21.toInt64) + (((((i4.toUInt32 >>> ((3 : Int32) &&& 31).toUInt32).toInt32) &&& (7 : Int32)) - (4 : Int32)).toInt64))), .second] [(.long (own_minL ((i21.toInt64) + (((((i4.toUInt32 >>> ((3 : Int32) &&& 31).toUInt32).toInt32) &&& (7 : Int32)) - (4 : Int32)).toInt64)) (2147483646 : Int64))), (.long (0 : Int64))])) _
  refine st7 _ ?_
  show Steps p.tables e below (T7.setTop (mkF m 250 #[s0, s1, s2, s3, .val (.int i4), s5, s6, s7, s8, s9, s10, s11, s12, s13, s14, s15, s16, s17, s18, s19, s20, .val (.int i21), .val (.long ((i21.toInt64) + (((((i4.toUInt32 >>> ((3 : Int32) &&& 31).toUInt32).toInt32) &&& (7 : Int32)) - (4 : Int32)).toInt64))), .second] [(.long (own_maxL (0 : Int64) (own_minL ((i21.toInt64) + (((((i4.toUInt32 >>> ((3 : Int32) &&& 31).toUInt32).toInt32) &&& (7 : Int32)) - (4 : Int32)).toInt64)) (2147483646 : Int64))))])) _
  refine XS.l2i X7.here hx rfl (hb hby at_250) rfl ?_
  show Steps p.tables e below (T7.setTop (mkF m 251 #[s0, s1, s2, s3, .val (.int i4), s5, s6, s7, s8, s9, s10, s11, s12, s13, s14, s15, s16, s17, s18, s19, s20, .val (.int i21), .val (.long ((i21.toInt64) + (((((i4.toUInt32 >>> ((3 : Int32) &&& 31).toUInt32).toInt32) &&& (7 : Int32)) - (4 : Int32)).toInt64))), .second] [(.int ((own_maxL (0 : Int64) (own_minL ((i21.toInt64) + (((((i4.toUInt32 >>> ((3 : Int32) &&& 31).toUInt32).toInt32) &&& (7 : Int32)) - (4 : Int32)).toInt64)) (2147483646 : Int64))).toInt32))])) _
  refine XS.istore X7.here hx rfl (hb hby at_251) rfl (l' := #[s0, s1, s2, s3, .val (.int i4), s5, s6, s7, s8, s9, s10, s11, s12, s13, s14, s15, s16, s17, s18, .val (.int ((own_maxL (0 : Int64) (own_minL ((i21.toInt64) + (((((i4.toUInt32 >>> ((3 : Int32) &&& 31).toUInt32).toInt32) &&& (7 : Int32)) - (4 : Int32)).toInt64)) (2147483646 : Int64))).toInt32)), s20, .val (.int i21), .val (.long ((i21.toInt64) + (((((i4.toUInt32 >>> ((3 : Int32) &&& 31).toUInt32).toInt32) &&& (7 : Int32)) - (4 : Int32)).toInt64))), .second]) (os_tn0_222_251 hs19) ?_
  exact kt
theorem pd_0_3 : parseMethodDescriptor "()V" = some ⟨[], none⟩ := by decide +kernel
theorem os_tn0_253_260 {s0 : Slot} {s1 : Slot} {s2 : Slot} {s3 : Slot} {s4 : Slot} {s5 : Slot} {s6 : Slot} {s7 : Slot} {s8 : Slot} {s9 : Slot} {s10 : Slot} {s11 : Slot} {s12 : Slot} {s13 : Slot} {s14 : Slot} {s15 : Slot} {s16 : Slot} {s17 : Slot} {s18 : Slot} {s19 : Slot} {s20 : Slot} {s21 : Slot} {s22 : Slot} {s23 : Slot} {v : Addr} (h : One s20) : storeLocals #[s0, s1, s2, s3, s4, s5, s6, s7, s8, s9, s10, s11, s12, s13, s14, s15, s16, s17, s18, s19, s20, s21, s22, s23] 20 (.ref v) = some #[s0, s1, s2, s3, s4, s5, s6, s7, s8, s9, s10, s11, s12, s13, s14, s15, s16, s17, s18, s19, .val (.ref v), s21, s22, s23] := by
  rcases h with rfl | ⟨w, rfl, hw⟩
  · rfl
  · cases w <;> first | rfl | (simp [Value.category] at hw)
set_option maxRecDepth 65536 in
set_option maxHeartbeats 40000000 in
theorem tn0_253 {p : Program} {l : Launch} {e : Env} {s : State} {m : MethodId} {args : Array Value} {below : List Frame} {meth : Method} {c : Code} {T0 : State} {locs : List Loc} {Z : State} {a0 : Array Value} {h0 : Heap} (s0 : Slot) (s1 : Slot) (s2 : Slot) (s3 : Slot) (s4 : Slot) (s5 : Slot) (s6 : Slot) (s7 : Slot) (s8 : Slot) (s9 : Slot) (s10 : Slot) (s11 : Slot) (s12 : Slot) (s13 : Slot) (s14 : Slot) (s15 : Slot) (s16 : Slot) (s17 : Slot) (s18 : Slot) (s19 : Slot) (s20 : Slot) (s21 : Slot) (s22 : Slot) (s23 : Slot)
    (X0 : Stand p l e room_1 s m args below meth c T0 locs 0 0) (hx : p.tables.exec = Jvm.exec) (hZ : Z.Warmed39 s.vm) (hw : ∀ d ∈ tables_1, d.before a0 Z = true) (hby : c.code = code) (hml : c.maxLocals = 24) (hown : s.vm.findClass "com/example/umbel/umbel/query/OccurrencesFirstUnusedAfterPinLaw" = some m.cls) (e0 : T0.heap = h0) (n0 : Nat) (Z0 : n0 ≤ h0.size) (N0 : Fr n0 locs) (hs20 : One s20) :
    ∃ (T' : State) (h' : Heap) (locs' : List Loc) (b6 ea ua : Addr), Stand p l e room_1 s m args below meth c T' locs' 3 19 ∧ Fr n0 locs' ∧ T'.heap = h' ∧ own_O Z h' n0 b6 ea ua (0 : Int32) (fun _ => 0) (fun _ => 0) ∧
      ∀ target, Steps p.tables e below (T'.setTop (mkF m 262 #[s0, s1, s2, s3, s4, s5, s6, s7, s8, s9, s10, s11, s12, s13, s14, s15, s16, s17, s18, s19, .val (.ref b6), s21, s22, s23] [])) target → Steps p.tables e below (T0.setTop (mkF m 253 #[s0, s1, s2, s3, s4, s5, s6, s7, s8, s9, s10, s11, s12, s13, s14, s15, s16, s17, s18, s19, s20, s21, s22, s23] [])) target := by
  obtain ⟨T6, h6, X6, e6, E6, A6, D6, -, st6⟩ := newO X0 hx hZ hown (hw _ (List.mem_of_getElem? (i := 18) rfl)) (hw _ (List.mem_of_getElem? (i := 19) rfl)) (hw _ (List.mem_of_getElem? (i := 20) rfl)) e0 (g := (mkF m 253 #[s0, s1, s2, s3, s4, s5, s6, s7, s8, s9, s10, s11, s12, s13, s14, s15, s16, s17, s18, s19, s20, s21, s22, s23] [])) rfl (hb hby at_253) (by decide) (by decide)
  obtain ⟨b6, g6⟩ : ∃ z, z = h0.size := ⟨_, rfl⟩
  rw [← g6] at A6 D6 st6
  have F_extents_b6 : Fld Z h6 b6 "com/example/umbel/umbel/query/Occurrences" "extents" "[J" .null := D6 (Or.inl (hw _ (List.mem_of_getElem? (i := 29) rfl))) (ty := (.array .long)) (by decide)
  have F_used_b6 : Fld Z h6 b6 "com/example/umbel/umbel/query/Occurrences" "used" "[Z" .null := D6 (Or.inl (hw _ (List.mem_of_getElem? (i := 32) rfl))) (ty := (.array .boolean)) (by decide)
  have F_size_b6 : Fld Z h6 b6 "com/example/umbel/umbel/query/Occurrences" "size" "I" (.int (0 : Int32)) := D6 (Or.inl (hw _ (List.mem_of_getElem? (i := 42) rfl))) (ty := .int) (by decide)
  have E_b6 := A6
  have g_b6 : n0 ≤ b6 := Nat.le_trans Z0 (Nat.le_of_eq g6.symm)
  have sz_b6 : h0.size ≤ b6 := (Nat.le_trans (Keep.refl h0 []).1 (Nat.le_of_eq g6.symm))
  have K6 : Keep h0 h6 [] := (Keep.refl h0 []).ext E6
  obtain ⟨_, _, ⟨T7, L7, k7, n7⟩, -, X7, ⟨Lc7, hQ7, l7, y7, z7⟩, st7⟩ := X6.specialBack hx (y := (⟨"com/example/umbel/umbel/query/Occurrences", "<init>", "()V"⟩ : MethodName)) rfl hown (mvT hZ (hw _ (List.mem_of_getElem? (i := 21) rfl))) (mvT hZ (hw _ (List.mem_of_getElem? (i := 22) rfl))) (mvT hZ (hw _ (List.mem_of_getElem? (i := 23) rfl))) (by decide) (backOf (W := 1) (rm5 l Z a0 hw [] b6 .null .null h6 n0 (Nat.le_trans Z0 E6.1) E_b6 F_extents_b6 g_b6 F_used_b6 F_size_b6) hZ (hw _ (List.mem_of_getElem? (i := 23) rfl)) (hw _ (List.mem_of_getElem? (i := 20) rfl)) (by decide) (by decide)) (g := (mkF m 257 #[s0, s1, s2, s3, s4, s5, s6, s7, s8, s9, s10, s11, s12, s13, s14, s15, s16, s17, s18, s19, s20, s21, s22, s23] [(.ref b6), (.ref b6)])) rfl (by rw [hml]; rfl) (Steps.refl _) (a := b6) (argsL := []) (rest := [(.ref b6)]) (lenOf pd_0_3 rfl) rfl (by show 2 * 0 + _ ≤ _; exact Nat.le_of_eq rfl) (hb hby at_257) (fun _ _ => ⟨rfl, e6, (by decide : 1 + 2 ≤ _), (by decide : 3 + 16 ≤ _)⟩)
  dsimp only [Pt.U, Pt.locs, Pt.cells, Pt.slots] at X7 l7 y7 z7 st7 hQ7
  subst l7 y7 z7
  obtain ⟨rfl, N7q, ea, ua, O⟩ := hQ7
  have N7 := Fr.app N0 N7q
  refine ⟨T7, _, _, b6, ea, ua, X7, N7, rfl, O, fun target kt => ?_⟩
  show Steps p.tables e below (T0.setTop (mkF m 253 #[s0, s1, s2, s3, s4, s5, s6, s7, s8, s9, s10, s11, s12, s13, s14, s15, s16, s17, s18, s19, s20, s21, s22, s23] [])) _
  refine st6 _ ?_
  show Steps p.tables e below (T6.setTop (mkF m 256 #[s0, s1, s2, s3, s4, s5, s6, s7, s8, s9, s10, s11, s12, s13, s14, s15, s16, s17, s18, s19, s20, s21, s22, s23] [(.ref b6)])) _
  refine XS.dup X6.here hx rfl (hb hby at_256) rfl rfl ?_
  show Steps p.tables e below (T6.setTop (mkF m 257 #[s0, s1, s2, s3, s4, s5, s6, s7, s8, s9, s10, s11, s12, s13, s14, s15, s16, s17, s18, s19, s20, s21, s22, s23] [(.ref b6), (.ref b6)])) _
  refine st7.trans ?_
  show Steps p.tables e below (T7.setTop (mkF m 260 #[s0, s1, s2, s3, s4, s5, s6, s7, s8, s9, s10, s11, s12, s13, s14, s15, s16, s17, s18, s19, s20, s21, s22, s23] [(.ref b6)])) _
  refine XS.astore X7.here hx rfl (hb hby at_260) rfl rfl (l' := #[s0, s1, s2, s3, s4, s5, s6, s7, s8, s9, s10, s11, s12, s13, s14, s15, s16, s17, s18, s19, .val (.ref b6), s21, s22, s23]) (os_tn0_253_260 hs20) ?_
  exact kt
set_option maxRecDepth 65536 in
set_option maxHeartbeats 40000000 in
theorem tn0_262_t {p : Program} {l : Launch} {e : Env} {s : State} {m : MethodId} {args : Array Value} {below : List Frame} {meth : Method} {c : Code} {T0 : State} {locs : List Loc} {Z : State} {a0 : Array Value} {h0 : Heap} (s0 : Slot) (s1 : Slot) (s2 : Slot) (s3 : Slot) (s4 : Slot) (s5 : Slot) (i6 : Int32) (s7 : Slot) (s8 : Slot) (s9 : Slot) (s10 : Slot) (s11 : Slot) (s12 : Slot) (s13 : Slot) (s14 : Slot) (s15 : Slot) (s16 : Slot) (s17 : Slot) (s18 : Slot) (s19 : Slot) (s20 : Slot) (s21 : Slot) (s22 : Slot) (s23 : Slot)
    (X0 : Stand p l e room_1 s m args below meth c T0 locs 3 19) (hx : p.tables.exec = Jvm.exec) (hZ : Z.Warmed39 s.vm) (hw : ∀ d ∈ tables_1, d.before a0 Z = true) (hby : c.code = code) (hml : c.maxLocals = 24) (hown : s.vm.findClass "com/example/umbel/umbel/query/OccurrencesFirstUnusedAfterPinLaw" = some m.cls) (e0 : T0.heap = h0) (n0 : Nat) (Z0 : n0 ≤ h0.size) (N0 : Fr n0 locs) (hc264 : ¬ ((0 : Int32) < i6)) :
    ∃ (T' : State) (locs' : List Loc), Stand p l e room_1 s m args below meth c T' locs' 3 19 ∧ Fr n0 locs' ∧ T'.heap = h0 ∧
      ∀ target, Steps p.tables e below (T'.setTop (mkF m 281 #[s0, s1, s2, s3, s4, s5, .val (.int i6), s7, s8, s9, s10, s11, s12, s13, s14, s15, s16, s17, s18, s19, s20, s21, s22, s23] [])) target → Steps p.tables e below (T0.setTop (mkF m 262 #[s0, s1, s2, s3, s4, s5, .val (.int i6), s7, s8, s9, s10, s11, s12, s13, s14, s15, s16, s17, s18, s19, s20, s21, s22, s23] [])) target := by
  refine ⟨T0, _, X0, N0, e0, fun target kt => ?_⟩
  show Steps p.tables e below (T0.setTop (mkF m 262 #[s0, s1, s2, s3, s4, s5, .val (.int i6), s7, s8, s9, s10, s11, s12, s13, s14, s15, s16, s17, s18, s19, s20, s21, s22, s23] [])) _
  refine XS.iload X0.here hx rfl (hb hby at_262) rfl ?_
  show Steps p.tables e below (T0.setTop (mkF m 264 #[s0, s1, s2, s3, s4, s5, .val (.int i6), s7, s8, s9, s10, s11, s12, s13, s14, s15, s16, s17, s18, s19, s20, s21, s22, s23] [(.int i6)])) _
  refine XS.ifYes X0.here hx rfl (pc0 := 264) (pc' := 281) rfl (hb hby at_264) rfl ((if0 _ _).trans (flt hc264).2.2.2) (by decide) (by decide) ?_
  exact kt
theorem pd_0_4 : parseMethodDescriptor "(II)V" = some ⟨[.int, .int], none⟩ := by decide +kernel
set_option maxRecDepth 65536 in
set_option maxHeartbeats 40000000 in
theorem tn0_262_f {p : Program} {l : Launch} {e : Env} {s : State} {m : MethodId} {args : Array Value} {below : List Frame} {meth : Method} {c : Code} {T0 : State} {locs : List Loc} {Z : State} {a0 : Array Value} {h0 : Heap} (s0 : Slot) (s1 : Slot) (s2 : Slot) (s3 : Slot) (s4 : Slot) (s5 : Slot) (i6 : Int32) (i7 : Int32) (s8 : Slot) (s9 : Slot) (s10 : Slot) (i11 : Int32) (s12 : Slot) (s13 : Slot) (s14 : Slot) (s15 : Slot) (s16 : Slot) (s17 : Slot) (s18 : Slot) (s19 : Slot) (o20 : Addr) (s21 : Slot) (s22 : Slot) (s23 : Slot)
    (X0 : Stand p l e room_1 s m args below meth c T0 locs 3 19) (hx : p.tables.exec = Jvm.exec) (hZ : Z.Warmed39 s.vm) (hw : ∀ d ∈ tables_1, d.before a0 Z = true) (hby : c.code = code) (hml : c.maxLocals = 24) (hown : s.vm.findClass "com/example/umbel/umbel/query/OccurrencesFirstUnusedAfterPinLaw" = some m.cls) (e0 : T0.heap = h0) (n0 : Nat) (Z0 : n0 ≤ h0.size) (N0 : Fr n0 locs) (E_o20 : Exa Z h0 o20 "com/example/umbel/umbel/query/Occurrences") (hc264 : (0 : Int32) < i6) (ea ua : Addr) (sz : Int32) (k : Nat) (E : Nat → Int64) (U : Nat → Int32) (O : own_O Z h0 n0 o20 ea ua sz E U) (hk : sz.toInt = (k : Int)) (hk8 : k < 8) (hbb : 0 ≤ i7.toInt) (hoo : 0 ≤ i11.toInt) :
    ∃ (T' : State) (h' : Heap) (locs' : List Loc) (r : Int32), Stand p l e room_1 s m args below meth c T' locs' 3 19 ∧ Fr n0 locs' ∧ T'.heap = h' ∧ 0 ≤ r.toInt ∧ own_O Z h' n0 o20 ea ua (sz + (1 : Int32)) (fun j => if j = k then own_ext i7 r else E j) U ∧
      ∀ target, Steps p.tables e below (T'.setTop (mkF m 281 #[s0, s1, s2, s3, s4, s5, .val (.int i6), .val (.int i7), s8, s9, s10, .val (.int i11), s12, s13, s14, s15, s16, s17, s18, s19, .val (.ref o20), s21, s22, s23] [])) target → Steps p.tables e below (T0.setTop (mkF m 262 #[s0, s1, s2, s3, s4, s5, .val (.int i6), .val (.int i7), s8, s9, s10, .val (.int i11), s12, s13, s14, s15, s16, s17, s18, s19, .val (.ref o20), s21, s22, s23] [])) target := by
  obtain ⟨_, _, ⟨T6, L6, k6, n6⟩, -, X6, ⟨Lc6, hQ6, l6, y6, z6⟩, st6⟩ := Jvm.LawKit.callS X0 hx (y := (⟨"com/example/umbel/umbel/query/OccurrencesFirstUnusedAfterPinLaw", "end", "(II)I"⟩ : MethodName)) hown (mvT hZ (hw _ (List.mem_of_getElem? (i := 33) rfl))) (mvT hZ (hw _ (List.mem_of_getElem? (i := 34) rfl))) (mvT hZ (hw _ (List.mem_of_getElem? (i := 7) rfl))) (mvT hZ (hw _ (List.mem_of_getElem? (i := 35) rfl))) (by decide) (backOf (W := 2) (rm7 l Z a0 hw [] i7 i11 h0 n0 Z0 hbb hoo) hZ (hw _ (List.mem_of_getElem? (i := 35) rfl)) (hw _ (List.mem_of_getElem? (i := 7) rfl)) (by decide) (by decide)) (g := (mkF m 275 #[s0, s1, s2, s3, s4, s5, .val (.int i6), .val (.int i7), s8, s9, s10, .val (.int i11), s12, s13, s14, s15, s16, s17, s18, s19, .val (.ref o20), s21, s22, s23] [(.int i11), (.int i7), (.int i7), (.ref o20)])) rfl (by rw [hml]; rfl) (argsL := [(.int i7), (.int i11)]) (rest := [(.int i7), (.ref o20)]) (lenOf pd_0_0 rfl) rfl (by show 2 * 0 + _ ≤ _; exact Nat.le_of_eq rfl) (hb hby at_275) (fun _ _ => ⟨rfl, e0, (by decide : 3 + 0 ≤ _), (by decide : 19 + 0 ≤ _)⟩)
  dsimp only [Pt.U, Pt.locs, Pt.cells, Pt.slots] at X6 l6 y6 z6 st6 hQ6
  subst l6 y6 z6
  obtain ⟨r, rfl, hr0, N6q, e6q⟩ := hQ6
  have N6 := Fr.app N0 N6q
  obtain ⟨cq7, kq7, q7a, q7b, q7c⟩ := isOf hZ e6q E_o20
  obtain ⟨_, _, ⟨T7, L7, k7, n7⟩, -, X7, ⟨Lc7, hQ7, l7, y7, z7⟩, st7⟩ := X6.virtualBack hx (y := (⟨"com/example/umbel/umbel/query/Occurrences", "add", "(II)V"⟩ : MethodName)) (z := (⟨"com/example/umbel/umbel/query/Occurrences", "add", "(II)V"⟩ : MethodName)) hown (mvT hZ (hw _ (List.mem_of_getElem? (i := 36) rfl))) (mvT hZ (hw _ (List.mem_of_getElem? (i := 37) rfl))) (notFace_of_selects (args := #[]) (mvT hZ (hw _ (List.mem_of_getElem? (i := 39) rfl)))) (mvT hZ (hw _ (List.mem_of_getElem? (i := 39) rfl))) (mvT hZ (hw _ (List.mem_of_getElem? (i := 38) rfl))) (by decide) (backOf (W := 0) (rm8 l Z a0 hw [] o20 i7 r ea ua sz k E U T6.heap n0 (by rw [e6q]; exact Z0) (by rw [e6q]; exact O) hk hk8) hZ (hw _ (List.mem_of_getElem? (i := 40) rfl)) (hw _ (List.mem_of_getElem? (i := 20) rfl)) (by decide) (by decide)) q7a q7c (g := (mkF m 278 #[s0, s1, s2, s3, s4, s5, .val (.int i6), .val (.int i7), s8, s9, s10, .val (.int i11), s12, s13, s14, s15, s16, s17, s18, s19, .val (.ref o20), s21, s22, s23] [(.int r), (.int i7), (.ref o20)])) rfl (by rw [hml]; rfl) (Steps.refl _) (argsL := [(.int i7), (.int r)]) (rest := []) (lenOf pd_0_4 rfl) rfl (by show 2 * 0 + _ ≤ _; exact Nat.le_of_eq rfl) (hb hby at_278) (fun _ _ => ⟨rfl, rfl, (by decide : 3 + 0 ≤ _), (by decide : 19 + 0 ≤ _)⟩)
  dsimp only [Pt.U, Pt.locs, Pt.cells, Pt.slots] at X7 l7 y7 z7 st7 hQ7
  subst l7 y7 z7
  obtain ⟨rfl, N7q, O7⟩ := hQ7
  have N7 := Fr.app N6 N7q
  refine ⟨T7, _, _, r, X7, N7, rfl, hr0, O7, fun target kt => ?_⟩
  show Steps p.tables e below (T0.setTop (mkF m 262 #[s0, s1, s2, s3, s4, s5, .val (.int i6), .val (.int i7), s8, s9, s10, .val (.int i11), s12, s13, s14, s15, s16, s17, s18, s19, .val (.ref o20), s21, s22, s23] [])) _
  refine XS.iload X0.here hx rfl (hb hby at_262) rfl ?_
  show Steps p.tables e below (T0.setTop (mkF m 264 #[s0, s1, s2, s3, s4, s5, .val (.int i6), .val (.int i7), s8, s9, s10, .val (.int i11), s12, s13, s14, s15, s16, s17, s18, s19, .val (.ref o20), s21, s22, s23] [(.int i6)])) _
  refine XS.ifNo X0.here hx rfl (hb hby at_264) rfl ((if0 _ _).trans (tlt hc264).2.2.2) ?_
  show Steps p.tables e below (T0.setTop (mkF m 267 #[s0, s1, s2, s3, s4, s5, .val (.int i6), .val (.int i7), s8, s9, s10, .val (.int i11), s12, s13, s14, s15, s16, s17, s18, s19, .val (.ref o20), s21, s22, s23] [])) _
  refine XS.aload X0.here hx rfl (hb hby at_267) rfl rfl ?_
  show Steps p.tables e below (T0.setTop (mkF m 269 #[s0, s1, s2, s3, s4, s5, .val (.int i6), .val (.int i7), s8, s9, s10, .val (.int i11), s12, s13, s14, s15, s16, s17, s18, s19, .val (.ref o20), s21, s22, s23] [(.ref o20)])) _
  refine XS.iload X0.here hx rfl (hb hby at_269) rfl ?_
  show Steps p.tables e below (T0.setTop (mkF m 271 #[s0, s1, s2, s3, s4, s5, .val (.int i6), .val (.int i7), s8, s9, s10, .val (.int i11), s12, s13, s14, s15, s16, s17, s18, s19, .val (.ref o20), s21, s22, s23] [(.int i7), (.ref o20)])) _
  refine XS.iload X0.here hx rfl (hb hby at_271) rfl ?_
  show Steps p.tables e below (T0.setTop (mkF m 273 #[s0, s1, s2, s3, s4, s5, .val (.int i6), .val (.int i7), s8, s9, s10, .val (.int i11), s12, s13, s14, s15, s16, s17, s18, s19, .val (.ref o20), s21, s22, s23] [(.int i7), (.int i7), (.ref o20)])) _
  refine XS.iload X0.here hx rfl (hb hby at_273) rfl ?_
  show Steps p.tables e below (T0.setTop (mkF m 275 #[s0, s1, s2, s3, s4, s5, .val (.int i6), .val (.int i7), s8, s9, s10, .val (.int i11), s12, s13, s14, s15, s16, s17, s18, s19, .val (.ref o20), s21, s22, s23] [(.int i11), (.int i7), (.int i7), (.ref o20)])) _
  refine st6 _ ?_
  show Steps p.tables e below (T6.setTop (mkF m 278 #[s0, s1, s2, s3, s4, s5, .val (.int i6), .val (.int i7), s8, s9, s10, .val (.int i11), s12, s13, s14, s15, s16, s17, s18, s19, .val (.ref o20), s21, s22, s23] [(.int r), (.int i7), (.ref o20)])) _
  refine st7.trans ?_
  exact kt
theorem add0 {p : Program} {l : Launch} {e : Env} {s : State} {m : MethodId} {args : Array Value} {below : List Frame} {meth : Method} {c : Code} {Z : State} {a0 : Array Value} {h0 : Heap} {T0 : State} {locs : List Loc} (s0 : Slot) (s1 : Slot) (s2 : Slot) (s3 : Slot) (s4 : Slot) (s5 : Slot) (i6 : Int32) (i7 : Int32) (s8 : Slot) (s9 : Slot) (s10 : Slot) (i11 : Int32) (s12 : Slot) (s13 : Slot) (s14 : Slot) (s15 : Slot) (s16 : Slot) (s17 : Slot) (s18 : Slot) (s19 : Slot) (o20 : Addr) (s21 : Slot) (s22 : Slot) (s23 : Slot)
    (X0 : Stand p l e room_1 s m args below meth c T0 locs 3 19) (hx : p.tables.exec = Jvm.exec) (hZ : Z.Warmed39 s.vm) (hw : ∀ d ∈ tables_1, d.before a0 Z = true) (hby : c.code = code) (hml : c.maxLocals = 24) (hown : s.vm.findClass "com/example/umbel/umbel/query/OccurrencesFirstUnusedAfterPinLaw" = some m.cls) (e0 : T0.heap = h0) (n0 : Nat) (Z0 : n0 ≤ h0.size) (N0 : Fr n0 locs) (ea ua : Addr) (sz : Int32) (E : Nat → Int64) (U : Nat → Int32) (O : own_O Z h0 n0 o20 ea ua sz E U) (N : Nat) (hN : i6.toInt = (N : Int)) (hsz : sz.toInt = ((min N 0 : Nat) : Int)) (hb : 0 ≤ i7.toInt) (ho : 0 ≤ i11.toInt) :
    ∃ (T' : State) (h' : Heap) (locs' : List Loc) (sz' : Int32) (E' : Nat → Int64), Stand p l e room_1 s m args below meth c T' locs' 3 19 ∧ Fr n0 locs' ∧ T'.heap = h' ∧ own_O Z h' n0 o20 ea ua sz' E' U ∧ sz'.toInt = ((min N (0 + 1) : Nat) : Int) ∧ (∀ j, j < 0 → E' j = E j) ∧ (0 < N → ∃ r : Int32, 0 ≤ r.toInt ∧ E' 0 = own_ext i7 r) ∧
      ∀ target, Steps p.tables e below (T'.setTop (mkF m 281 #[s0, s1, s2, s3, s4, s5, .val (.int i6), .val (.int i7), s8, s9, s10, .val (.int i11), s12, s13, s14, s15, s16, s17, s18, s19, .val (.ref o20), s21, s22, s23] [])) target → Steps p.tables e below (T0.setTop (mkF m 262 #[s0, s1, s2, s3, s4, s5, .val (.int i6), .val (.int i7), s8, s9, s10, .val (.int i11), s12, s13, s14, s15, s16, s17, s18, s19, .val (.ref o20), s21, s22, s23] [])) target := by
  have ek : (0 : Int32).toInt = 0 := by decide
  by_cases q : (0 : Int32) < i6
  · have q' := q
    rw [own_lt, ek] at q'
    obtain ⟨T1, h1, L1, r, X1, N1, e1, hr, O1, st1⟩ := tn0_262_f s0 s1 s2 s3 s4 s5 i6 i7 s8 s9 s10 i11 s12 s13 s14 s15 s16 s17 s18 s19 o20 s21 s22 s23 X0 hx hZ hw hby hml hown e0 n0 Z0 N0 O.1 q ea ua sz 0 E U O (by omega) (by omega) hb ho
    exact ⟨T1, h1, L1, _, _, X1, N1, e1, O1, by rw [own_add1 sz (by omega) (by omega)]; omega, fun j hj => if_neg (by omega), fun _ => ⟨r, hr, if_pos rfl⟩, st1⟩
  · have q' := q
    rw [own_lt, ek] at q'
    obtain ⟨T1, L1, X1, N1, e1, st1⟩ := tn0_262_t s0 s1 s2 s3 s4 s5 i6 (.val (.int i7)) s8 s9 s10 (.val (.int i11)) s12 s13 s14 s15 s16 s17 s18 s19 (.val (.ref o20)) s21 s22 s23 X0 hx hZ hw hby hml hown e0 n0 Z0 N0 q
    exact ⟨T1, h0, L1, sz, E, X1, N1, e1, O, by omega, fun j hj => rfl, fun h => absurd h (by omega), st1⟩
set_option maxRecDepth 65536 in
set_option maxHeartbeats 40000000 in
theorem tn0_281_t {p : Program} {l : Launch} {e : Env} {s : State} {m : MethodId} {args : Array Value} {below : List Frame} {meth : Method} {c : Code} {T0 : State} {locs : List Loc} {Z : State} {a0 : Array Value} {h0 : Heap} (s0 : Slot) (s1 : Slot) (s2 : Slot) (s3 : Slot) (s4 : Slot) (s5 : Slot) (i6 : Int32) (s7 : Slot) (s8 : Slot) (s9 : Slot) (s10 : Slot) (s11 : Slot) (s12 : Slot) (s13 : Slot) (s14 : Slot) (s15 : Slot) (s16 : Slot) (s17 : Slot) (s18 : Slot) (s19 : Slot) (s20 : Slot) (s21 : Slot) (s22 : Slot) (s23 : Slot)
    (X0 : Stand p l e room_1 s m args below meth c T0 locs 3 19) (hx : p.tables.exec = Jvm.exec) (hZ : Z.Warmed39 s.vm) (hw : ∀ d ∈ tables_1, d.before a0 Z = true) (hby : c.code = code) (hml : c.maxLocals = 24) (hown : s.vm.findClass "com/example/umbel/umbel/query/OccurrencesFirstUnusedAfterPinLaw" = some m.cls) (e0 : T0.heap = h0) (n0 : Nat) (Z0 : n0 ≤ h0.size) (N0 : Fr n0 locs) (hc284 : ¬ ((1 : Int32) < i6)) :
    ∃ (T' : State) (locs' : List Loc), Stand p l e room_1 s m args below meth c T' locs' 3 19 ∧ Fr n0 locs' ∧ T'.heap = h0 ∧
      ∀ target, Steps p.tables e below (T'.setTop (mkF m 301 #[s0, s1, s2, s3, s4, s5, .val (.int i6), s7, s8, s9, s10, s11, s12, s13, s14, s15, s16, s17, s18, s19, s20, s21, s22, s23] [])) target → Steps p.tables e below (T0.setTop (mkF m 281 #[s0, s1, s2, s3, s4, s5, .val (.int i6), s7, s8, s9, s10, s11, s12, s13, s14, s15, s16, s17, s18, s19, s20, s21, s22, s23] [])) target := by
  refine ⟨T0, _, X0, N0, e0, fun target kt => ?_⟩
  show Steps p.tables e below (T0.setTop (mkF m 281 #[s0, s1, s2, s3, s4, s5, .val (.int i6), s7, s8, s9, s10, s11, s12, s13, s14, s15, s16, s17, s18, s19, s20, s21, s22, s23] [])) _
  refine XS.iload X0.here hx rfl (hb hby at_281) rfl ?_
  show Steps p.tables e below (T0.setTop (mkF m 283 #[s0, s1, s2, s3, s4, s5, .val (.int i6), s7, s8, s9, s10, s11, s12, s13, s14, s15, s16, s17, s18, s19, s20, s21, s22, s23] [(.int i6)])) _
  refine XS.iconst X0.here hx rfl (hb hby at_283) ?_
  show Steps p.tables e below (T0.setTop (mkF m 284 #[s0, s1, s2, s3, s4, s5, .val (.int i6), s7, s8, s9, s10, s11, s12, s13, s14, s15, s16, s17, s18, s19, s20, s21, s22, s23] [(.int (1 : Int32)), (.int i6)])) _
  refine XS.icmpYes X0.here hx rfl (pc0 := 284) (pc' := 301) rfl (hb hby at_284) rfl (flt hc284).2.2.2 (by decide) (by decide) ?_
  exact kt
set_option maxRecDepth 65536 in
set_option maxHeartbeats 40000000 in
theorem tn0_281_f {p : Program} {l : Launch} {e : Env} {s : State} {m : MethodId} {args : Array Value} {below : List Frame} {meth : Method} {c : Code} {T0 : State} {locs : List Loc} {Z : State} {a0 : Array Value} {h0 : Heap} (s0 : Slot) (s1 : Slot) (s2 : Slot) (s3 : Slot) (s4 : Slot) (s5 : Slot) (i6 : Int32) (s7 : Slot) (i8 : Int32) (s9 : Slot) (s10 : Slot) (s11 : Slot) (i12 : Int32) (s13 : Slot) (s14 : Slot) (s15 : Slot) (s16 : Slot) (s17 : Slot) (s18 : Slot) (s19 : Slot) (o20 : Addr) (s21 : Slot) (s22 : Slot) (s23 : Slot)
    (X0 : Stand p l e room_1 s m args below meth c T0 locs 3 19) (hx : p.tables.exec = Jvm.exec) (hZ : Z.Warmed39 s.vm) (hw : ∀ d ∈ tables_1, d.before a0 Z = true) (hby : c.code = code) (hml : c.maxLocals = 24) (hown : s.vm.findClass "com/example/umbel/umbel/query/OccurrencesFirstUnusedAfterPinLaw" = some m.cls) (e0 : T0.heap = h0) (n0 : Nat) (Z0 : n0 ≤ h0.size) (N0 : Fr n0 locs) (E_o20 : Exa Z h0 o20 "com/example/umbel/umbel/query/Occurrences") (hc284 : (1 : Int32) < i6) (ea ua : Addr) (sz : Int32) (k : Nat) (E : Nat → Int64) (U : Nat → Int32) (O : own_O Z h0 n0 o20 ea ua sz E U) (hk : sz.toInt = (k : Int)) (hk8 : k < 8) (hbb : 0 ≤ i8.toInt) (hoo : 0 ≤ i12.toInt) :
    ∃ (T' : State) (h' : Heap) (locs' : List Loc) (r : Int32), Stand p l e room_1 s m args below meth c T' locs' 3 19 ∧ Fr n0 locs' ∧ T'.heap = h' ∧ 0 ≤ r.toInt ∧ own_O Z h' n0 o20 ea ua (sz + (1 : Int32)) (fun j => if j = k then own_ext i8 r else E j) U ∧
      ∀ target, Steps p.tables e below (T'.setTop (mkF m 301 #[s0, s1, s2, s3, s4, s5, .val (.int i6), s7, .val (.int i8), s9, s10, s11, .val (.int i12), s13, s14, s15, s16, s17, s18, s19, .val (.ref o20), s21, s22, s23] [])) target → Steps p.tables e below (T0.setTop (mkF m 281 #[s0, s1, s2, s3, s4, s5, .val (.int i6), s7, .val (.int i8), s9, s10, s11, .val (.int i12), s13, s14, s15, s16, s17, s18, s19, .val (.ref o20), s21, s22, s23] [])) target := by
  obtain ⟨_, _, ⟨T6, L6, k6, n6⟩, -, X6, ⟨Lc6, hQ6, l6, y6, z6⟩, st6⟩ := Jvm.LawKit.callS X0 hx (y := (⟨"com/example/umbel/umbel/query/OccurrencesFirstUnusedAfterPinLaw", "end", "(II)I"⟩ : MethodName)) hown (mvT hZ (hw _ (List.mem_of_getElem? (i := 33) rfl))) (mvT hZ (hw _ (List.mem_of_getElem? (i := 34) rfl))) (mvT hZ (hw _ (List.mem_of_getElem? (i := 7) rfl))) (mvT hZ (hw _ (List.mem_of_getElem? (i := 35) rfl))) (by decide) (backOf (W := 2) (rm7 l Z a0 hw [] i8 i12 h0 n0 Z0 hbb hoo) hZ (hw _ (List.mem_of_getElem? (i := 35) rfl)) (hw _ (List.mem_of_getElem? (i := 7) rfl)) (by decide) (by decide)) (g := (mkF m 295 #[s0, s1, s2, s3, s4, s5, .val (.int i6), s7, .val (.int i8), s9, s10, s11, .val (.int i12), s13, s14, s15, s16, s17, s18, s19, .val (.ref o20), s21, s22, s23] [(.int i12), (.int i8), (.int i8), (.ref o20)])) rfl (by rw [hml]; rfl) (argsL := [(.int i8), (.int i12)]) (rest := [(.int i8), (.ref o20)]) (lenOf pd_0_0 rfl) rfl (by show 2 * 0 + _ ≤ _; exact Nat.le_of_eq rfl) (hb hby at_295) (fun _ _ => ⟨rfl, e0, (by decide : 3 + 0 ≤ _), (by decide : 19 + 0 ≤ _)⟩)
  dsimp only [Pt.U, Pt.locs, Pt.cells, Pt.slots] at X6 l6 y6 z6 st6 hQ6
  subst l6 y6 z6
  obtain ⟨r, rfl, hr0, N6q, e6q⟩ := hQ6
  have N6 := Fr.app N0 N6q
  obtain ⟨cq7, kq7, q7a, q7b, q7c⟩ := isOf hZ e6q E_o20
  obtain ⟨_, _, ⟨T7, L7, k7, n7⟩, -, X7, ⟨Lc7, hQ7, l7, y7, z7⟩, st7⟩ := X6.virtualBack hx (y := (⟨"com/example/umbel/umbel/query/Occurrences", "add", "(II)V"⟩ : MethodName)) (z := (⟨"com/example/umbel/umbel/query/Occurrences", "add", "(II)V"⟩ : MethodName)) hown (mvT hZ (hw _ (List.mem_of_getElem? (i := 36) rfl))) (mvT hZ (hw _ (List.mem_of_getElem? (i := 37) rfl))) (notFace_of_selects (args := #[]) (mvT hZ (hw _ (List.mem_of_getElem? (i := 39) rfl)))) (mvT hZ (hw _ (List.mem_of_getElem? (i := 39) rfl))) (mvT hZ (hw _ (List.mem_of_getElem? (i := 38) rfl))) (by decide) (backOf (W := 0) (rm8 l Z a0 hw [] o20 i8 r ea ua sz k E U T6.heap n0 (by rw [e6q]; exact Z0) (by rw [e6q]; exact O) hk hk8) hZ (hw _ (List.mem_of_getElem? (i := 40) rfl)) (hw _ (List.mem_of_getElem? (i := 20) rfl)) (by decide) (by decide)) q7a q7c (g := (mkF m 298 #[s0, s1, s2, s3, s4, s5, .val (.int i6), s7, .val (.int i8), s9, s10, s11, .val (.int i12), s13, s14, s15, s16, s17, s18, s19, .val (.ref o20), s21, s22, s23] [(.int r), (.int i8), (.ref o20)])) rfl (by rw [hml]; rfl) (Steps.refl _) (argsL := [(.int i8), (.int r)]) (rest := []) (lenOf pd_0_4 rfl) rfl (by show 2 * 0 + _ ≤ _; exact Nat.le_of_eq rfl) (hb hby at_298) (fun _ _ => ⟨rfl, rfl, (by decide : 3 + 0 ≤ _), (by decide : 19 + 0 ≤ _)⟩)
  dsimp only [Pt.U, Pt.locs, Pt.cells, Pt.slots] at X7 l7 y7 z7 st7 hQ7
  subst l7 y7 z7
  obtain ⟨rfl, N7q, O7⟩ := hQ7
  have N7 := Fr.app N6 N7q
  refine ⟨T7, _, _, r, X7, N7, rfl, hr0, O7, fun target kt => ?_⟩
  show Steps p.tables e below (T0.setTop (mkF m 281 #[s0, s1, s2, s3, s4, s5, .val (.int i6), s7, .val (.int i8), s9, s10, s11, .val (.int i12), s13, s14, s15, s16, s17, s18, s19, .val (.ref o20), s21, s22, s23] [])) _
  refine XS.iload X0.here hx rfl (hb hby at_281) rfl ?_
  show Steps p.tables e below (T0.setTop (mkF m 283 #[s0, s1, s2, s3, s4, s5, .val (.int i6), s7, .val (.int i8), s9, s10, s11, .val (.int i12), s13, s14, s15, s16, s17, s18, s19, .val (.ref o20), s21, s22, s23] [(.int i6)])) _
  refine XS.iconst X0.here hx rfl (hb hby at_283) ?_
  show Steps p.tables e below (T0.setTop (mkF m 284 #[s0, s1, s2, s3, s4, s5, .val (.int i6), s7, .val (.int i8), s9, s10, s11, .val (.int i12), s13, s14, s15, s16, s17, s18, s19, .val (.ref o20), s21, s22, s23] [(.int (1 : Int32)), (.int i6)])) _
  refine XS.icmpNo X0.here hx rfl (hb hby at_284) rfl (tlt hc284).2.2.2 ?_
  show Steps p.tables e below (T0.setTop (mkF m 287 #[s0, s1, s2, s3, s4, s5, .val (.int i6), s7, .val (.int i8), s9, s10, s11, .val (.int i12), s13, s14, s15, s16, s17, s18, s19, .val (.ref o20), s21, s22, s23] [])) _
  refine XS.aload X0.here hx rfl (hb hby at_287) rfl rfl ?_
  show Steps p.tables e below (T0.setTop (mkF m 289 #[s0, s1, s2, s3, s4, s5, .val (.int i6), s7, .val (.int i8), s9, s10, s11, .val (.int i12), s13, s14, s15, s16, s17, s18, s19, .val (.ref o20), s21, s22, s23] [(.ref o20)])) _
  refine XS.iload X0.here hx rfl (hb hby at_289) rfl ?_
  show Steps p.tables e below (T0.setTop (mkF m 291 #[s0, s1, s2, s3, s4, s5, .val (.int i6), s7, .val (.int i8), s9, s10, s11, .val (.int i12), s13, s14, s15, s16, s17, s18, s19, .val (.ref o20), s21, s22, s23] [(.int i8), (.ref o20)])) _
  refine XS.iload X0.here hx rfl (hb hby at_291) rfl ?_
  show Steps p.tables e below (T0.setTop (mkF m 293 #[s0, s1, s2, s3, s4, s5, .val (.int i6), s7, .val (.int i8), s9, s10, s11, .val (.int i12), s13, s14, s15, s16, s17, s18, s19, .val (.ref o20), s21, s22, s23] [(.int i8), (.int i8), (.ref o20)])) _
  refine XS.iload X0.here hx rfl (hb hby at_293) rfl ?_
  show Steps p.tables e below (T0.setTop (mkF m 295 #[s0, s1, s2, s3, s4, s5, .val (.int i6), s7, .val (.int i8), s9, s10, s11, .val (.int i12), s13, s14, s15, s16, s17, s18, s19, .val (.ref o20), s21, s22, s23] [(.int i12), (.int i8), (.int i8), (.ref o20)])) _
  refine st6 _ ?_
  show Steps p.tables e below (T6.setTop (mkF m 298 #[s0, s1, s2, s3, s4, s5, .val (.int i6), s7, .val (.int i8), s9, s10, s11, .val (.int i12), s13, s14, s15, s16, s17, s18, s19, .val (.ref o20), s21, s22, s23] [(.int r), (.int i8), (.ref o20)])) _
  refine st7.trans ?_
  exact kt
theorem add1 {p : Program} {l : Launch} {e : Env} {s : State} {m : MethodId} {args : Array Value} {below : List Frame} {meth : Method} {c : Code} {Z : State} {a0 : Array Value} {h0 : Heap} {T0 : State} {locs : List Loc} (s0 : Slot) (s1 : Slot) (s2 : Slot) (s3 : Slot) (s4 : Slot) (s5 : Slot) (i6 : Int32) (s7 : Slot) (i8 : Int32) (s9 : Slot) (s10 : Slot) (s11 : Slot) (i12 : Int32) (s13 : Slot) (s14 : Slot) (s15 : Slot) (s16 : Slot) (s17 : Slot) (s18 : Slot) (s19 : Slot) (o20 : Addr) (s21 : Slot) (s22 : Slot) (s23 : Slot)
    (X0 : Stand p l e room_1 s m args below meth c T0 locs 3 19) (hx : p.tables.exec = Jvm.exec) (hZ : Z.Warmed39 s.vm) (hw : ∀ d ∈ tables_1, d.before a0 Z = true) (hby : c.code = code) (hml : c.maxLocals = 24) (hown : s.vm.findClass "com/example/umbel/umbel/query/OccurrencesFirstUnusedAfterPinLaw" = some m.cls) (e0 : T0.heap = h0) (n0 : Nat) (Z0 : n0 ≤ h0.size) (N0 : Fr n0 locs) (ea ua : Addr) (sz : Int32) (E : Nat → Int64) (U : Nat → Int32) (O : own_O Z h0 n0 o20 ea ua sz E U) (N : Nat) (hN : i6.toInt = (N : Int)) (hsz : sz.toInt = ((min N 1 : Nat) : Int)) (hb : 0 ≤ i8.toInt) (ho : 0 ≤ i12.toInt) :
    ∃ (T' : State) (h' : Heap) (locs' : List Loc) (sz' : Int32) (E' : Nat → Int64), Stand p l e room_1 s m args below meth c T' locs' 3 19 ∧ Fr n0 locs' ∧ T'.heap = h' ∧ own_O Z h' n0 o20 ea ua sz' E' U ∧ sz'.toInt = ((min N (1 + 1) : Nat) : Int) ∧ (∀ j, j < 1 → E' j = E j) ∧ (1 < N → ∃ r : Int32, 0 ≤ r.toInt ∧ E' 1 = own_ext i8 r) ∧
      ∀ target, Steps p.tables e below (T'.setTop (mkF m 301 #[s0, s1, s2, s3, s4, s5, .val (.int i6), s7, .val (.int i8), s9, s10, s11, .val (.int i12), s13, s14, s15, s16, s17, s18, s19, .val (.ref o20), s21, s22, s23] [])) target → Steps p.tables e below (T0.setTop (mkF m 281 #[s0, s1, s2, s3, s4, s5, .val (.int i6), s7, .val (.int i8), s9, s10, s11, .val (.int i12), s13, s14, s15, s16, s17, s18, s19, .val (.ref o20), s21, s22, s23] [])) target := by
  have ek : (1 : Int32).toInt = 1 := by decide
  by_cases q : (1 : Int32) < i6
  · have q' := q
    rw [own_lt, ek] at q'
    obtain ⟨T1, h1, L1, r, X1, N1, e1, hr, O1, st1⟩ := tn0_281_f s0 s1 s2 s3 s4 s5 i6 s7 i8 s9 s10 s11 i12 s13 s14 s15 s16 s17 s18 s19 o20 s21 s22 s23 X0 hx hZ hw hby hml hown e0 n0 Z0 N0 O.1 q ea ua sz 1 E U O (by omega) (by omega) hb ho
    exact ⟨T1, h1, L1, _, _, X1, N1, e1, O1, by rw [own_add1 sz (by omega) (by omega)]; omega, fun j hj => if_neg (by omega), fun _ => ⟨r, hr, if_pos rfl⟩, st1⟩
  · have q' := q
    rw [own_lt, ek] at q'
    obtain ⟨T1, L1, X1, N1, e1, st1⟩ := tn0_281_t s0 s1 s2 s3 s4 s5 i6 s7 (.val (.int i8)) s9 s10 s11 (.val (.int i12)) s13 s14 s15 s16 s17 s18 s19 (.val (.ref o20)) s21 s22 s23 X0 hx hZ hw hby hml hown e0 n0 Z0 N0 q
    exact ⟨T1, h0, L1, sz, E, X1, N1, e1, O, by omega, fun j hj => rfl, fun h => absurd h (by omega), st1⟩
set_option maxRecDepth 65536 in
set_option maxHeartbeats 40000000 in
theorem tn0_301_t {p : Program} {l : Launch} {e : Env} {s : State} {m : MethodId} {args : Array Value} {below : List Frame} {meth : Method} {c : Code} {T0 : State} {locs : List Loc} {Z : State} {a0 : Array Value} {h0 : Heap} (s0 : Slot) (s1 : Slot) (s2 : Slot) (s3 : Slot) (s4 : Slot) (s5 : Slot) (i6 : Int32) (s7 : Slot) (s8 : Slot) (s9 : Slot) (s10 : Slot) (s11 : Slot) (s12 : Slot) (s13 : Slot) (s14 : Slot) (s15 : Slot) (s16 : Slot) (s17 : Slot) (s18 : Slot) (s19 : Slot) (s20 : Slot) (s21 : Slot) (s22 : Slot) (s23 : Slot)
    (X0 : Stand p l e room_1 s m args below meth c T0 locs 3 19) (hx : p.tables.exec = Jvm.exec) (hZ : Z.Warmed39 s.vm) (hw : ∀ d ∈ tables_1, d.before a0 Z = true) (hby : c.code = code) (hml : c.maxLocals = 24) (hown : s.vm.findClass "com/example/umbel/umbel/query/OccurrencesFirstUnusedAfterPinLaw" = some m.cls) (e0 : T0.heap = h0) (n0 : Nat) (Z0 : n0 ≤ h0.size) (N0 : Fr n0 locs) (hc304 : ¬ ((2 : Int32) < i6)) :
    ∃ (T' : State) (locs' : List Loc), Stand p l e room_1 s m args below meth c T' locs' 3 19 ∧ Fr n0 locs' ∧ T'.heap = h0 ∧
      ∀ target, Steps p.tables e below (T'.setTop (mkF m 321 #[s0, s1, s2, s3, s4, s5, .val (.int i6), s7, s8, s9, s10, s11, s12, s13, s14, s15, s16, s17, s18, s19, s20, s21, s22, s23] [])) target → Steps p.tables e below (T0.setTop (mkF m 301 #[s0, s1, s2, s3, s4, s5, .val (.int i6), s7, s8, s9, s10, s11, s12, s13, s14, s15, s16, s17, s18, s19, s20, s21, s22, s23] [])) target := by
  refine ⟨T0, _, X0, N0, e0, fun target kt => ?_⟩
  show Steps p.tables e below (T0.setTop (mkF m 301 #[s0, s1, s2, s3, s4, s5, .val (.int i6), s7, s8, s9, s10, s11, s12, s13, s14, s15, s16, s17, s18, s19, s20, s21, s22, s23] [])) _
  refine XS.iload X0.here hx rfl (hb hby at_301) rfl ?_
  show Steps p.tables e below (T0.setTop (mkF m 303 #[s0, s1, s2, s3, s4, s5, .val (.int i6), s7, s8, s9, s10, s11, s12, s13, s14, s15, s16, s17, s18, s19, s20, s21, s22, s23] [(.int i6)])) _
  refine XS.iconst X0.here hx rfl (hb hby at_303) ?_
  show Steps p.tables e below (T0.setTop (mkF m 304 #[s0, s1, s2, s3, s4, s5, .val (.int i6), s7, s8, s9, s10, s11, s12, s13, s14, s15, s16, s17, s18, s19, s20, s21, s22, s23] [(.int (2 : Int32)), (.int i6)])) _
  refine XS.icmpYes X0.here hx rfl (pc0 := 304) (pc' := 321) rfl (hb hby at_304) rfl (flt hc304).2.2.2 (by decide) (by decide) ?_
  exact kt
set_option maxRecDepth 65536 in
set_option maxHeartbeats 40000000 in
theorem tn0_301_f {p : Program} {l : Launch} {e : Env} {s : State} {m : MethodId} {args : Array Value} {below : List Frame} {meth : Method} {c : Code} {T0 : State} {locs : List Loc} {Z : State} {a0 : Array Value} {h0 : Heap} (s0 : Slot) (s1 : Slot) (s2 : Slot) (s3 : Slot) (s4 : Slot) (s5 : Slot) (i6 : Int32) (s7 : Slot) (s8 : Slot) (i9 : Int32) (s10 : Slot) (s11 : Slot) (s12 : Slot) (i13 : Int32) (s14 : Slot) (s15 : Slot) (s16 : Slot) (s17 : Slot) (s18 : Slot) (s19 : Slot) (o20 : Addr) (s21 : Slot) (s22 : Slot) (s23 : Slot)
    (X0 : Stand p l e room_1 s m args below meth c T0 locs 3 19) (hx : p.tables.exec = Jvm.exec) (hZ : Z.Warmed39 s.vm) (hw : ∀ d ∈ tables_1, d.before a0 Z = true) (hby : c.code = code) (hml : c.maxLocals = 24) (hown : s.vm.findClass "com/example/umbel/umbel/query/OccurrencesFirstUnusedAfterPinLaw" = some m.cls) (e0 : T0.heap = h0) (n0 : Nat) (Z0 : n0 ≤ h0.size) (N0 : Fr n0 locs) (E_o20 : Exa Z h0 o20 "com/example/umbel/umbel/query/Occurrences") (hc304 : (2 : Int32) < i6) (ea ua : Addr) (sz : Int32) (k : Nat) (E : Nat → Int64) (U : Nat → Int32) (O : own_O Z h0 n0 o20 ea ua sz E U) (hk : sz.toInt = (k : Int)) (hk8 : k < 8) (hbb : 0 ≤ i9.toInt) (hoo : 0 ≤ i13.toInt) :
    ∃ (T' : State) (h' : Heap) (locs' : List Loc) (r : Int32), Stand p l e room_1 s m args below meth c T' locs' 3 19 ∧ Fr n0 locs' ∧ T'.heap = h' ∧ 0 ≤ r.toInt ∧ own_O Z h' n0 o20 ea ua (sz + (1 : Int32)) (fun j => if j = k then own_ext i9 r else E j) U ∧
      ∀ target, Steps p.tables e below (T'.setTop (mkF m 321 #[s0, s1, s2, s3, s4, s5, .val (.int i6), s7, s8, .val (.int i9), s10, s11, s12, .val (.int i13), s14, s15, s16, s17, s18, s19, .val (.ref o20), s21, s22, s23] [])) target → Steps p.tables e below (T0.setTop (mkF m 301 #[s0, s1, s2, s3, s4, s5, .val (.int i6), s7, s8, .val (.int i9), s10, s11, s12, .val (.int i13), s14, s15, s16, s17, s18, s19, .val (.ref o20), s21, s22, s23] [])) target := by
  obtain ⟨_, _, ⟨T6, L6, k6, n6⟩, -, X6, ⟨Lc6, hQ6, l6, y6, z6⟩, st6⟩ := Jvm.LawKit.callS X0 hx (y := (⟨"com/example/umbel/umbel/query/OccurrencesFirstUnusedAfterPinLaw", "end", "(II)I"⟩ : MethodName)) hown (mvT hZ (hw _ (List.mem_of_getElem? (i := 33) rfl))) (mvT hZ (hw _ (List.mem_of_getElem? (i := 34) rfl))) (mvT hZ (hw _ (List.mem_of_getElem? (i := 7) rfl))) (mvT hZ (hw _ (List.mem_of_getElem? (i := 35) rfl))) (by decide) (backOf (W := 2) (rm7 l Z a0 hw [] i9 i13 h0 n0 Z0 hbb hoo) hZ (hw _ (List.mem_of_getElem? (i := 35) rfl)) (hw _ (List.mem_of_getElem? (i := 7) rfl)) (by decide) (by decide)) (g := (mkF m 315 #[s0, s1, s2, s3, s4, s5, .val (.int i6), s7, s8, .val (.int i9), s10, s11, s12, .val (.int i13), s14, s15, s16, s17, s18, s19, .val (.ref o20), s21, s22, s23] [(.int i13), (.int i9), (.int i9), (.ref o20)])) rfl (by rw [hml]; rfl) (argsL := [(.int i9), (.int i13)]) (rest := [(.int i9), (.ref o20)]) (lenOf pd_0_0 rfl) rfl (by show 2 * 0 + _ ≤ _; exact Nat.le_of_eq rfl) (hb hby at_315) (fun _ _ => ⟨rfl, e0, (by decide : 3 + 0 ≤ _), (by decide : 19 + 0 ≤ _)⟩)
  dsimp only [Pt.U, Pt.locs, Pt.cells, Pt.slots] at X6 l6 y6 z6 st6 hQ6
  subst l6 y6 z6
  obtain ⟨r, rfl, hr0, N6q, e6q⟩ := hQ6
  have N6 := Fr.app N0 N6q
  obtain ⟨cq7, kq7, q7a, q7b, q7c⟩ := isOf hZ e6q E_o20
  obtain ⟨_, _, ⟨T7, L7, k7, n7⟩, -, X7, ⟨Lc7, hQ7, l7, y7, z7⟩, st7⟩ := X6.virtualBack hx (y := (⟨"com/example/umbel/umbel/query/Occurrences", "add", "(II)V"⟩ : MethodName)) (z := (⟨"com/example/umbel/umbel/query/Occurrences", "add", "(II)V"⟩ : MethodName)) hown (mvT hZ (hw _ (List.mem_of_getElem? (i := 36) rfl))) (mvT hZ (hw _ (List.mem_of_getElem? (i := 37) rfl))) (notFace_of_selects (args := #[]) (mvT hZ (hw _ (List.mem_of_getElem? (i := 39) rfl)))) (mvT hZ (hw _ (List.mem_of_getElem? (i := 39) rfl))) (mvT hZ (hw _ (List.mem_of_getElem? (i := 38) rfl))) (by decide) (backOf (W := 0) (rm8 l Z a0 hw [] o20 i9 r ea ua sz k E U T6.heap n0 (by rw [e6q]; exact Z0) (by rw [e6q]; exact O) hk hk8) hZ (hw _ (List.mem_of_getElem? (i := 40) rfl)) (hw _ (List.mem_of_getElem? (i := 20) rfl)) (by decide) (by decide)) q7a q7c (g := (mkF m 318 #[s0, s1, s2, s3, s4, s5, .val (.int i6), s7, s8, .val (.int i9), s10, s11, s12, .val (.int i13), s14, s15, s16, s17, s18, s19, .val (.ref o20), s21, s22, s23] [(.int r), (.int i9), (.ref o20)])) rfl (by rw [hml]; rfl) (Steps.refl _) (argsL := [(.int i9), (.int r)]) (rest := []) (lenOf pd_0_4 rfl) rfl (by show 2 * 0 + _ ≤ _; exact Nat.le_of_eq rfl) (hb hby at_318) (fun _ _ => ⟨rfl, rfl, (by decide : 3 + 0 ≤ _), (by decide : 19 + 0 ≤ _)⟩)
  dsimp only [Pt.U, Pt.locs, Pt.cells, Pt.slots] at X7 l7 y7 z7 st7 hQ7
  subst l7 y7 z7
  obtain ⟨rfl, N7q, O7⟩ := hQ7
  have N7 := Fr.app N6 N7q
  refine ⟨T7, _, _, r, X7, N7, rfl, hr0, O7, fun target kt => ?_⟩
  show Steps p.tables e below (T0.setTop (mkF m 301 #[s0, s1, s2, s3, s4, s5, .val (.int i6), s7, s8, .val (.int i9), s10, s11, s12, .val (.int i13), s14, s15, s16, s17, s18, s19, .val (.ref o20), s21, s22, s23] [])) _
  refine XS.iload X0.here hx rfl (hb hby at_301) rfl ?_
  show Steps p.tables e below (T0.setTop (mkF m 303 #[s0, s1, s2, s3, s4, s5, .val (.int i6), s7, s8, .val (.int i9), s10, s11, s12, .val (.int i13), s14, s15, s16, s17, s18, s19, .val (.ref o20), s21, s22, s23] [(.int i6)])) _
  refine XS.iconst X0.here hx rfl (hb hby at_303) ?_
  show Steps p.tables e below (T0.setTop (mkF m 304 #[s0, s1, s2, s3, s4, s5, .val (.int i6), s7, s8, .val (.int i9), s10, s11, s12, .val (.int i13), s14, s15, s16, s17, s18, s19, .val (.ref o20), s21, s22, s23] [(.int (2 : Int32)), (.int i6)])) _
  refine XS.icmpNo X0.here hx rfl (hb hby at_304) rfl (tlt hc304).2.2.2 ?_
  show Steps p.tables e below (T0.setTop (mkF m 307 #[s0, s1, s2, s3, s4, s5, .val (.int i6), s7, s8, .val (.int i9), s10, s11, s12, .val (.int i13), s14, s15, s16, s17, s18, s19, .val (.ref o20), s21, s22, s23] [])) _
  refine XS.aload X0.here hx rfl (hb hby at_307) rfl rfl ?_
  show Steps p.tables e below (T0.setTop (mkF m 309 #[s0, s1, s2, s3, s4, s5, .val (.int i6), s7, s8, .val (.int i9), s10, s11, s12, .val (.int i13), s14, s15, s16, s17, s18, s19, .val (.ref o20), s21, s22, s23] [(.ref o20)])) _
  refine XS.iload X0.here hx rfl (hb hby at_309) rfl ?_
  show Steps p.tables e below (T0.setTop (mkF m 311 #[s0, s1, s2, s3, s4, s5, .val (.int i6), s7, s8, .val (.int i9), s10, s11, s12, .val (.int i13), s14, s15, s16, s17, s18, s19, .val (.ref o20), s21, s22, s23] [(.int i9), (.ref o20)])) _
  refine XS.iload X0.here hx rfl (hb hby at_311) rfl ?_
  show Steps p.tables e below (T0.setTop (mkF m 313 #[s0, s1, s2, s3, s4, s5, .val (.int i6), s7, s8, .val (.int i9), s10, s11, s12, .val (.int i13), s14, s15, s16, s17, s18, s19, .val (.ref o20), s21, s22, s23] [(.int i9), (.int i9), (.ref o20)])) _
  refine XS.iload X0.here hx rfl (hb hby at_313) rfl ?_
  show Steps p.tables e below (T0.setTop (mkF m 315 #[s0, s1, s2, s3, s4, s5, .val (.int i6), s7, s8, .val (.int i9), s10, s11, s12, .val (.int i13), s14, s15, s16, s17, s18, s19, .val (.ref o20), s21, s22, s23] [(.int i13), (.int i9), (.int i9), (.ref o20)])) _
  refine st6 _ ?_
  show Steps p.tables e below (T6.setTop (mkF m 318 #[s0, s1, s2, s3, s4, s5, .val (.int i6), s7, s8, .val (.int i9), s10, s11, s12, .val (.int i13), s14, s15, s16, s17, s18, s19, .val (.ref o20), s21, s22, s23] [(.int r), (.int i9), (.ref o20)])) _
  refine st7.trans ?_
  exact kt
theorem add2 {p : Program} {l : Launch} {e : Env} {s : State} {m : MethodId} {args : Array Value} {below : List Frame} {meth : Method} {c : Code} {Z : State} {a0 : Array Value} {h0 : Heap} {T0 : State} {locs : List Loc} (s0 : Slot) (s1 : Slot) (s2 : Slot) (s3 : Slot) (s4 : Slot) (s5 : Slot) (i6 : Int32) (s7 : Slot) (s8 : Slot) (i9 : Int32) (s10 : Slot) (s11 : Slot) (s12 : Slot) (i13 : Int32) (s14 : Slot) (s15 : Slot) (s16 : Slot) (s17 : Slot) (s18 : Slot) (s19 : Slot) (o20 : Addr) (s21 : Slot) (s22 : Slot) (s23 : Slot)
    (X0 : Stand p l e room_1 s m args below meth c T0 locs 3 19) (hx : p.tables.exec = Jvm.exec) (hZ : Z.Warmed39 s.vm) (hw : ∀ d ∈ tables_1, d.before a0 Z = true) (hby : c.code = code) (hml : c.maxLocals = 24) (hown : s.vm.findClass "com/example/umbel/umbel/query/OccurrencesFirstUnusedAfterPinLaw" = some m.cls) (e0 : T0.heap = h0) (n0 : Nat) (Z0 : n0 ≤ h0.size) (N0 : Fr n0 locs) (ea ua : Addr) (sz : Int32) (E : Nat → Int64) (U : Nat → Int32) (O : own_O Z h0 n0 o20 ea ua sz E U) (N : Nat) (hN : i6.toInt = (N : Int)) (hsz : sz.toInt = ((min N 2 : Nat) : Int)) (hb : 0 ≤ i9.toInt) (ho : 0 ≤ i13.toInt) :
    ∃ (T' : State) (h' : Heap) (locs' : List Loc) (sz' : Int32) (E' : Nat → Int64), Stand p l e room_1 s m args below meth c T' locs' 3 19 ∧ Fr n0 locs' ∧ T'.heap = h' ∧ own_O Z h' n0 o20 ea ua sz' E' U ∧ sz'.toInt = ((min N (2 + 1) : Nat) : Int) ∧ (∀ j, j < 2 → E' j = E j) ∧ (2 < N → ∃ r : Int32, 0 ≤ r.toInt ∧ E' 2 = own_ext i9 r) ∧
      ∀ target, Steps p.tables e below (T'.setTop (mkF m 321 #[s0, s1, s2, s3, s4, s5, .val (.int i6), s7, s8, .val (.int i9), s10, s11, s12, .val (.int i13), s14, s15, s16, s17, s18, s19, .val (.ref o20), s21, s22, s23] [])) target → Steps p.tables e below (T0.setTop (mkF m 301 #[s0, s1, s2, s3, s4, s5, .val (.int i6), s7, s8, .val (.int i9), s10, s11, s12, .val (.int i13), s14, s15, s16, s17, s18, s19, .val (.ref o20), s21, s22, s23] [])) target := by
  have ek : (2 : Int32).toInt = 2 := by decide
  by_cases q : (2 : Int32) < i6
  · have q' := q
    rw [own_lt, ek] at q'
    obtain ⟨T1, h1, L1, r, X1, N1, e1, hr, O1, st1⟩ := tn0_301_f s0 s1 s2 s3 s4 s5 i6 s7 s8 i9 s10 s11 s12 i13 s14 s15 s16 s17 s18 s19 o20 s21 s22 s23 X0 hx hZ hw hby hml hown e0 n0 Z0 N0 O.1 q ea ua sz 2 E U O (by omega) (by omega) hb ho
    exact ⟨T1, h1, L1, _, _, X1, N1, e1, O1, by rw [own_add1 sz (by omega) (by omega)]; omega, fun j hj => if_neg (by omega), fun _ => ⟨r, hr, if_pos rfl⟩, st1⟩
  · have q' := q
    rw [own_lt, ek] at q'
    obtain ⟨T1, L1, X1, N1, e1, st1⟩ := tn0_301_t s0 s1 s2 s3 s4 s5 i6 s7 s8 (.val (.int i9)) s10 s11 s12 (.val (.int i13)) s14 s15 s16 s17 s18 s19 (.val (.ref o20)) s21 s22 s23 X0 hx hZ hw hby hml hown e0 n0 Z0 N0 q
    exact ⟨T1, h0, L1, sz, E, X1, N1, e1, O, by omega, fun j hj => rfl, fun h => absurd h (by omega), st1⟩
set_option maxRecDepth 65536 in
set_option maxHeartbeats 40000000 in
theorem tn0_321_t {p : Program} {l : Launch} {e : Env} {s : State} {m : MethodId} {args : Array Value} {below : List Frame} {meth : Method} {c : Code} {T0 : State} {locs : List Loc} {Z : State} {a0 : Array Value} {h0 : Heap} (s0 : Slot) (s1 : Slot) (s2 : Slot) (s3 : Slot) (s4 : Slot) (s5 : Slot) (i6 : Int32) (s7 : Slot) (s8 : Slot) (s9 : Slot) (s10 : Slot) (s11 : Slot) (s12 : Slot) (s13 : Slot) (s14 : Slot) (s15 : Slot) (s16 : Slot) (s17 : Slot) (s18 : Slot) (s19 : Slot) (s20 : Slot) (s21 : Slot) (s22 : Slot) (s23 : Slot)
    (X0 : Stand p l e room_1 s m args below meth c T0 locs 3 19) (hx : p.tables.exec = Jvm.exec) (hZ : Z.Warmed39 s.vm) (hw : ∀ d ∈ tables_1, d.before a0 Z = true) (hby : c.code = code) (hml : c.maxLocals = 24) (hown : s.vm.findClass "com/example/umbel/umbel/query/OccurrencesFirstUnusedAfterPinLaw" = some m.cls) (e0 : T0.heap = h0) (n0 : Nat) (Z0 : n0 ≤ h0.size) (N0 : Fr n0 locs) (hc324 : ¬ ((3 : Int32) < i6)) :
    ∃ (T' : State) (locs' : List Loc), Stand p l e room_1 s m args below meth c T' locs' 3 19 ∧ Fr n0 locs' ∧ T'.heap = h0 ∧
      ∀ target, Steps p.tables e below (T'.setTop (mkF m 341 #[s0, s1, s2, s3, s4, s5, .val (.int i6), s7, s8, s9, s10, s11, s12, s13, s14, s15, s16, s17, s18, s19, s20, s21, s22, s23] [])) target → Steps p.tables e below (T0.setTop (mkF m 321 #[s0, s1, s2, s3, s4, s5, .val (.int i6), s7, s8, s9, s10, s11, s12, s13, s14, s15, s16, s17, s18, s19, s20, s21, s22, s23] [])) target := by
  refine ⟨T0, _, X0, N0, e0, fun target kt => ?_⟩
  show Steps p.tables e below (T0.setTop (mkF m 321 #[s0, s1, s2, s3, s4, s5, .val (.int i6), s7, s8, s9, s10, s11, s12, s13, s14, s15, s16, s17, s18, s19, s20, s21, s22, s23] [])) _
  refine XS.iload X0.here hx rfl (hb hby at_321) rfl ?_
  show Steps p.tables e below (T0.setTop (mkF m 323 #[s0, s1, s2, s3, s4, s5, .val (.int i6), s7, s8, s9, s10, s11, s12, s13, s14, s15, s16, s17, s18, s19, s20, s21, s22, s23] [(.int i6)])) _
  refine XS.iconst X0.here hx rfl (hb hby at_323) ?_
  show Steps p.tables e below (T0.setTop (mkF m 324 #[s0, s1, s2, s3, s4, s5, .val (.int i6), s7, s8, s9, s10, s11, s12, s13, s14, s15, s16, s17, s18, s19, s20, s21, s22, s23] [(.int (3 : Int32)), (.int i6)])) _
  refine XS.icmpYes X0.here hx rfl (pc0 := 324) (pc' := 341) rfl (hb hby at_324) rfl (flt hc324).2.2.2 (by decide) (by decide) ?_
  exact kt
set_option maxRecDepth 65536 in
set_option maxHeartbeats 40000000 in
theorem tn0_321_f {p : Program} {l : Launch} {e : Env} {s : State} {m : MethodId} {args : Array Value} {below : List Frame} {meth : Method} {c : Code} {T0 : State} {locs : List Loc} {Z : State} {a0 : Array Value} {h0 : Heap} (s0 : Slot) (s1 : Slot) (s2 : Slot) (s3 : Slot) (s4 : Slot) (s5 : Slot) (i6 : Int32) (s7 : Slot) (s8 : Slot) (s9 : Slot) (i10 : Int32) (s11 : Slot) (s12 : Slot) (s13 : Slot) (i14 : Int32) (s15 : Slot) (s16 : Slot) (s17 : Slot) (s18 : Slot) (s19 : Slot) (o20 : Addr) (s21 : Slot) (s22 : Slot) (s23 : Slot)
    (X0 : Stand p l e room_1 s m args below meth c T0 locs 3 19) (hx : p.tables.exec = Jvm.exec) (hZ : Z.Warmed39 s.vm) (hw : ∀ d ∈ tables_1, d.before a0 Z = true) (hby : c.code = code) (hml : c.maxLocals = 24) (hown : s.vm.findClass "com/example/umbel/umbel/query/OccurrencesFirstUnusedAfterPinLaw" = some m.cls) (e0 : T0.heap = h0) (n0 : Nat) (Z0 : n0 ≤ h0.size) (N0 : Fr n0 locs) (E_o20 : Exa Z h0 o20 "com/example/umbel/umbel/query/Occurrences") (hc324 : (3 : Int32) < i6) (ea ua : Addr) (sz : Int32) (k : Nat) (E : Nat → Int64) (U : Nat → Int32) (O : own_O Z h0 n0 o20 ea ua sz E U) (hk : sz.toInt = (k : Int)) (hk8 : k < 8) (hbb : 0 ≤ i10.toInt) (hoo : 0 ≤ i14.toInt) :
    ∃ (T' : State) (h' : Heap) (locs' : List Loc) (r : Int32), Stand p l e room_1 s m args below meth c T' locs' 3 19 ∧ Fr n0 locs' ∧ T'.heap = h' ∧ 0 ≤ r.toInt ∧ own_O Z h' n0 o20 ea ua (sz + (1 : Int32)) (fun j => if j = k then own_ext i10 r else E j) U ∧
      ∀ target, Steps p.tables e below (T'.setTop (mkF m 341 #[s0, s1, s2, s3, s4, s5, .val (.int i6), s7, s8, s9, .val (.int i10), s11, s12, s13, .val (.int i14), s15, s16, s17, s18, s19, .val (.ref o20), s21, s22, s23] [])) target → Steps p.tables e below (T0.setTop (mkF m 321 #[s0, s1, s2, s3, s4, s5, .val (.int i6), s7, s8, s9, .val (.int i10), s11, s12, s13, .val (.int i14), s15, s16, s17, s18, s19, .val (.ref o20), s21, s22, s23] [])) target := by
  obtain ⟨_, _, ⟨T6, L6, k6, n6⟩, -, X6, ⟨Lc6, hQ6, l6, y6, z6⟩, st6⟩ := Jvm.LawKit.callS X0 hx (y := (⟨"com/example/umbel/umbel/query/OccurrencesFirstUnusedAfterPinLaw", "end", "(II)I"⟩ : MethodName)) hown (mvT hZ (hw _ (List.mem_of_getElem? (i := 33) rfl))) (mvT hZ (hw _ (List.mem_of_getElem? (i := 34) rfl))) (mvT hZ (hw _ (List.mem_of_getElem? (i := 7) rfl))) (mvT hZ (hw _ (List.mem_of_getElem? (i := 35) rfl))) (by decide) (backOf (W := 2) (rm7 l Z a0 hw [] i10 i14 h0 n0 Z0 hbb hoo) hZ (hw _ (List.mem_of_getElem? (i := 35) rfl)) (hw _ (List.mem_of_getElem? (i := 7) rfl)) (by decide) (by decide)) (g := (mkF m 335 #[s0, s1, s2, s3, s4, s5, .val (.int i6), s7, s8, s9, .val (.int i10), s11, s12, s13, .val (.int i14), s15, s16, s17, s18, s19, .val (.ref o20), s21, s22, s23] [(.int i14), (.int i10), (.int i10), (.ref o20)])) rfl (by rw [hml]; rfl) (argsL := [(.int i10), (.int i14)]) (rest := [(.int i10), (.ref o20)]) (lenOf pd_0_0 rfl) rfl (by show 2 * 0 + _ ≤ _; exact Nat.le_of_eq rfl) (hb hby at_335) (fun _ _ => ⟨rfl, e0, (by decide : 3 + 0 ≤ _), (by decide : 19 + 0 ≤ _)⟩)
  dsimp only [Pt.U, Pt.locs, Pt.cells, Pt.slots] at X6 l6 y6 z6 st6 hQ6
  subst l6 y6 z6
  obtain ⟨r, rfl, hr0, N6q, e6q⟩ := hQ6
  have N6 := Fr.app N0 N6q
  obtain ⟨cq7, kq7, q7a, q7b, q7c⟩ := isOf hZ e6q E_o20
  obtain ⟨_, _, ⟨T7, L7, k7, n7⟩, -, X7, ⟨Lc7, hQ7, l7, y7, z7⟩, st7⟩ := X6.virtualBack hx (y := (⟨"com/example/umbel/umbel/query/Occurrences", "add", "(II)V"⟩ : MethodName)) (z := (⟨"com/example/umbel/umbel/query/Occurrences", "add", "(II)V"⟩ : MethodName)) hown (mvT hZ (hw _ (List.mem_of_getElem? (i := 36) rfl))) (mvT hZ (hw _ (List.mem_of_getElem? (i := 37) rfl))) (notFace_of_selects (args := #[]) (mvT hZ (hw _ (List.mem_of_getElem? (i := 39) rfl)))) (mvT hZ (hw _ (List.mem_of_getElem? (i := 39) rfl))) (mvT hZ (hw _ (List.mem_of_getElem? (i := 38) rfl))) (by decide) (backOf (W := 0) (rm8 l Z a0 hw [] o20 i10 r ea ua sz k E U T6.heap n0 (by rw [e6q]; exact Z0) (by rw [e6q]; exact O) hk hk8) hZ (hw _ (List.mem_of_getElem? (i := 40) rfl)) (hw _ (List.mem_of_getElem? (i := 20) rfl)) (by decide) (by decide)) q7a q7c (g := (mkF m 338 #[s0, s1, s2, s3, s4, s5, .val (.int i6), s7, s8, s9, .val (.int i10), s11, s12, s13, .val (.int i14), s15, s16, s17, s18, s19, .val (.ref o20), s21, s22, s23] [(.int r), (.int i10), (.ref o20)])) rfl (by rw [hml]; rfl) (Steps.refl _) (argsL := [(.int i10), (.int r)]) (rest := []) (lenOf pd_0_4 rfl) rfl (by show 2 * 0 + _ ≤ _; exact Nat.le_of_eq rfl) (hb hby at_338) (fun _ _ => ⟨rfl, rfl, (by decide : 3 + 0 ≤ _), (by decide : 19 + 0 ≤ _)⟩)
  dsimp only [Pt.U, Pt.locs, Pt.cells, Pt.slots] at X7 l7 y7 z7 st7 hQ7
  subst l7 y7 z7
  obtain ⟨rfl, N7q, O7⟩ := hQ7
  have N7 := Fr.app N6 N7q
  refine ⟨T7, _, _, r, X7, N7, rfl, hr0, O7, fun target kt => ?_⟩
  show Steps p.tables e below (T0.setTop (mkF m 321 #[s0, s1, s2, s3, s4, s5, .val (.int i6), s7, s8, s9, .val (.int i10), s11, s12, s13, .val (.int i14), s15, s16, s17, s18, s19, .val (.ref o20), s21, s22, s23] [])) _
  refine XS.iload X0.here hx rfl (hb hby at_321) rfl ?_
  show Steps p.tables e below (T0.setTop (mkF m 323 #[s0, s1, s2, s3, s4, s5, .val (.int i6), s7, s8, s9, .val (.int i10), s11, s12, s13, .val (.int i14), s15, s16, s17, s18, s19, .val (.ref o20), s21, s22, s23] [(.int i6)])) _
  refine XS.iconst X0.here hx rfl (hb hby at_323) ?_
  show Steps p.tables e below (T0.setTop (mkF m 324 #[s0, s1, s2, s3, s4, s5, .val (.int i6), s7, s8, s9, .val (.int i10), s11, s12, s13, .val (.int i14), s15, s16, s17, s18, s19, .val (.ref o20), s21, s22, s23] [(.int (3 : Int32)), (.int i6)])) _
  refine XS.icmpNo X0.here hx rfl (hb hby at_324) rfl (tlt hc324).2.2.2 ?_
  show Steps p.tables e below (T0.setTop (mkF m 327 #[s0, s1, s2, s3, s4, s5, .val (.int i6), s7, s8, s9, .val (.int i10), s11, s12, s13, .val (.int i14), s15, s16, s17, s18, s19, .val (.ref o20), s21, s22, s23] [])) _
  refine XS.aload X0.here hx rfl (hb hby at_327) rfl rfl ?_
  show Steps p.tables e below (T0.setTop (mkF m 329 #[s0, s1, s2, s3, s4, s5, .val (.int i6), s7, s8, s9, .val (.int i10), s11, s12, s13, .val (.int i14), s15, s16, s17, s18, s19, .val (.ref o20), s21, s22, s23] [(.ref o20)])) _
  refine XS.iload X0.here hx rfl (hb hby at_329) rfl ?_
  show Steps p.tables e below (T0.setTop (mkF m 331 #[s0, s1, s2, s3, s4, s5, .val (.int i6), s7, s8, s9, .val (.int i10), s11, s12, s13, .val (.int i14), s15, s16, s17, s18, s19, .val (.ref o20), s21, s22, s23] [(.int i10), (.ref o20)])) _
  refine XS.iload X0.here hx rfl (hb hby at_331) rfl ?_
  show Steps p.tables e below (T0.setTop (mkF m 333 #[s0, s1, s2, s3, s4, s5, .val (.int i6), s7, s8, s9, .val (.int i10), s11, s12, s13, .val (.int i14), s15, s16, s17, s18, s19, .val (.ref o20), s21, s22, s23] [(.int i10), (.int i10), (.ref o20)])) _
  refine XS.iload X0.here hx rfl (hb hby at_333) rfl ?_
  show Steps p.tables e below (T0.setTop (mkF m 335 #[s0, s1, s2, s3, s4, s5, .val (.int i6), s7, s8, s9, .val (.int i10), s11, s12, s13, .val (.int i14), s15, s16, s17, s18, s19, .val (.ref o20), s21, s22, s23] [(.int i14), (.int i10), (.int i10), (.ref o20)])) _
  refine st6 _ ?_
  show Steps p.tables e below (T6.setTop (mkF m 338 #[s0, s1, s2, s3, s4, s5, .val (.int i6), s7, s8, s9, .val (.int i10), s11, s12, s13, .val (.int i14), s15, s16, s17, s18, s19, .val (.ref o20), s21, s22, s23] [(.int r), (.int i10), (.ref o20)])) _
  refine st7.trans ?_
  exact kt
theorem add3 {p : Program} {l : Launch} {e : Env} {s : State} {m : MethodId} {args : Array Value} {below : List Frame} {meth : Method} {c : Code} {Z : State} {a0 : Array Value} {h0 : Heap} {T0 : State} {locs : List Loc} (s0 : Slot) (s1 : Slot) (s2 : Slot) (s3 : Slot) (s4 : Slot) (s5 : Slot) (i6 : Int32) (s7 : Slot) (s8 : Slot) (s9 : Slot) (i10 : Int32) (s11 : Slot) (s12 : Slot) (s13 : Slot) (i14 : Int32) (s15 : Slot) (s16 : Slot) (s17 : Slot) (s18 : Slot) (s19 : Slot) (o20 : Addr) (s21 : Slot) (s22 : Slot) (s23 : Slot)
    (X0 : Stand p l e room_1 s m args below meth c T0 locs 3 19) (hx : p.tables.exec = Jvm.exec) (hZ : Z.Warmed39 s.vm) (hw : ∀ d ∈ tables_1, d.before a0 Z = true) (hby : c.code = code) (hml : c.maxLocals = 24) (hown : s.vm.findClass "com/example/umbel/umbel/query/OccurrencesFirstUnusedAfterPinLaw" = some m.cls) (e0 : T0.heap = h0) (n0 : Nat) (Z0 : n0 ≤ h0.size) (N0 : Fr n0 locs) (ea ua : Addr) (sz : Int32) (E : Nat → Int64) (U : Nat → Int32) (O : own_O Z h0 n0 o20 ea ua sz E U) (N : Nat) (hN : i6.toInt = (N : Int)) (hsz : sz.toInt = ((min N 3 : Nat) : Int)) (hb : 0 ≤ i10.toInt) (ho : 0 ≤ i14.toInt) :
    ∃ (T' : State) (h' : Heap) (locs' : List Loc) (sz' : Int32) (E' : Nat → Int64), Stand p l e room_1 s m args below meth c T' locs' 3 19 ∧ Fr n0 locs' ∧ T'.heap = h' ∧ own_O Z h' n0 o20 ea ua sz' E' U ∧ sz'.toInt = ((min N (3 + 1) : Nat) : Int) ∧ (∀ j, j < 3 → E' j = E j) ∧ (3 < N → ∃ r : Int32, 0 ≤ r.toInt ∧ E' 3 = own_ext i10 r) ∧
      ∀ target, Steps p.tables e below (T'.setTop (mkF m 341 #[s0, s1, s2, s3, s4, s5, .val (.int i6), s7, s8, s9, .val (.int i10), s11, s12, s13, .val (.int i14), s15, s16, s17, s18, s19, .val (.ref o20), s21, s22, s23] [])) target → Steps p.tables e below (T0.setTop (mkF m 321 #[s0, s1, s2, s3, s4, s5, .val (.int i6), s7, s8, s9, .val (.int i10), s11, s12, s13, .val (.int i14), s15, s16, s17, s18, s19, .val (.ref o20), s21, s22, s23] [])) target := by
  have ek : (3 : Int32).toInt = 3 := by decide
  by_cases q : (3 : Int32) < i6
  · have q' := q
    rw [own_lt, ek] at q'
    obtain ⟨T1, h1, L1, r, X1, N1, e1, hr, O1, st1⟩ := tn0_321_f s0 s1 s2 s3 s4 s5 i6 s7 s8 s9 i10 s11 s12 s13 i14 s15 s16 s17 s18 s19 o20 s21 s22 s23 X0 hx hZ hw hby hml hown e0 n0 Z0 N0 O.1 q ea ua sz 3 E U O (by omega) (by omega) hb ho
    exact ⟨T1, h1, L1, _, _, X1, N1, e1, O1, by rw [own_add1 sz (by omega) (by omega)]; omega, fun j hj => if_neg (by omega), fun _ => ⟨r, hr, if_pos rfl⟩, st1⟩
  · have q' := q
    rw [own_lt, ek] at q'
    obtain ⟨T1, L1, X1, N1, e1, st1⟩ := tn0_321_t s0 s1 s2 s3 s4 s5 i6 s7 s8 s9 (.val (.int i10)) s11 s12 s13 (.val (.int i14)) s15 s16 s17 s18 s19 (.val (.ref o20)) s21 s22 s23 X0 hx hZ hw hby hml hown e0 n0 Z0 N0 q
    exact ⟨T1, h0, L1, sz, E, X1, N1, e1, O, by omega, fun j hj => rfl, fun h => absurd h (by omega), st1⟩
set_option maxRecDepth 65536 in
set_option maxHeartbeats 40000000 in
theorem tn0_341_t {p : Program} {l : Launch} {e : Env} {s : State} {m : MethodId} {args : Array Value} {below : List Frame} {meth : Method} {c : Code} {T0 : State} {locs : List Loc} {Z : State} {a0 : Array Value} {h0 : Heap} (s0 : Slot) (s1 : Slot) (s2 : Slot) (s3 : Slot) (s4 : Slot) (s5 : Slot) (i6 : Int32) (s7 : Slot) (s8 : Slot) (s9 : Slot) (s10 : Slot) (s11 : Slot) (s12 : Slot) (s13 : Slot) (s14 : Slot) (s15 : Slot) (s16 : Slot) (s17 : Slot) (s18 : Slot) (s19 : Slot) (s20 : Slot) (s21 : Slot) (s22 : Slot) (s23 : Slot)
    (X0 : Stand p l e room_1 s m args below meth c T0 locs 3 19) (hx : p.tables.exec = Jvm.exec) (hZ : Z.Warmed39 s.vm) (hw : ∀ d ∈ tables_1, d.before a0 Z = true) (hby : c.code = code) (hml : c.maxLocals = 24) (hown : s.vm.findClass "com/example/umbel/umbel/query/OccurrencesFirstUnusedAfterPinLaw" = some m.cls) (e0 : T0.heap = h0) (n0 : Nat) (Z0 : n0 ≤ h0.size) (N0 : Fr n0 locs) (hc343 : ¬ ((0 : Int32) < i6)) :
    ∃ (T' : State) (locs' : List Loc), Stand p l e room_1 s m args below meth c T' locs' 3 19 ∧ Fr n0 locs' ∧ T'.heap = h0 ∧
      ∀ target, Steps p.tables e below (T'.setTop (mkF m 357 #[s0, s1, s2, s3, s4, s5, .val (.int i6), s7, s8, s9, s10, s11, s12, s13, s14, s15, s16, s17, s18, s19, s20, s21, s22, s23] [])) target → Steps p.tables e below (T0.setTop (mkF m 341 #[s0, s1, s2, s3, s4, s5, .val (.int i6), s7, s8, s9, s10, s11, s12, s13, s14, s15, s16, s17, s18, s19, s20, s21, s22, s23] [])) target := by
  refine ⟨T0, _, X0, N0, e0, fun target kt => ?_⟩
  show Steps p.tables e below (T0.setTop (mkF m 341 #[s0, s1, s2, s3, s4, s5, .val (.int i6), s7, s8, s9, s10, s11, s12, s13, s14, s15, s16, s17, s18, s19, s20, s21, s22, s23] [])) _
  refine XS.iload X0.here hx rfl (hb hby at_341) rfl ?_
  show Steps p.tables e below (T0.setTop (mkF m 343 #[s0, s1, s2, s3, s4, s5, .val (.int i6), s7, s8, s9, s10, s11, s12, s13, s14, s15, s16, s17, s18, s19, s20, s21, s22, s23] [(.int i6)])) _
  refine XS.ifYes X0.here hx rfl (pc0 := 343) (pc' := 357) rfl (hb hby at_343) rfl ((if0 _ _).trans (flt hc343).2.2.2) (by decide) (by decide) ?_
  exact kt
set_option maxRecDepth 65536 in
set_option maxHeartbeats 40000000 in
theorem tn0_341_ft {p : Program} {l : Launch} {e : Env} {s : State} {m : MethodId} {args : Array Value} {below : List Frame} {meth : Method} {c : Code} {T0 : State} {locs : List Loc} {Z : State} {a0 : Array Value} {h0 : Heap} (s0 : Slot) (s1 : Slot) (s2 : Slot) (s3 : Slot) (s4 : Slot) (s5 : Slot) (i6 : Int32) (s7 : Slot) (s8 : Slot) (s9 : Slot) (s10 : Slot) (s11 : Slot) (s12 : Slot) (s13 : Slot) (s14 : Slot) (i15 : Int32) (s16 : Slot) (s17 : Slot) (s18 : Slot) (s19 : Slot) (s20 : Slot) (s21 : Slot) (s22 : Slot) (s23 : Slot)
    (X0 : Stand p l e room_1 s m args below meth c T0 locs 3 19) (hx : p.tables.exec = Jvm.exec) (hZ : Z.Warmed39 s.vm) (hw : ∀ d ∈ tables_1, d.before a0 Z = true) (hby : c.code = code) (hml : c.maxLocals = 24) (hown : s.vm.findClass "com/example/umbel/umbel/query/OccurrencesFirstUnusedAfterPinLaw" = some m.cls) (e0 : T0.heap = h0) (n0 : Nat) (Z0 : n0 ≤ h0.size) (N0 : Fr n0 locs) (hc343 : (0 : Int32) < i6) (hc348 : i15 = (0 : Int32)) :
    ∃ (T' : State) (locs' : List Loc), Stand p l e room_1 s m args below meth c T' locs' 3 19 ∧ Fr n0 locs' ∧ T'.heap = h0 ∧
      ∀ target, Steps p.tables e below (T'.setTop (mkF m 357 #[s0, s1, s2, s3, s4, s5, .val (.int i6), s7, s8, s9, s10, s11, s12, s13, s14, .val (.int i15), s16, s17, s18, s19, s20, s21, s22, s23] [])) target → Steps p.tables e below (T0.setTop (mkF m 341 #[s0, s1, s2, s3, s4, s5, .val (.int i6), s7, s8, s9, s10, s11, s12, s13, s14, .val (.int i15), s16, s17, s18, s19, s20, s21, s22, s23] [])) target := by
  refine ⟨T0, _, X0, N0, e0, fun target kt => ?_⟩
  show Steps p.tables e below (T0.setTop (mkF m 341 #[s0, s1, s2, s3, s4, s5, .val (.int i6), s7, s8, s9, s10, s11, s12, s13, s14, .val (.int i15), s16, s17, s18, s19, s20, s21, s22, s23] [])) _
  refine XS.iload X0.here hx rfl (hb hby at_341) rfl ?_
  show Steps p.tables e below (T0.setTop (mkF m 343 #[s0, s1, s2, s3, s4, s5, .val (.int i6), s7, s8, s9, s10, s11, s12, s13, s14, .val (.int i15), s16, s17, s18, s19, s20, s21, s22, s23] [(.int i6)])) _
  refine XS.ifNo X0.here hx rfl (hb hby at_343) rfl ((if0 _ _).trans (tlt hc343).2.2.2) ?_
  show Steps p.tables e below (T0.setTop (mkF m 346 #[s0, s1, s2, s3, s4, s5, .val (.int i6), s7, s8, s9, s10, s11, s12, s13, s14, .val (.int i15), s16, s17, s18, s19, s20, s21, s22, s23] [])) _
  refine XS.iload X0.here hx rfl (hb hby at_346) rfl ?_
  show Steps p.tables e below (T0.setTop (mkF m 348 #[s0, s1, s2, s3, s4, s5, .val (.int i6), s7, s8, s9, s10, s11, s12, s13, s14, .val (.int i15), s16, s17, s18, s19, s20, s21, s22, s23] [(.int i15)])) _
  refine XS.ifYes X0.here hx rfl (pc0 := 348) (pc' := 357) rfl (hb hby at_348) rfl ((if0 _ _).trans (teq hc348).1) (by decide) (by decide) ?_
  exact kt
theorem pd_0_7 : parseMethodDescriptor "(I)V" = some ⟨[.int], none⟩ := by decide +kernel
set_option maxRecDepth 65536 in
set_option maxHeartbeats 40000000 in
theorem tn0_341_ff {p : Program} {l : Launch} {e : Env} {s : State} {m : MethodId} {args : Array Value} {below : List Frame} {meth : Method} {c : Code} {T0 : State} {locs : List Loc} {Z : State} {a0 : Array Value} {h0 : Heap} (s0 : Slot) (s1 : Slot) (s2 : Slot) (s3 : Slot) (s4 : Slot) (s5 : Slot) (i6 : Int32) (s7 : Slot) (s8 : Slot) (s9 : Slot) (s10 : Slot) (s11 : Slot) (s12 : Slot) (s13 : Slot) (s14 : Slot) (i15 : Int32) (s16 : Slot) (s17 : Slot) (s18 : Slot) (s19 : Slot) (o20 : Addr) (s21 : Slot) (s22 : Slot) (s23 : Slot)
    (X0 : Stand p l e room_1 s m args below meth c T0 locs 3 19) (hx : p.tables.exec = Jvm.exec) (hZ : Z.Warmed39 s.vm) (hw : ∀ d ∈ tables_1, d.before a0 Z = true) (hby : c.code = code) (hml : c.maxLocals = 24) (hown : s.vm.findClass "com/example/umbel/umbel/query/OccurrencesFirstUnusedAfterPinLaw" = some m.cls) (e0 : T0.heap = h0) (n0 : Nat) (Z0 : n0 ≤ h0.size) (N0 : Fr n0 locs) (E_o20 : Exa Z h0 o20 "com/example/umbel/umbel/query/Occurrences") (hc343 : (0 : Int32) < i6) (hc348 : ¬ (i15 = (0 : Int32))) (ea ua : Addr) (sz : Int32) (E : Nat → Int64) (U : Nat → Int32) (O : own_O Z h0 n0 o20 ea ua sz E U) :
    ∃ (T' : State) (h' : Heap) (locs' : List Loc), Stand p l e room_1 s m args below meth c T' locs' 3 19 ∧ Fr n0 locs' ∧ T'.heap = h' ∧ own_O Z h' n0 o20 ea ua sz E (fun j => if j = 0 then 1 else U j) ∧
      ∀ target, Steps p.tables e below (T'.setTop (mkF m 357 #[s0, s1, s2, s3, s4, s5, .val (.int i6), s7, s8, s9, s10, s11, s12, s13, s14, .val (.int i15), s16, s17, s18, s19, .val (.ref o20), s21, s22, s23] [])) target → Steps p.tables e below (T0.setTop (mkF m 341 #[s0, s1, s2, s3, s4, s5, .val (.int i6), s7, s8, s9, s10, s11, s12, s13, s14, .val (.int i15), s16, s17, s18, s19, .val (.ref o20), s21, s22, s23] [])) target := by
  obtain ⟨cq6, kq6, q6a, q6b, q6c⟩ := isOf hZ e0 E_o20
  obtain ⟨_, _, ⟨T6, L6, k6, n6⟩, -, X6, ⟨Lc6, hQ6, l6, y6, z6⟩, st6⟩ := X0.virtualBack hx (y := (⟨"com/example/umbel/umbel/query/Occurrences", "markUsed", "(I)V"⟩ : MethodName)) (z := (⟨"com/example/umbel/umbel/query/Occurrences", "markUsed", "(I)V"⟩ : MethodName)) hown (mvT hZ (hw _ (List.mem_of_getElem? (i := 55) rfl))) (mvT hZ (hw _ (List.mem_of_getElem? (i := 56) rfl))) (notFace_of_selects (args := #[]) (mvT hZ (hw _ (List.mem_of_getElem? (i := 58) rfl)))) (mvT hZ (hw _ (List.mem_of_getElem? (i := 58) rfl))) (mvT hZ (hw _ (List.mem_of_getElem? (i := 57) rfl))) (by decide) (backOf (W := 0) (rm12 l Z a0 hw [] o20 (0 : Int32) ea ua sz 0 E U h0 n0 Z0 O (by decide) (by omega)) hZ (hw _ (List.mem_of_getElem? (i := 59) rfl)) (hw _ (List.mem_of_getElem? (i := 20) rfl)) (by decide) (by decide)) q6a q6c (g := (mkF m 354 #[s0, s1, s2, s3, s4, s5, .val (.int i6), s7, s8, s9, s10, s11, s12, s13, s14, .val (.int i15), s16, s17, s18, s19, .val (.ref o20), s21, s22, s23] [(.int (0 : Int32)), (.ref o20)])) rfl (by rw [hml]; rfl) (Steps.refl _) (argsL := [(.int (0 : Int32))]) (rest := []) (lenOf pd_0_7 rfl) rfl (by show 2 * 0 + _ ≤ _; exact Nat.le_of_eq rfl) (hb hby at_354) (fun _ _ => ⟨rfl, e0, (by decide : 3 + 0 ≤ _), (by decide : 19 + 0 ≤ _)⟩)
  dsimp only [Pt.U, Pt.locs, Pt.cells, Pt.slots] at X6 l6 y6 z6 st6 hQ6
  subst l6 y6 z6
  obtain ⟨rfl, N6q, O6⟩ := hQ6
  have N6 := Fr.app N0 N6q
  refine ⟨T6, _, _, X6, N6, rfl, O6, fun target kt => ?_⟩
  show Steps p.tables e below (T0.setTop (mkF m 341 #[s0, s1, s2, s3, s4, s5, .val (.int i6), s7, s8, s9, s10, s11, s12, s13, s14, .val (.int i15), s16, s17, s18, s19, .val (.ref o20), s21, s22, s23] [])) _
  refine XS.iload X0.here hx rfl (hb hby at_341) rfl ?_
  show Steps p.tables e below (T0.setTop (mkF m 343 #[s0, s1, s2, s3, s4, s5, .val (.int i6), s7, s8, s9, s10, s11, s12, s13, s14, .val (.int i15), s16, s17, s18, s19, .val (.ref o20), s21, s22, s23] [(.int i6)])) _
  refine XS.ifNo X0.here hx rfl (hb hby at_343) rfl ((if0 _ _).trans (tlt hc343).2.2.2) ?_
  show Steps p.tables e below (T0.setTop (mkF m 346 #[s0, s1, s2, s3, s4, s5, .val (.int i6), s7, s8, s9, s10, s11, s12, s13, s14, .val (.int i15), s16, s17, s18, s19, .val (.ref o20), s21, s22, s23] [])) _
  refine XS.iload X0.here hx rfl (hb hby at_346) rfl ?_
  show Steps p.tables e below (T0.setTop (mkF m 348 #[s0, s1, s2, s3, s4, s5, .val (.int i6), s7, s8, s9, s10, s11, s12, s13, s14, .val (.int i15), s16, s17, s18, s19, .val (.ref o20), s21, s22, s23] [(.int i15)])) _
  refine XS.ifNo X0.here hx rfl (hb hby at_348) rfl ((if0 _ _).trans (feq hc348).1) ?_
  show Steps p.tables e below (T0.setTop (mkF m 351 #[s0, s1, s2, s3, s4, s5, .val (.int i6), s7, s8, s9, s10, s11, s12, s13, s14, .val (.int i15), s16, s17, s18, s19, .val (.ref o20), s21, s22, s23] [])) _
  refine XS.aload X0.here hx rfl (hb hby at_351) rfl rfl ?_
  show Steps p.tables e below (T0.setTop (mkF m 353 #[s0, s1, s2, s3, s4, s5, .val (.int i6), s7, s8, s9, s10, s11, s12, s13, s14, .val (.int i15), s16, s17, s18, s19, .val (.ref o20), s21, s22, s23] [(.ref o20)])) _
  refine XS.iconst X0.here hx rfl (hb hby at_353) ?_
  show Steps p.tables e below (T0.setTop (mkF m 354 #[s0, s1, s2, s3, s4, s5, .val (.int i6), s7, s8, s9, s10, s11, s12, s13, s14, .val (.int i15), s16, s17, s18, s19, .val (.ref o20), s21, s22, s23] [(.int (0 : Int32)), (.ref o20)])) _
  refine st6.trans ?_
  exact kt
theorem mark0 {p : Program} {l : Launch} {e : Env} {s : State} {m : MethodId} {args : Array Value} {below : List Frame} {meth : Method} {c : Code} {Z : State} {a0 : Array Value} {h0 : Heap} {T0 : State} {locs : List Loc} (s0 : Slot) (s1 : Slot) (s2 : Slot) (s3 : Slot) (s4 : Slot) (s5 : Slot) (i6 : Int32) (s7 : Slot) (s8 : Slot) (s9 : Slot) (s10 : Slot) (s11 : Slot) (s12 : Slot) (s13 : Slot) (s14 : Slot) (i15 : Int32) (s16 : Slot) (s17 : Slot) (s18 : Slot) (s19 : Slot) (o20 : Addr) (s21 : Slot) (s22 : Slot) (s23 : Slot)
    (X0 : Stand p l e room_1 s m args below meth c T0 locs 3 19) (hx : p.tables.exec = Jvm.exec) (hZ : Z.Warmed39 s.vm) (hw : ∀ d ∈ tables_1, d.before a0 Z = true) (hby : c.code = code) (hml : c.maxLocals = 24) (hown : s.vm.findClass "com/example/umbel/umbel/query/OccurrencesFirstUnusedAfterPinLaw" = some m.cls) (e0 : T0.heap = h0) (n0 : Nat) (Z0 : n0 ≤ h0.size) (N0 : Fr n0 locs) (ea ua : Addr) (sz : Int32) (E : Nat → Int64) (U : Nat → Int32) (O : own_O Z h0 n0 o20 ea ua sz E U) (N : Nat) (hN : i6.toInt = (N : Int)) (hU : U 0 = 0) :
    ∃ (T' : State) (h' : Heap) (locs' : List Loc) (U' : Nat → Int32), Stand p l e room_1 s m args below meth c T' locs' 3 19 ∧ Fr n0 locs' ∧ T'.heap = h' ∧ own_O Z h' n0 o20 ea ua sz E U' ∧ (∀ j, j ≠ 0 → U' j = U j) ∧ (0 < N → (U' 0 = 0 ↔ i15 = 0)) ∧
      ∀ target, Steps p.tables e below (T'.setTop (mkF m 357 #[s0, s1, s2, s3, s4, s5, .val (.int i6), s7, s8, s9, s10, s11, s12, s13, s14, .val (.int i15), s16, s17, s18, s19, .val (.ref o20), s21, s22, s23] [])) target → Steps p.tables e below (T0.setTop (mkF m 341 #[s0, s1, s2, s3, s4, s5, .val (.int i6), s7, s8, s9, s10, s11, s12, s13, s14, .val (.int i15), s16, s17, s18, s19, .val (.ref o20), s21, s22, s23] [])) target := by
  have ek : (0 : Int32).toInt = 0 := by decide
  by_cases q : (0 : Int32) < i6
  · by_cases r : i15 = (0 : Int32)
    · obtain ⟨T1, L1, X1, N1, e1, st1⟩ := tn0_341_ft s0 s1 s2 s3 s4 s5 i6 s7 s8 s9 s10 s11 s12 s13 s14 i15 s16 s17 s18 s19 (.val (.ref o20)) s21 s22 s23 X0 hx hZ hw hby hml hown e0 n0 Z0 N0 q r
      exact ⟨T1, h0, L1, U, X1, N1, e1, O, fun j _ => rfl, fun _ => ⟨fun _ => r, fun _ => hU⟩, st1⟩
    · obtain ⟨T1, h1, L1, X1, N1, e1, O1, st1⟩ := tn0_341_ff s0 s1 s2 s3 s4 s5 i6 s7 s8 s9 s10 s11 s12 s13 s14 i15 s16 s17 s18 s19 o20 s21 s22 s23 X0 hx hZ hw hby hml hown e0 n0 Z0 N0 O.1 q r ea ua sz E U O
      exact ⟨T1, h1, L1, _, X1, N1, e1, O1, fun j hj => if_neg hj, fun _ => ⟨fun h => absurd h (by rw [if_pos rfl]; decide), fun h => absurd h r⟩, st1⟩
  · have q' := q
    rw [own_lt, ek] at q'
    obtain ⟨T1, L1, X1, N1, e1, st1⟩ := tn0_341_t s0 s1 s2 s3 s4 s5 i6 s7 s8 s9 s10 s11 s12 s13 s14 (.val (.int i15)) s16 s17 s18 s19 (.val (.ref o20)) s21 s22 s23 X0 hx hZ hw hby hml hown e0 n0 Z0 N0 q
    exact ⟨T1, h0, L1, U, X1, N1, e1, O, fun j _ => rfl, fun h => absurd h (by omega), st1⟩
set_option maxRecDepth 65536 in
set_option maxHeartbeats 40000000 in
theorem tn0_357_t {p : Program} {l : Launch} {e : Env} {s : State} {m : MethodId} {args : Array Value} {below : List Frame} {meth : Method} {c : Code} {T0 : State} {locs : List Loc} {Z : State} {a0 : Array Value} {h0 : Heap} (s0 : Slot) (s1 : Slot) (s2 : Slot) (s3 : Slot) (s4 : Slot) (s5 : Slot) (i6 : Int32) (s7 : Slot) (s8 : Slot) (s9 : Slot) (s10 : Slot) (s11 : Slot) (s12 : Slot) (s13 : Slot) (s14 : Slot) (s15 : Slot) (s16 : Slot) (s17 : Slot) (s18 : Slot) (s19 : Slot) (s20 : Slot) (s21 : Slot) (s22 : Slot) (s23 : Slot)
    (X0 : Stand p l e room_1 s m args below meth c T0 locs 3 19) (hx : p.tables.exec = Jvm.exec) (hZ : Z.Warmed39 s.vm) (hw : ∀ d ∈ tables_1, d.before a0 Z = true) (hby : c.code = code) (hml : c.maxLocals = 24) (hown : s.vm.findClass "com/example/umbel/umbel/query/OccurrencesFirstUnusedAfterPinLaw" = some m.cls) (e0 : T0.heap = h0) (n0 : Nat) (Z0 : n0 ≤ h0.size) (N0 : Fr n0 locs) (hc360 : ¬ ((1 : Int32) < i6)) :
    ∃ (T' : State) (locs' : List Loc), Stand p l e room_1 s m args below meth c T' locs' 3 19 ∧ Fr n0 locs' ∧ T'.heap = h0 ∧
      ∀ target, Steps p.tables e below (T'.setTop (mkF m 374 #[s0, s1, s2, s3, s4, s5, .val (.int i6), s7, s8, s9, s10, s11, s12, s13, s14, s15, s16, s17, s18, s19, s20, s21, s22, s23] [])) target → Steps p.tables e below (T0.setTop (mkF m 357 #[s0, s1, s2, s3, s4, s5, .val (.int i6), s7, s8, s9, s10, s11, s12, s13, s14, s15, s16, s17, s18, s19, s20, s21, s22, s23] [])) target := by
  refine ⟨T0, _, X0, N0, e0, fun target kt => ?_⟩
  show Steps p.tables e below (T0.setTop (mkF m 357 #[s0, s1, s2, s3, s4, s5, .val (.int i6), s7, s8, s9, s10, s11, s12, s13, s14, s15, s16, s17, s18, s19, s20, s21, s22, s23] [])) _
  refine XS.iload X0.here hx rfl (hb hby at_357) rfl ?_
  show Steps p.tables e below (T0.setTop (mkF m 359 #[s0, s1, s2, s3, s4, s5, .val (.int i6), s7, s8, s9, s10, s11, s12, s13, s14, s15, s16, s17, s18, s19, s20, s21, s22, s23] [(.int i6)])) _
  refine XS.iconst X0.here hx rfl (hb hby at_359) ?_
  show Steps p.tables e below (T0.setTop (mkF m 360 #[s0, s1, s2, s3, s4, s5, .val (.int i6), s7, s8, s9, s10, s11, s12, s13, s14, s15, s16, s17, s18, s19, s20, s21, s22, s23] [(.int (1 : Int32)), (.int i6)])) _
  refine XS.icmpYes X0.here hx rfl (pc0 := 360) (pc' := 374) rfl (hb hby at_360) rfl (flt hc360).2.2.2 (by decide) (by decide) ?_
  exact kt
set_option maxRecDepth 65536 in
set_option maxHeartbeats 40000000 in
theorem tn0_357_ft {p : Program} {l : Launch} {e : Env} {s : State} {m : MethodId} {args : Array Value} {below : List Frame} {meth : Method} {c : Code} {T0 : State} {locs : List Loc} {Z : State} {a0 : Array Value} {h0 : Heap} (s0 : Slot) (s1 : Slot) (s2 : Slot) (s3 : Slot) (s4 : Slot) (s5 : Slot) (i6 : Int32) (s7 : Slot) (s8 : Slot) (s9 : Slot) (s10 : Slot) (s11 : Slot) (s12 : Slot) (s13 : Slot) (s14 : Slot) (s15 : Slot) (i16 : Int32) (s17 : Slot) (s18 : Slot) (s19 : Slot) (s20 : Slot) (s21 : Slot) (s22 : Slot) (s23 : Slot)
    (X0 : Stand p l e room_1 s m args below meth c T0 locs 3 19) (hx : p.tables.exec = Jvm.exec) (hZ : Z.Warmed39 s.vm) (hw : ∀ d ∈ tables_1, d.before a0 Z = true) (hby : c.code = code) (hml : c.maxLocals = 24) (hown : s.vm.findClass "com/example/umbel/umbel/query/OccurrencesFirstUnusedAfterPinLaw" = some m.cls) (e0 : T0.heap = h0) (n0 : Nat) (Z0 : n0 ≤ h0.size) (N0 : Fr n0 locs) (hc360 : (1 : Int32) < i6) (hc365 : i16 = (0 : Int32)) :
    ∃ (T' : State) (locs' : List Loc), Stand p l e room_1 s m args below meth c T' locs' 3 19 ∧ Fr n0 locs' ∧ T'.heap = h0 ∧
      ∀ target, Steps p.tables e below (T'.setTop (mkF m 374 #[s0, s1, s2, s3, s4, s5, .val (.int i6), s7, s8, s9, s10, s11, s12, s13, s14, s15, .val (.int i16), s17, s18, s19, s20, s21, s22, s23] [])) target → Steps p.tables e below (T0.setTop (mkF m 357 #[s0, s1, s2, s3, s4, s5, .val (.int i6), s7, s8, s9, s10, s11, s12, s13, s14, s15, .val (.int i16), s17, s18, s19, s20, s21, s22, s23] [])) target := by
  refine ⟨T0, _, X0, N0, e0, fun target kt => ?_⟩
  show Steps p.tables e below (T0.setTop (mkF m 357 #[s0, s1, s2, s3, s4, s5, .val (.int i6), s7, s8, s9, s10, s11, s12, s13, s14, s15, .val (.int i16), s17, s18, s19, s20, s21, s22, s23] [])) _
  refine XS.iload X0.here hx rfl (hb hby at_357) rfl ?_
  show Steps p.tables e below (T0.setTop (mkF m 359 #[s0, s1, s2, s3, s4, s5, .val (.int i6), s7, s8, s9, s10, s11, s12, s13, s14, s15, .val (.int i16), s17, s18, s19, s20, s21, s22, s23] [(.int i6)])) _
  refine XS.iconst X0.here hx rfl (hb hby at_359) ?_
  show Steps p.tables e below (T0.setTop (mkF m 360 #[s0, s1, s2, s3, s4, s5, .val (.int i6), s7, s8, s9, s10, s11, s12, s13, s14, s15, .val (.int i16), s17, s18, s19, s20, s21, s22, s23] [(.int (1 : Int32)), (.int i6)])) _
  refine XS.icmpNo X0.here hx rfl (hb hby at_360) rfl (tlt hc360).2.2.2 ?_
  show Steps p.tables e below (T0.setTop (mkF m 363 #[s0, s1, s2, s3, s4, s5, .val (.int i6), s7, s8, s9, s10, s11, s12, s13, s14, s15, .val (.int i16), s17, s18, s19, s20, s21, s22, s23] [])) _
  refine XS.iload X0.here hx rfl (hb hby at_363) rfl ?_
  show Steps p.tables e below (T0.setTop (mkF m 365 #[s0, s1, s2, s3, s4, s5, .val (.int i6), s7, s8, s9, s10, s11, s12, s13, s14, s15, .val (.int i16), s17, s18, s19, s20, s21, s22, s23] [(.int i16)])) _
  refine XS.ifYes X0.here hx rfl (pc0 := 365) (pc' := 374) rfl (hb hby at_365) rfl ((if0 _ _).trans (teq hc365).1) (by decide) (by decide) ?_
  exact kt
set_option maxRecDepth 65536 in
set_option maxHeartbeats 40000000 in
theorem tn0_357_ff {p : Program} {l : Launch} {e : Env} {s : State} {m : MethodId} {args : Array Value} {below : List Frame} {meth : Method} {c : Code} {T0 : State} {locs : List Loc} {Z : State} {a0 : Array Value} {h0 : Heap} (s0 : Slot) (s1 : Slot) (s2 : Slot) (s3 : Slot) (s4 : Slot) (s5 : Slot) (i6 : Int32) (s7 : Slot) (s8 : Slot) (s9 : Slot) (s10 : Slot) (s11 : Slot) (s12 : Slot) (s13 : Slot) (s14 : Slot) (s15 : Slot) (i16 : Int32) (s17 : Slot) (s18 : Slot) (s19 : Slot) (o20 : Addr) (s21 : Slot) (s22 : Slot) (s23 : Slot)
    (X0 : Stand p l e room_1 s m args below meth c T0 locs 3 19) (hx : p.tables.exec = Jvm.exec) (hZ : Z.Warmed39 s.vm) (hw : ∀ d ∈ tables_1, d.before a0 Z = true) (hby : c.code = code) (hml : c.maxLocals = 24) (hown : s.vm.findClass "com/example/umbel/umbel/query/OccurrencesFirstUnusedAfterPinLaw" = some m.cls) (e0 : T0.heap = h0) (n0 : Nat) (Z0 : n0 ≤ h0.size) (N0 : Fr n0 locs) (E_o20 : Exa Z h0 o20 "com/example/umbel/umbel/query/Occurrences") (hc360 : (1 : Int32) < i6) (hc365 : ¬ (i16 = (0 : Int32))) (ea ua : Addr) (sz : Int32) (E : Nat → Int64) (U : Nat → Int32) (O : own_O Z h0 n0 o20 ea ua sz E U) :
    ∃ (T' : State) (h' : Heap) (locs' : List Loc), Stand p l e room_1 s m args below meth c T' locs' 3 19 ∧ Fr n0 locs' ∧ T'.heap = h' ∧ own_O Z h' n0 o20 ea ua sz E (fun j => if j = 1 then 1 else U j) ∧
      ∀ target, Steps p.tables e below (T'.setTop (mkF m 374 #[s0, s1, s2, s3, s4, s5, .val (.int i6), s7, s8, s9, s10, s11, s12, s13, s14, s15, .val (.int i16), s17, s18, s19, .val (.ref o20), s21, s22, s23] [])) target → Steps p.tables e below (T0.setTop (mkF m 357 #[s0, s1, s2, s3, s4, s5, .val (.int i6), s7, s8, s9, s10, s11, s12, s13, s14, s15, .val (.int i16), s17, s18, s19, .val (.ref o20), s21, s22, s23] [])) target := by
  obtain ⟨cq6, kq6, q6a, q6b, q6c⟩ := isOf hZ e0 E_o20
  obtain ⟨_, _, ⟨T6, L6, k6, n6⟩, -, X6, ⟨Lc6, hQ6, l6, y6, z6⟩, st6⟩ := X0.virtualBack hx (y := (⟨"com/example/umbel/umbel/query/Occurrences", "markUsed", "(I)V"⟩ : MethodName)) (z := (⟨"com/example/umbel/umbel/query/Occurrences", "markUsed", "(I)V"⟩ : MethodName)) hown (mvT hZ (hw _ (List.mem_of_getElem? (i := 55) rfl))) (mvT hZ (hw _ (List.mem_of_getElem? (i := 56) rfl))) (notFace_of_selects (args := #[]) (mvT hZ (hw _ (List.mem_of_getElem? (i := 58) rfl)))) (mvT hZ (hw _ (List.mem_of_getElem? (i := 58) rfl))) (mvT hZ (hw _ (List.mem_of_getElem? (i := 57) rfl))) (by decide) (backOf (W := 0) (rm12 l Z a0 hw [] o20 (1 : Int32) ea ua sz 1 E U h0 n0 Z0 O (by decide) (by omega)) hZ (hw _ (List.mem_of_getElem? (i := 59) rfl)) (hw _ (List.mem_of_getElem? (i := 20) rfl)) (by decide) (by decide)) q6a q6c (g := (mkF m 371 #[s0, s1, s2, s3, s4, s5, .val (.int i6), s7, s8, s9, s10, s11, s12, s13, s14, s15, .val (.int i16), s17, s18, s19, .val (.ref o20), s21, s22, s23] [(.int (1 : Int32)), (.ref o20)])) rfl (by rw [hml]; rfl) (Steps.refl _) (argsL := [(.int (1 : Int32))]) (rest := []) (lenOf pd_0_7 rfl) rfl (by show 2 * 0 + _ ≤ _; exact Nat.le_of_eq rfl) (hb hby at_371) (fun _ _ => ⟨rfl, e0, (by decide : 3 + 0 ≤ _), (by decide : 19 + 0 ≤ _)⟩)
  dsimp only [Pt.U, Pt.locs, Pt.cells, Pt.slots] at X6 l6 y6 z6 st6 hQ6
  subst l6 y6 z6
  obtain ⟨rfl, N6q, O6⟩ := hQ6
  have N6 := Fr.app N0 N6q
  refine ⟨T6, _, _, X6, N6, rfl, O6, fun target kt => ?_⟩
  show Steps p.tables e below (T0.setTop (mkF m 357 #[s0, s1, s2, s3, s4, s5, .val (.int i6), s7, s8, s9, s10, s11, s12, s13, s14, s15, .val (.int i16), s17, s18, s19, .val (.ref o20), s21, s22, s23] [])) _
  refine XS.iload X0.here hx rfl (hb hby at_357) rfl ?_
  show Steps p.tables e below (T0.setTop (mkF m 359 #[s0, s1, s2, s3, s4, s5, .val (.int i6), s7, s8, s9, s10, s11, s12, s13, s14, s15, .val (.int i16), s17, s18, s19, .val (.ref o20), s21, s22, s23] [(.int i6)])) _
  refine XS.iconst X0.here hx rfl (hb hby at_359) ?_
  show Steps p.tables e below (T0.setTop (mkF m 360 #[s0, s1, s2, s3, s4, s5, .val (.int i6), s7, s8, s9, s10, s11, s12, s13, s14, s15, .val (.int i16), s17, s18, s19, .val (.ref o20), s21, s22, s23] [(.int (1 : Int32)), (.int i6)])) _
  refine XS.icmpNo X0.here hx rfl (hb hby at_360) rfl (tlt hc360).2.2.2 ?_
  show Steps p.tables e below (T0.setTop (mkF m 363 #[s0, s1, s2, s3, s4, s5, .val (.int i6), s7, s8, s9, s10, s11, s12, s13, s14, s15, .val (.int i16), s17, s18, s19, .val (.ref o20), s21, s22, s23] [])) _
  refine XS.iload X0.here hx rfl (hb hby at_363) rfl ?_
  show Steps p.tables e below (T0.setTop (mkF m 365 #[s0, s1, s2, s3, s4, s5, .val (.int i6), s7, s8, s9, s10, s11, s12, s13, s14, s15, .val (.int i16), s17, s18, s19, .val (.ref o20), s21, s22, s23] [(.int i16)])) _
  refine XS.ifNo X0.here hx rfl (hb hby at_365) rfl ((if0 _ _).trans (feq hc365).1) ?_
  show Steps p.tables e below (T0.setTop (mkF m 368 #[s0, s1, s2, s3, s4, s5, .val (.int i6), s7, s8, s9, s10, s11, s12, s13, s14, s15, .val (.int i16), s17, s18, s19, .val (.ref o20), s21, s22, s23] [])) _
  refine XS.aload X0.here hx rfl (hb hby at_368) rfl rfl ?_
  show Steps p.tables e below (T0.setTop (mkF m 370 #[s0, s1, s2, s3, s4, s5, .val (.int i6), s7, s8, s9, s10, s11, s12, s13, s14, s15, .val (.int i16), s17, s18, s19, .val (.ref o20), s21, s22, s23] [(.ref o20)])) _
  refine XS.iconst X0.here hx rfl (hb hby at_370) ?_
  show Steps p.tables e below (T0.setTop (mkF m 371 #[s0, s1, s2, s3, s4, s5, .val (.int i6), s7, s8, s9, s10, s11, s12, s13, s14, s15, .val (.int i16), s17, s18, s19, .val (.ref o20), s21, s22, s23] [(.int (1 : Int32)), (.ref o20)])) _
  refine st6.trans ?_
  exact kt
theorem mark1 {p : Program} {l : Launch} {e : Env} {s : State} {m : MethodId} {args : Array Value} {below : List Frame} {meth : Method} {c : Code} {Z : State} {a0 : Array Value} {h0 : Heap} {T0 : State} {locs : List Loc} (s0 : Slot) (s1 : Slot) (s2 : Slot) (s3 : Slot) (s4 : Slot) (s5 : Slot) (i6 : Int32) (s7 : Slot) (s8 : Slot) (s9 : Slot) (s10 : Slot) (s11 : Slot) (s12 : Slot) (s13 : Slot) (s14 : Slot) (s15 : Slot) (i16 : Int32) (s17 : Slot) (s18 : Slot) (s19 : Slot) (o20 : Addr) (s21 : Slot) (s22 : Slot) (s23 : Slot)
    (X0 : Stand p l e room_1 s m args below meth c T0 locs 3 19) (hx : p.tables.exec = Jvm.exec) (hZ : Z.Warmed39 s.vm) (hw : ∀ d ∈ tables_1, d.before a0 Z = true) (hby : c.code = code) (hml : c.maxLocals = 24) (hown : s.vm.findClass "com/example/umbel/umbel/query/OccurrencesFirstUnusedAfterPinLaw" = some m.cls) (e0 : T0.heap = h0) (n0 : Nat) (Z0 : n0 ≤ h0.size) (N0 : Fr n0 locs) (ea ua : Addr) (sz : Int32) (E : Nat → Int64) (U : Nat → Int32) (O : own_O Z h0 n0 o20 ea ua sz E U) (N : Nat) (hN : i6.toInt = (N : Int)) (hU : U 1 = 0) :
    ∃ (T' : State) (h' : Heap) (locs' : List Loc) (U' : Nat → Int32), Stand p l e room_1 s m args below meth c T' locs' 3 19 ∧ Fr n0 locs' ∧ T'.heap = h' ∧ own_O Z h' n0 o20 ea ua sz E U' ∧ (∀ j, j ≠ 1 → U' j = U j) ∧ (1 < N → (U' 1 = 0 ↔ i16 = 0)) ∧
      ∀ target, Steps p.tables e below (T'.setTop (mkF m 374 #[s0, s1, s2, s3, s4, s5, .val (.int i6), s7, s8, s9, s10, s11, s12, s13, s14, s15, .val (.int i16), s17, s18, s19, .val (.ref o20), s21, s22, s23] [])) target → Steps p.tables e below (T0.setTop (mkF m 357 #[s0, s1, s2, s3, s4, s5, .val (.int i6), s7, s8, s9, s10, s11, s12, s13, s14, s15, .val (.int i16), s17, s18, s19, .val (.ref o20), s21, s22, s23] [])) target := by
  have ek : (1 : Int32).toInt = 1 := by decide
  by_cases q : (1 : Int32) < i6
  · by_cases r : i16 = (0 : Int32)
    · obtain ⟨T1, L1, X1, N1, e1, st1⟩ := tn0_357_ft s0 s1 s2 s3 s4 s5 i6 s7 s8 s9 s10 s11 s12 s13 s14 s15 i16 s17 s18 s19 (.val (.ref o20)) s21 s22 s23 X0 hx hZ hw hby hml hown e0 n0 Z0 N0 q r
      exact ⟨T1, h0, L1, U, X1, N1, e1, O, fun j _ => rfl, fun _ => ⟨fun _ => r, fun _ => hU⟩, st1⟩
    · obtain ⟨T1, h1, L1, X1, N1, e1, O1, st1⟩ := tn0_357_ff s0 s1 s2 s3 s4 s5 i6 s7 s8 s9 s10 s11 s12 s13 s14 s15 i16 s17 s18 s19 o20 s21 s22 s23 X0 hx hZ hw hby hml hown e0 n0 Z0 N0 O.1 q r ea ua sz E U O
      exact ⟨T1, h1, L1, _, X1, N1, e1, O1, fun j hj => if_neg hj, fun _ => ⟨fun h => absurd h (by rw [if_pos rfl]; decide), fun h => absurd h r⟩, st1⟩
  · have q' := q
    rw [own_lt, ek] at q'
    obtain ⟨T1, L1, X1, N1, e1, st1⟩ := tn0_357_t s0 s1 s2 s3 s4 s5 i6 s7 s8 s9 s10 s11 s12 s13 s14 s15 (.val (.int i16)) s17 s18 s19 (.val (.ref o20)) s21 s22 s23 X0 hx hZ hw hby hml hown e0 n0 Z0 N0 q
    exact ⟨T1, h0, L1, U, X1, N1, e1, O, fun j _ => rfl, fun h => absurd h (by omega), st1⟩
set_option maxRecDepth 65536 in
set_option maxHeartbeats 40000000 in
theorem tn0_374_t {p : Program} {l : Launch} {e : Env} {s : State} {m : MethodId} {args : Array Value} {below : List Frame} {meth : Method} {c : Code} {T0 : State} {locs : List Loc} {Z : State} {a0 : Array Value} {h0 : Heap} (s0 : Slot) (s1 : Slot) (s2 : Slot) (s3 : Slot) (s4 : Slot) (s5 : Slot) (i6 : Int32) (s7 : Slot) (s8 : Slot) (s9 : Slot) (s10 : Slot) (s11 : Slot) (s12 : Slot) (s13 : Slot) (s14 : Slot) (s15 : Slot) (s16 : Slot) (s17 : Slot) (s18 : Slot) (s19 : Slot) (s20 : Slot) (s21 : Slot) (s22 : Slot) (s23 : Slot)
    (X0 : Stand p l e room_1 s m args below meth c T0 locs 3 19) (hx : p.tables.exec = Jvm.exec) (hZ : Z.Warmed39 s.vm) (hw : ∀ d ∈ tables_1, d.before a0 Z = true) (hby : c.code = code) (hml : c.maxLocals = 24) (hown : s.vm.findClass "com/example/umbel/umbel/query/OccurrencesFirstUnusedAfterPinLaw" = some m.cls) (e0 : T0.heap = h0) (n0 : Nat) (Z0 : n0 ≤ h0.size) (N0 : Fr n0 locs) (hc377 : ¬ ((2 : Int32) < i6)) :
    ∃ (T' : State) (locs' : List Loc), Stand p l e room_1 s m args below meth c T' locs' 3 19 ∧ Fr n0 locs' ∧ T'.heap = h0 ∧
      ∀ target, Steps p.tables e below (T'.setTop (mkF m 391 #[s0, s1, s2, s3, s4, s5, .val (.int i6), s7, s8, s9, s10, s11, s12, s13, s14, s15, s16, s17, s18, s19, s20, s21, s22, s23] [])) target → Steps p.tables e below (T0.setTop (mkF m 374 #[s0, s1, s2, s3, s4, s5, .val (.int i6), s7, s8, s9, s10, s11, s12, s13, s14, s15, s16, s17, s18, s19, s20, s21, s22, s23] [])) target := by
  refine ⟨T0, _, X0, N0, e0, fun target kt => ?_⟩
  show Steps p.tables e below (T0.setTop (mkF m 374 #[s0, s1, s2, s3, s4, s5, .val (.int i6), s7, s8, s9, s10, s11, s12, s13, s14, s15, s16, s17, s18, s19, s20, s21, s22, s23] [])) _
  refine XS.iload X0.here hx rfl (hb hby at_374) rfl ?_
  show Steps p.tables e below (T0.setTop (mkF m 376 #[s0, s1, s2, s3, s4, s5, .val (.int i6), s7, s8, s9, s10, s11, s12, s13, s14, s15, s16, s17, s18, s19, s20, s21, s22, s23] [(.int i6)])) _
  refine XS.iconst X0.here hx rfl (hb hby at_376) ?_
  show Steps p.tables e below (T0.setTop (mkF m 377 #[s0, s1, s2, s3, s4, s5, .val (.int i6), s7, s8, s9, s10, s11, s12, s13, s14, s15, s16, s17, s18, s19, s20, s21, s22, s23] [(.int (2 : Int32)), (.int i6)])) _
  refine XS.icmpYes X0.here hx rfl (pc0 := 377) (pc' := 391) rfl (hb hby at_377) rfl (flt hc377).2.2.2 (by decide) (by decide) ?_
  exact kt
set_option maxRecDepth 65536 in
set_option maxHeartbeats 40000000 in
theorem tn0_374_ft {p : Program} {l : Launch} {e : Env} {s : State} {m : MethodId} {args : Array Value} {below : List Frame} {meth : Method} {c : Code} {T0 : State} {locs : List Loc} {Z : State} {a0 : Array Value} {h0 : Heap} (s0 : Slot) (s1 : Slot) (s2 : Slot) (s3 : Slot) (s4 : Slot) (s5 : Slot) (i6 : Int32) (s7 : Slot) (s8 : Slot) (s9 : Slot) (s10 : Slot) (s11 : Slot) (s12 : Slot) (s13 : Slot) (s14 : Slot) (s15 : Slot) (s16 : Slot) (i17 : Int32) (s18 : Slot) (s19 : Slot) (s20 : Slot) (s21 : Slot) (s22 : Slot) (s23 : Slot)
    (X0 : Stand p l e room_1 s m args below meth c T0 locs 3 19) (hx : p.tables.exec = Jvm.exec) (hZ : Z.Warmed39 s.vm) (hw : ∀ d ∈ tables_1, d.before a0 Z = true) (hby : c.code = code) (hml : c.maxLocals = 24) (hown : s.vm.findClass "com/example/umbel/umbel/query/OccurrencesFirstUnusedAfterPinLaw" = some m.cls) (e0 : T0.heap = h0) (n0 : Nat) (Z0 : n0 ≤ h0.size) (N0 : Fr n0 locs) (hc377 : (2 : Int32) < i6) (hc382 : i17 = (0 : Int32)) :
    ∃ (T' : State) (locs' : List Loc), Stand p l e room_1 s m args below meth c T' locs' 3 19 ∧ Fr n0 locs' ∧ T'.heap = h0 ∧
      ∀ target, Steps p.tables e below (T'.setTop (mkF m 391 #[s0, s1, s2, s3, s4, s5, .val (.int i6), s7, s8, s9, s10, s11, s12, s13, s14, s15, s16, .val (.int i17), s18, s19, s20, s21, s22, s23] [])) target → Steps p.tables e below (T0.setTop (mkF m 374 #[s0, s1, s2, s3, s4, s5, .val (.int i6), s7, s8, s9, s10, s11, s12, s13, s14, s15, s16, .val (.int i17), s18, s19, s20, s21, s22, s23] [])) target := by
  refine ⟨T0, _, X0, N0, e0, fun target kt => ?_⟩
  show Steps p.tables e below (T0.setTop (mkF m 374 #[s0, s1, s2, s3, s4, s5, .val (.int i6), s7, s8, s9, s10, s11, s12, s13, s14, s15, s16, .val (.int i17), s18, s19, s20, s21, s22, s23] [])) _
  refine XS.iload X0.here hx rfl (hb hby at_374) rfl ?_
  show Steps p.tables e below (T0.setTop (mkF m 376 #[s0, s1, s2, s3, s4, s5, .val (.int i6), s7, s8, s9, s10, s11, s12, s13, s14, s15, s16, .val (.int i17), s18, s19, s20, s21, s22, s23] [(.int i6)])) _
  refine XS.iconst X0.here hx rfl (hb hby at_376) ?_
  show Steps p.tables e below (T0.setTop (mkF m 377 #[s0, s1, s2, s3, s4, s5, .val (.int i6), s7, s8, s9, s10, s11, s12, s13, s14, s15, s16, .val (.int i17), s18, s19, s20, s21, s22, s23] [(.int (2 : Int32)), (.int i6)])) _
  refine XS.icmpNo X0.here hx rfl (hb hby at_377) rfl (tlt hc377).2.2.2 ?_
  show Steps p.tables e below (T0.setTop (mkF m 380 #[s0, s1, s2, s3, s4, s5, .val (.int i6), s7, s8, s9, s10, s11, s12, s13, s14, s15, s16, .val (.int i17), s18, s19, s20, s21, s22, s23] [])) _
  refine XS.iload X0.here hx rfl (hb hby at_380) rfl ?_
  show Steps p.tables e below (T0.setTop (mkF m 382 #[s0, s1, s2, s3, s4, s5, .val (.int i6), s7, s8, s9, s10, s11, s12, s13, s14, s15, s16, .val (.int i17), s18, s19, s20, s21, s22, s23] [(.int i17)])) _
  refine XS.ifYes X0.here hx rfl (pc0 := 382) (pc' := 391) rfl (hb hby at_382) rfl ((if0 _ _).trans (teq hc382).1) (by decide) (by decide) ?_
  exact kt
set_option maxRecDepth 65536 in
set_option maxHeartbeats 40000000 in
theorem tn0_374_ff {p : Program} {l : Launch} {e : Env} {s : State} {m : MethodId} {args : Array Value} {below : List Frame} {meth : Method} {c : Code} {T0 : State} {locs : List Loc} {Z : State} {a0 : Array Value} {h0 : Heap} (s0 : Slot) (s1 : Slot) (s2 : Slot) (s3 : Slot) (s4 : Slot) (s5 : Slot) (i6 : Int32) (s7 : Slot) (s8 : Slot) (s9 : Slot) (s10 : Slot) (s11 : Slot) (s12 : Slot) (s13 : Slot) (s14 : Slot) (s15 : Slot) (s16 : Slot) (i17 : Int32) (s18 : Slot) (s19 : Slot) (o20 : Addr) (s21 : Slot) (s22 : Slot) (s23 : Slot)
    (X0 : Stand p l e room_1 s m args below meth c T0 locs 3 19) (hx : p.tables.exec = Jvm.exec) (hZ : Z.Warmed39 s.vm) (hw : ∀ d ∈ tables_1, d.before a0 Z = true) (hby : c.code = code) (hml : c.maxLocals = 24) (hown : s.vm.findClass "com/example/umbel/umbel/query/OccurrencesFirstUnusedAfterPinLaw" = some m.cls) (e0 : T0.heap = h0) (n0 : Nat) (Z0 : n0 ≤ h0.size) (N0 : Fr n0 locs) (E_o20 : Exa Z h0 o20 "com/example/umbel/umbel/query/Occurrences") (hc377 : (2 : Int32) < i6) (hc382 : ¬ (i17 = (0 : Int32))) (ea ua : Addr) (sz : Int32) (E : Nat → Int64) (U : Nat → Int32) (O : own_O Z h0 n0 o20 ea ua sz E U) :
    ∃ (T' : State) (h' : Heap) (locs' : List Loc), Stand p l e room_1 s m args below meth c T' locs' 3 19 ∧ Fr n0 locs' ∧ T'.heap = h' ∧ own_O Z h' n0 o20 ea ua sz E (fun j => if j = 2 then 1 else U j) ∧
      ∀ target, Steps p.tables e below (T'.setTop (mkF m 391 #[s0, s1, s2, s3, s4, s5, .val (.int i6), s7, s8, s9, s10, s11, s12, s13, s14, s15, s16, .val (.int i17), s18, s19, .val (.ref o20), s21, s22, s23] [])) target → Steps p.tables e below (T0.setTop (mkF m 374 #[s0, s1, s2, s3, s4, s5, .val (.int i6), s7, s8, s9, s10, s11, s12, s13, s14, s15, s16, .val (.int i17), s18, s19, .val (.ref o20), s21, s22, s23] [])) target := by
  obtain ⟨cq6, kq6, q6a, q6b, q6c⟩ := isOf hZ e0 E_o20
  obtain ⟨_, _, ⟨T6, L6, k6, n6⟩, -, X6, ⟨Lc6, hQ6, l6, y6, z6⟩, st6⟩ := X0.virtualBack hx (y := (⟨"com/example/umbel/umbel/query/Occurrences", "markUsed", "(I)V"⟩ : MethodName)) (z := (⟨"com/example/umbel/umbel/query/Occurrences", "markUsed", "(I)V"⟩ : MethodName)) hown (mvT hZ (hw _ (List.mem_of_getElem? (i := 55) rfl))) (mvT hZ (hw _ (List.mem_of_getElem? (i := 56) rfl))) (notFace_of_selects (args := #[]) (mvT hZ (hw _ (List.mem_of_getElem? (i := 58) rfl)))) (mvT hZ (hw _ (List.mem_of_getElem? (i := 58) rfl))) (mvT hZ (hw _ (List.mem_of_getElem? (i := 57) rfl))) (by decide) (backOf (W := 0) (rm12 l Z a0 hw [] o20 (2 : Int32) ea ua sz 2 E U h0 n0 Z0 O (by decide) (by omega)) hZ (hw _ (List.mem_of_getElem? (i := 59) rfl)) (hw _ (List.mem_of_getElem? (i := 20) rfl)) (by decide) (by decide)) q6a q6c (g := (mkF m 388 #[s0, s1, s2, s3, s4, s5, .val (.int i6), s7, s8, s9, s10, s11, s12, s13, s14, s15, s16, .val (.int i17), s18, s19, .val (.ref o20), s21, s22, s23] [(.int (2 : Int32)), (.ref o20)])) rfl (by rw [hml]; rfl) (Steps.refl _) (argsL := [(.int (2 : Int32))]) (rest := []) (lenOf pd_0_7 rfl) rfl (by show 2 * 0 + _ ≤ _; exact Nat.le_of_eq rfl) (hb hby at_388) (fun _ _ => ⟨rfl, e0, (by decide : 3 + 0 ≤ _), (by decide : 19 + 0 ≤ _)⟩)
  dsimp only [Pt.U, Pt.locs, Pt.cells, Pt.slots] at X6 l6 y6 z6 st6 hQ6
  subst l6 y6 z6
  obtain ⟨rfl, N6q, O6⟩ := hQ6
  have N6 := Fr.app N0 N6q
  refine ⟨T6, _, _, X6, N6, rfl, O6, fun target kt => ?_⟩
  show Steps p.tables e below (T0.setTop (mkF m 374 #[s0, s1, s2, s3, s4, s5, .val (.int i6), s7, s8, s9, s10, s11, s12, s13, s14, s15, s16, .val (.int i17), s18, s19, .val (.ref o20), s21, s22, s23] [])) _
  refine XS.iload X0.here hx rfl (hb hby at_374) rfl ?_
  show Steps p.tables e below (T0.setTop (mkF m 376 #[s0, s1, s2, s3, s4, s5, .val (.int i6), s7, s8, s9, s10, s11, s12, s13, s14, s15, s16, .val (.int i17), s18, s19, .val (.ref o20), s21, s22, s23] [(.int i6)])) _
  refine XS.iconst X0.here hx rfl (hb hby at_376) ?_
  show Steps p.tables e below (T0.setTop (mkF m 377 #[s0, s1, s2, s3, s4, s5, .val (.int i6), s7, s8, s9, s10, s11, s12, s13, s14, s15, s16, .val (.int i17), s18, s19, .val (.ref o20), s21, s22, s23] [(.int (2 : Int32)), (.int i6)])) _
  refine XS.icmpNo X0.here hx rfl (hb hby at_377) rfl (tlt hc377).2.2.2 ?_
  show Steps p.tables e below (T0.setTop (mkF m 380 #[s0, s1, s2, s3, s4, s5, .val (.int i6), s7, s8, s9, s10, s11, s12, s13, s14, s15, s16, .val (.int i17), s18, s19, .val (.ref o20), s21, s22, s23] [])) _
  refine XS.iload X0.here hx rfl (hb hby at_380) rfl ?_
  show Steps p.tables e below (T0.setTop (mkF m 382 #[s0, s1, s2, s3, s4, s5, .val (.int i6), s7, s8, s9, s10, s11, s12, s13, s14, s15, s16, .val (.int i17), s18, s19, .val (.ref o20), s21, s22, s23] [(.int i17)])) _
  refine XS.ifNo X0.here hx rfl (hb hby at_382) rfl ((if0 _ _).trans (feq hc382).1) ?_
  show Steps p.tables e below (T0.setTop (mkF m 385 #[s0, s1, s2, s3, s4, s5, .val (.int i6), s7, s8, s9, s10, s11, s12, s13, s14, s15, s16, .val (.int i17), s18, s19, .val (.ref o20), s21, s22, s23] [])) _
  refine XS.aload X0.here hx rfl (hb hby at_385) rfl rfl ?_
  show Steps p.tables e below (T0.setTop (mkF m 387 #[s0, s1, s2, s3, s4, s5, .val (.int i6), s7, s8, s9, s10, s11, s12, s13, s14, s15, s16, .val (.int i17), s18, s19, .val (.ref o20), s21, s22, s23] [(.ref o20)])) _
  refine XS.iconst X0.here hx rfl (hb hby at_387) ?_
  show Steps p.tables e below (T0.setTop (mkF m 388 #[s0, s1, s2, s3, s4, s5, .val (.int i6), s7, s8, s9, s10, s11, s12, s13, s14, s15, s16, .val (.int i17), s18, s19, .val (.ref o20), s21, s22, s23] [(.int (2 : Int32)), (.ref o20)])) _
  refine st6.trans ?_
  exact kt
theorem mark2 {p : Program} {l : Launch} {e : Env} {s : State} {m : MethodId} {args : Array Value} {below : List Frame} {meth : Method} {c : Code} {Z : State} {a0 : Array Value} {h0 : Heap} {T0 : State} {locs : List Loc} (s0 : Slot) (s1 : Slot) (s2 : Slot) (s3 : Slot) (s4 : Slot) (s5 : Slot) (i6 : Int32) (s7 : Slot) (s8 : Slot) (s9 : Slot) (s10 : Slot) (s11 : Slot) (s12 : Slot) (s13 : Slot) (s14 : Slot) (s15 : Slot) (s16 : Slot) (i17 : Int32) (s18 : Slot) (s19 : Slot) (o20 : Addr) (s21 : Slot) (s22 : Slot) (s23 : Slot)
    (X0 : Stand p l e room_1 s m args below meth c T0 locs 3 19) (hx : p.tables.exec = Jvm.exec) (hZ : Z.Warmed39 s.vm) (hw : ∀ d ∈ tables_1, d.before a0 Z = true) (hby : c.code = code) (hml : c.maxLocals = 24) (hown : s.vm.findClass "com/example/umbel/umbel/query/OccurrencesFirstUnusedAfterPinLaw" = some m.cls) (e0 : T0.heap = h0) (n0 : Nat) (Z0 : n0 ≤ h0.size) (N0 : Fr n0 locs) (ea ua : Addr) (sz : Int32) (E : Nat → Int64) (U : Nat → Int32) (O : own_O Z h0 n0 o20 ea ua sz E U) (N : Nat) (hN : i6.toInt = (N : Int)) (hU : U 2 = 0) :
    ∃ (T' : State) (h' : Heap) (locs' : List Loc) (U' : Nat → Int32), Stand p l e room_1 s m args below meth c T' locs' 3 19 ∧ Fr n0 locs' ∧ T'.heap = h' ∧ own_O Z h' n0 o20 ea ua sz E U' ∧ (∀ j, j ≠ 2 → U' j = U j) ∧ (2 < N → (U' 2 = 0 ↔ i17 = 0)) ∧
      ∀ target, Steps p.tables e below (T'.setTop (mkF m 391 #[s0, s1, s2, s3, s4, s5, .val (.int i6), s7, s8, s9, s10, s11, s12, s13, s14, s15, s16, .val (.int i17), s18, s19, .val (.ref o20), s21, s22, s23] [])) target → Steps p.tables e below (T0.setTop (mkF m 374 #[s0, s1, s2, s3, s4, s5, .val (.int i6), s7, s8, s9, s10, s11, s12, s13, s14, s15, s16, .val (.int i17), s18, s19, .val (.ref o20), s21, s22, s23] [])) target := by
  have ek : (2 : Int32).toInt = 2 := by decide
  by_cases q : (2 : Int32) < i6
  · by_cases r : i17 = (0 : Int32)
    · obtain ⟨T1, L1, X1, N1, e1, st1⟩ := tn0_374_ft s0 s1 s2 s3 s4 s5 i6 s7 s8 s9 s10 s11 s12 s13 s14 s15 s16 i17 s18 s19 (.val (.ref o20)) s21 s22 s23 X0 hx hZ hw hby hml hown e0 n0 Z0 N0 q r
      exact ⟨T1, h0, L1, U, X1, N1, e1, O, fun j _ => rfl, fun _ => ⟨fun _ => r, fun _ => hU⟩, st1⟩
    · obtain ⟨T1, h1, L1, X1, N1, e1, O1, st1⟩ := tn0_374_ff s0 s1 s2 s3 s4 s5 i6 s7 s8 s9 s10 s11 s12 s13 s14 s15 s16 i17 s18 s19 o20 s21 s22 s23 X0 hx hZ hw hby hml hown e0 n0 Z0 N0 O.1 q r ea ua sz E U O
      exact ⟨T1, h1, L1, _, X1, N1, e1, O1, fun j hj => if_neg hj, fun _ => ⟨fun h => absurd h (by rw [if_pos rfl]; decide), fun h => absurd h r⟩, st1⟩
  · have q' := q
    rw [own_lt, ek] at q'
    obtain ⟨T1, L1, X1, N1, e1, st1⟩ := tn0_374_t s0 s1 s2 s3 s4 s5 i6 s7 s8 s9 s10 s11 s12 s13 s14 s15 s16 (.val (.int i17)) s18 s19 (.val (.ref o20)) s21 s22 s23 X0 hx hZ hw hby hml hown e0 n0 Z0 N0 q
    exact ⟨T1, h0, L1, U, X1, N1, e1, O, fun j _ => rfl, fun h => absurd h (by omega), st1⟩
set_option maxRecDepth 65536 in
set_option maxHeartbeats 40000000 in
theorem tn0_391_t {p : Program} {l : Launch} {e : Env} {s : State} {m : MethodId} {args : Array Value} {below : List Frame} {meth : Method} {c : Code} {T0 : State} {locs : List Loc} {Z : State} {a0 : Array Value} {h0 : Heap} (s0 : Slot) (s1 : Slot) (s2 : Slot) (s3 : Slot) (s4 : Slot) (s5 : Slot) (i6 : Int32) (s7 : Slot) (s8 : Slot) (s9 : Slot) (s10 : Slot) (s11 : Slot) (s12 : Slot) (s13 : Slot) (s14 : Slot) (s15 : Slot) (s16 : Slot) (s17 : Slot) (s18 : Slot) (s19 : Slot) (s20 : Slot) (s21 : Slot) (s22 : Slot) (s23 : Slot)
    (X0 : Stand p l e room_1 s m args below meth c T0 locs 3 19) (hx : p.tables.exec = Jvm.exec) (hZ : Z.Warmed39 s.vm) (hw : ∀ d ∈ tables_1, d.before a0 Z = true) (hby : c.code = code) (hml : c.maxLocals = 24) (hown : s.vm.findClass "com/example/umbel/umbel/query/OccurrencesFirstUnusedAfterPinLaw" = some m.cls) (e0 : T0.heap = h0) (n0 : Nat) (Z0 : n0 ≤ h0.size) (N0 : Fr n0 locs) (hc394 : ¬ ((3 : Int32) < i6)) :
    ∃ (T' : State) (locs' : List Loc), Stand p l e room_1 s m args below meth c T' locs' 3 19 ∧ Fr n0 locs' ∧ T'.heap = h0 ∧
      ∀ target, Steps p.tables e below (T'.setTop (mkF m 408 #[s0, s1, s2, s3, s4, s5, .val (.int i6), s7, s8, s9, s10, s11, s12, s13, s14, s15, s16, s17, s18, s19, s20, s21, s22, s23] [])) target → Steps p.tables e below (T0.setTop (mkF m 391 #[s0, s1, s2, s3, s4, s5, .val (.int i6), s7, s8, s9, s10, s11, s12, s13, s14, s15, s16, s17, s18, s19, s20, s21, s22, s23] [])) target := by
  refine ⟨T0, _, X0, N0, e0, fun target kt => ?_⟩
  show Steps p.tables e below (T0.setTop (mkF m 391 #[s0, s1, s2, s3, s4, s5, .val (.int i6), s7, s8, s9, s10, s11, s12, s13, s14, s15, s16, s17, s18, s19, s20, s21, s22, s23] [])) _
  refine XS.iload X0.here hx rfl (hb hby at_391) rfl ?_
  show Steps p.tables e below (T0.setTop (mkF m 393 #[s0, s1, s2, s3, s4, s5, .val (.int i6), s7, s8, s9, s10, s11, s12, s13, s14, s15, s16, s17, s18, s19, s20, s21, s22, s23] [(.int i6)])) _
  refine XS.iconst X0.here hx rfl (hb hby at_393) ?_
  show Steps p.tables e below (T0.setTop (mkF m 394 #[s0, s1, s2, s3, s4, s5, .val (.int i6), s7, s8, s9, s10, s11, s12, s13, s14, s15, s16, s17, s18, s19, s20, s21, s22, s23] [(.int (3 : Int32)), (.int i6)])) _
  refine XS.icmpYes X0.here hx rfl (pc0 := 394) (pc' := 408) rfl (hb hby at_394) rfl (flt hc394).2.2.2 (by decide) (by decide) ?_
  exact kt
set_option maxRecDepth 65536 in
set_option maxHeartbeats 40000000 in
theorem tn0_391_ft {p : Program} {l : Launch} {e : Env} {s : State} {m : MethodId} {args : Array Value} {below : List Frame} {meth : Method} {c : Code} {T0 : State} {locs : List Loc} {Z : State} {a0 : Array Value} {h0 : Heap} (s0 : Slot) (s1 : Slot) (s2 : Slot) (s3 : Slot) (s4 : Slot) (s5 : Slot) (i6 : Int32) (s7 : Slot) (s8 : Slot) (s9 : Slot) (s10 : Slot) (s11 : Slot) (s12 : Slot) (s13 : Slot) (s14 : Slot) (s15 : Slot) (s16 : Slot) (s17 : Slot) (i18 : Int32) (s19 : Slot) (s20 : Slot) (s21 : Slot) (s22 : Slot) (s23 : Slot)
    (X0 : Stand p l e room_1 s m args below meth c T0 locs 3 19) (hx : p.tables.exec = Jvm.exec) (hZ : Z.Warmed39 s.vm) (hw : ∀ d ∈ tables_1, d.before a0 Z = true) (hby : c.code = code) (hml : c.maxLocals = 24) (hown : s.vm.findClass "com/example/umbel/umbel/query/OccurrencesFirstUnusedAfterPinLaw" = some m.cls) (e0 : T0.heap = h0) (n0 : Nat) (Z0 : n0 ≤ h0.size) (N0 : Fr n0 locs) (hc394 : (3 : Int32) < i6) (hc399 : i18 = (0 : Int32)) :
    ∃ (T' : State) (locs' : List Loc), Stand p l e room_1 s m args below meth c T' locs' 3 19 ∧ Fr n0 locs' ∧ T'.heap = h0 ∧
      ∀ target, Steps p.tables e below (T'.setTop (mkF m 408 #[s0, s1, s2, s3, s4, s5, .val (.int i6), s7, s8, s9, s10, s11, s12, s13, s14, s15, s16, s17, .val (.int i18), s19, s20, s21, s22, s23] [])) target → Steps p.tables e below (T0.setTop (mkF m 391 #[s0, s1, s2, s3, s4, s5, .val (.int i6), s7, s8, s9, s10, s11, s12, s13, s14, s15, s16, s17, .val (.int i18), s19, s20, s21, s22, s23] [])) target := by
  refine ⟨T0, _, X0, N0, e0, fun target kt => ?_⟩
  show Steps p.tables e below (T0.setTop (mkF m 391 #[s0, s1, s2, s3, s4, s5, .val (.int i6), s7, s8, s9, s10, s11, s12, s13, s14, s15, s16, s17, .val (.int i18), s19, s20, s21, s22, s23] [])) _
  refine XS.iload X0.here hx rfl (hb hby at_391) rfl ?_
  show Steps p.tables e below (T0.setTop (mkF m 393 #[s0, s1, s2, s3, s4, s5, .val (.int i6), s7, s8, s9, s10, s11, s12, s13, s14, s15, s16, s17, .val (.int i18), s19, s20, s21, s22, s23] [(.int i6)])) _
  refine XS.iconst X0.here hx rfl (hb hby at_393) ?_
  show Steps p.tables e below (T0.setTop (mkF m 394 #[s0, s1, s2, s3, s4, s5, .val (.int i6), s7, s8, s9, s10, s11, s12, s13, s14, s15, s16, s17, .val (.int i18), s19, s20, s21, s22, s23] [(.int (3 : Int32)), (.int i6)])) _
  refine XS.icmpNo X0.here hx rfl (hb hby at_394) rfl (tlt hc394).2.2.2 ?_
  show Steps p.tables e below (T0.setTop (mkF m 397 #[s0, s1, s2, s3, s4, s5, .val (.int i6), s7, s8, s9, s10, s11, s12, s13, s14, s15, s16, s17, .val (.int i18), s19, s20, s21, s22, s23] [])) _
  refine XS.iload X0.here hx rfl (hb hby at_397) rfl ?_
  show Steps p.tables e below (T0.setTop (mkF m 399 #[s0, s1, s2, s3, s4, s5, .val (.int i6), s7, s8, s9, s10, s11, s12, s13, s14, s15, s16, s17, .val (.int i18), s19, s20, s21, s22, s23] [(.int i18)])) _
  refine XS.ifYes X0.here hx rfl (pc0 := 399) (pc' := 408) rfl (hb hby at_399) rfl ((if0 _ _).trans (teq hc399).1) (by decide) (by decide) ?_
  exact kt
set_option maxRecDepth 65536 in
set_option maxHeartbeats 40000000 in
theorem tn0_391_ff {p : Program} {l : Launch} {e : Env} {s : State} {m : MethodId} {args : Array Value} {below : List Frame} {meth : Method} {c : Code} {T0 : State} {locs : List Loc} {Z : State} {a0 : Array Value} {h0 : Heap} (s0 : Slot) (s1 : Slot) (s2 : Slot) (s3 : Slot) (s4 : Slot) (s5 : Slot) (i6 : Int32) (s7 : Slot) (s8 : Slot) (s9 : Slot) (s10 : Slot) (s11 : Slot) (s12 : Slot) (s13 : Slot) (s14 : Slot) (s15 : Slot) (s16 : Slot) (s17 : Slot) (i18 : Int32) (s19 : Slot) (o20 : Addr) (s21 : Slot) (s22 : Slot) (s23 : Slot)
    (X0 : Stand p l e room_1 s m args below meth c T0 locs 3 19) (hx : p.tables.exec = Jvm.exec) (hZ : Z.Warmed39 s.vm) (hw : ∀ d ∈ tables_1, d.before a0 Z = true) (hby : c.code = code) (hml : c.maxLocals = 24) (hown : s.vm.findClass "com/example/umbel/umbel/query/OccurrencesFirstUnusedAfterPinLaw" = some m.cls) (e0 : T0.heap = h0) (n0 : Nat) (Z0 : n0 ≤ h0.size) (N0 : Fr n0 locs) (E_o20 : Exa Z h0 o20 "com/example/umbel/umbel/query/Occurrences") (hc394 : (3 : Int32) < i6) (hc399 : ¬ (i18 = (0 : Int32))) (ea ua : Addr) (sz : Int32) (E : Nat → Int64) (U : Nat → Int32) (O : own_O Z h0 n0 o20 ea ua sz E U) :
    ∃ (T' : State) (h' : Heap) (locs' : List Loc), Stand p l e room_1 s m args below meth c T' locs' 3 19 ∧ Fr n0 locs' ∧ T'.heap = h' ∧ own_O Z h' n0 o20 ea ua sz E (fun j => if j = 3 then 1 else U j) ∧
      ∀ target, Steps p.tables e below (T'.setTop (mkF m 408 #[s0, s1, s2, s3, s4, s5, .val (.int i6), s7, s8, s9, s10, s11, s12, s13, s14, s15, s16, s17, .val (.int i18), s19, .val (.ref o20), s21, s22, s23] [])) target → Steps p.tables e below (T0.setTop (mkF m 391 #[s0, s1, s2, s3, s4, s5, .val (.int i6), s7, s8, s9, s10, s11, s12, s13, s14, s15, s16, s17, .val (.int i18), s19, .val (.ref o20), s21, s22, s23] [])) target := by
  obtain ⟨cq6, kq6, q6a, q6b, q6c⟩ := isOf hZ e0 E_o20
  obtain ⟨_, _, ⟨T6, L6, k6, n6⟩, -, X6, ⟨Lc6, hQ6, l6, y6, z6⟩, st6⟩ := X0.virtualBack hx (y := (⟨"com/example/umbel/umbel/query/Occurrences", "markUsed", "(I)V"⟩ : MethodName)) (z := (⟨"com/example/umbel/umbel/query/Occurrences", "markUsed", "(I)V"⟩ : MethodName)) hown (mvT hZ (hw _ (List.mem_of_getElem? (i := 55) rfl))) (mvT hZ (hw _ (List.mem_of_getElem? (i := 56) rfl))) (notFace_of_selects (args := #[]) (mvT hZ (hw _ (List.mem_of_getElem? (i := 58) rfl)))) (mvT hZ (hw _ (List.mem_of_getElem? (i := 58) rfl))) (mvT hZ (hw _ (List.mem_of_getElem? (i := 57) rfl))) (by decide) (backOf (W := 0) (rm12 l Z a0 hw [] o20 (3 : Int32) ea ua sz 3 E U h0 n0 Z0 O (by decide) (by omega)) hZ (hw _ (List.mem_of_getElem? (i := 59) rfl)) (hw _ (List.mem_of_getElem? (i := 20) rfl)) (by decide) (by decide)) q6a q6c (g := (mkF m 405 #[s0, s1, s2, s3, s4, s5, .val (.int i6), s7, s8, s9, s10, s11, s12, s13, s14, s15, s16, s17, .val (.int i18), s19, .val (.ref o20), s21, s22, s23] [(.int (3 : Int32)), (.ref o20)])) rfl (by rw [hml]; rfl) (Steps.refl _) (argsL := [(.int (3 : Int32))]) (rest := []) (lenOf pd_0_7 rfl) rfl (by show 2 * 0 + _ ≤ _; exact Nat.le_of_eq rfl) (hb hby at_405) (fun _ _ => ⟨rfl, e0, (by decide : 3 + 0 ≤ _), (by decide : 19 + 0 ≤ _)⟩)
  dsimp only [Pt.U, Pt.locs, Pt.cells, Pt.slots] at X6 l6 y6 z6 st6 hQ6
  subst l6 y6 z6
  obtain ⟨rfl, N6q, O6⟩ := hQ6
  have N6 := Fr.app N0 N6q
  refine ⟨T6, _, _, X6, N6, rfl, O6, fun target kt => ?_⟩
  show Steps p.tables e below (T0.setTop (mkF m 391 #[s0, s1, s2, s3, s4, s5, .val (.int i6), s7, s8, s9, s10, s11, s12, s13, s14, s15, s16, s17, .val (.int i18), s19, .val (.ref o20), s21, s22, s23] [])) _
  refine XS.iload X0.here hx rfl (hb hby at_391) rfl ?_
  show Steps p.tables e below (T0.setTop (mkF m 393 #[s0, s1, s2, s3, s4, s5, .val (.int i6), s7, s8, s9, s10, s11, s12, s13, s14, s15, s16, s17, .val (.int i18), s19, .val (.ref o20), s21, s22, s23] [(.int i6)])) _
  refine XS.iconst X0.here hx rfl (hb hby at_393) ?_
  show Steps p.tables e below (T0.setTop (mkF m 394 #[s0, s1, s2, s3, s4, s5, .val (.int i6), s7, s8, s9, s10, s11, s12, s13, s14, s15, s16, s17, .val (.int i18), s19, .val (.ref o20), s21, s22, s23] [(.int (3 : Int32)), (.int i6)])) _
  refine XS.icmpNo X0.here hx rfl (hb hby at_394) rfl (tlt hc394).2.2.2 ?_
  show Steps p.tables e below (T0.setTop (mkF m 397 #[s0, s1, s2, s3, s4, s5, .val (.int i6), s7, s8, s9, s10, s11, s12, s13, s14, s15, s16, s17, .val (.int i18), s19, .val (.ref o20), s21, s22, s23] [])) _
  refine XS.iload X0.here hx rfl (hb hby at_397) rfl ?_
  show Steps p.tables e below (T0.setTop (mkF m 399 #[s0, s1, s2, s3, s4, s5, .val (.int i6), s7, s8, s9, s10, s11, s12, s13, s14, s15, s16, s17, .val (.int i18), s19, .val (.ref o20), s21, s22, s23] [(.int i18)])) _
  refine XS.ifNo X0.here hx rfl (hb hby at_399) rfl ((if0 _ _).trans (feq hc399).1) ?_
  show Steps p.tables e below (T0.setTop (mkF m 402 #[s0, s1, s2, s3, s4, s5, .val (.int i6), s7, s8, s9, s10, s11, s12, s13, s14, s15, s16, s17, .val (.int i18), s19, .val (.ref o20), s21, s22, s23] [])) _
  refine XS.aload X0.here hx rfl (hb hby at_402) rfl rfl ?_
  show Steps p.tables e below (T0.setTop (mkF m 404 #[s0, s1, s2, s3, s4, s5, .val (.int i6), s7, s8, s9, s10, s11, s12, s13, s14, s15, s16, s17, .val (.int i18), s19, .val (.ref o20), s21, s22, s23] [(.ref o20)])) _
  refine XS.iconst X0.here hx rfl (hb hby at_404) ?_
  show Steps p.tables e below (T0.setTop (mkF m 405 #[s0, s1, s2, s3, s4, s5, .val (.int i6), s7, s8, s9, s10, s11, s12, s13, s14, s15, s16, s17, .val (.int i18), s19, .val (.ref o20), s21, s22, s23] [(.int (3 : Int32)), (.ref o20)])) _
  refine st6.trans ?_
  exact kt
theorem mark3 {p : Program} {l : Launch} {e : Env} {s : State} {m : MethodId} {args : Array Value} {below : List Frame} {meth : Method} {c : Code} {Z : State} {a0 : Array Value} {h0 : Heap} {T0 : State} {locs : List Loc} (s0 : Slot) (s1 : Slot) (s2 : Slot) (s3 : Slot) (s4 : Slot) (s5 : Slot) (i6 : Int32) (s7 : Slot) (s8 : Slot) (s9 : Slot) (s10 : Slot) (s11 : Slot) (s12 : Slot) (s13 : Slot) (s14 : Slot) (s15 : Slot) (s16 : Slot) (s17 : Slot) (i18 : Int32) (s19 : Slot) (o20 : Addr) (s21 : Slot) (s22 : Slot) (s23 : Slot)
    (X0 : Stand p l e room_1 s m args below meth c T0 locs 3 19) (hx : p.tables.exec = Jvm.exec) (hZ : Z.Warmed39 s.vm) (hw : ∀ d ∈ tables_1, d.before a0 Z = true) (hby : c.code = code) (hml : c.maxLocals = 24) (hown : s.vm.findClass "com/example/umbel/umbel/query/OccurrencesFirstUnusedAfterPinLaw" = some m.cls) (e0 : T0.heap = h0) (n0 : Nat) (Z0 : n0 ≤ h0.size) (N0 : Fr n0 locs) (ea ua : Addr) (sz : Int32) (E : Nat → Int64) (U : Nat → Int32) (O : own_O Z h0 n0 o20 ea ua sz E U) (N : Nat) (hN : i6.toInt = (N : Int)) (hU : U 3 = 0) :
    ∃ (T' : State) (h' : Heap) (locs' : List Loc) (U' : Nat → Int32), Stand p l e room_1 s m args below meth c T' locs' 3 19 ∧ Fr n0 locs' ∧ T'.heap = h' ∧ own_O Z h' n0 o20 ea ua sz E U' ∧ (∀ j, j ≠ 3 → U' j = U j) ∧ (3 < N → (U' 3 = 0 ↔ i18 = 0)) ∧
      ∀ target, Steps p.tables e below (T'.setTop (mkF m 408 #[s0, s1, s2, s3, s4, s5, .val (.int i6), s7, s8, s9, s10, s11, s12, s13, s14, s15, s16, s17, .val (.int i18), s19, .val (.ref o20), s21, s22, s23] [])) target → Steps p.tables e below (T0.setTop (mkF m 391 #[s0, s1, s2, s3, s4, s5, .val (.int i6), s7, s8, s9, s10, s11, s12, s13, s14, s15, s16, s17, .val (.int i18), s19, .val (.ref o20), s21, s22, s23] [])) target := by
  have ek : (3 : Int32).toInt = 3 := by decide
  by_cases q : (3 : Int32) < i6
  · by_cases r : i18 = (0 : Int32)
    · obtain ⟨T1, L1, X1, N1, e1, st1⟩ := tn0_391_ft s0 s1 s2 s3 s4 s5 i6 s7 s8 s9 s10 s11 s12 s13 s14 s15 s16 s17 i18 s19 (.val (.ref o20)) s21 s22 s23 X0 hx hZ hw hby hml hown e0 n0 Z0 N0 q r
      exact ⟨T1, h0, L1, U, X1, N1, e1, O, fun j _ => rfl, fun _ => ⟨fun _ => r, fun _ => hU⟩, st1⟩
    · obtain ⟨T1, h1, L1, X1, N1, e1, O1, st1⟩ := tn0_391_ff s0 s1 s2 s3 s4 s5 i6 s7 s8 s9 s10 s11 s12 s13 s14 s15 s16 s17 i18 s19 o20 s21 s22 s23 X0 hx hZ hw hby hml hown e0 n0 Z0 N0 O.1 q r ea ua sz E U O
      exact ⟨T1, h1, L1, _, X1, N1, e1, O1, fun j hj => if_neg hj, fun _ => ⟨fun h => absurd h (by rw [if_pos rfl]; decide), fun h => absurd h r⟩, st1⟩
  · have q' := q
    rw [own_lt, ek] at q'
    obtain ⟨T1, L1, X1, N1, e1, st1⟩ := tn0_391_t s0 s1 s2 s3 s4 s5 i6 s7 s8 s9 s10 s11 s12 s13 s14 s15 s16 s17 (.val (.int i18)) s19 (.val (.ref o20)) s21 s22 s23 X0 hx hZ hw hby hml hown e0 n0 Z0 N0 q
    exact ⟨T1, h0, L1, U, X1, N1, e1, O, fun j _ => rfl, fun h => absurd h (by omega), st1⟩
theorem pd_0_6 : parseMethodDescriptor "(I)I" = some ⟨[.int], some .int⟩ := by decide +kernel
theorem os_tn0_408_415 {s0 : Slot} {s1 : Slot} {s2 : Slot} {s3 : Slot} {s4 : Slot} {s5 : Slot} {s6 : Slot} {s7 : Slot} {s8 : Slot} {s9 : Slot} {s10 : Slot} {s11 : Slot} {s12 : Slot} {s13 : Slot} {s14 : Slot} {s15 : Slot} {s16 : Slot} {s17 : Slot} {s18 : Slot} {z19 : Value} {z20 : Value} {s21 : Slot} {s22 : Slot} {s23 : Slot} {v : Int32} (h : One s21) : storeLocals #[s0, s1, s2, s3, s4, s5, s6, s7, s8, s9, s10, s11, s12, s13, s14, s15, s16, s17, s18, .val z19, .val z20, s21, s22, s23] 21 (.int v) = some #[s0, s1, s2, s3, s4, s5, s6, s7, s8, s9, s10, s11, s12, s13, s14, s15, s16, s17, s18, .val z19, .val z20, .val (.int v), s22, s23] := by
  rcases h with rfl | ⟨w, rfl, hw⟩
  · rfl
  · cases w <;> first | rfl | (simp [Value.category] at hw)
theorem os_tn0_408_418 {s0 : Slot} {s1 : Slot} {s2 : Slot} {s3 : Slot} {s4 : Slot} {s5 : Slot} {s6 : Slot} {s7 : Slot} {s8 : Slot} {s9 : Slot} {s10 : Slot} {s11 : Slot} {s12 : Slot} {s13 : Slot} {s14 : Slot} {s15 : Slot} {s16 : Slot} {s17 : Slot} {s18 : Slot} {z19 : Value} {z20 : Value} {z21 : Value} {s22 : Slot} {s23 : Slot} {v : Int32} (h : own_Two s22 s23) : storeLocals #[s0, s1, s2, s3, s4, s5, s6, s7, s8, s9, s10, s11, s12, s13, s14, s15, s16, s17, s18, .val z19, .val z20, .val z21, s22, s23] 22 (.int v) = some #[s0, s1, s2, s3, s4, s5, s6, s7, s8, s9, s10, s11, s12, s13, s14, s15, s16, s17, s18, .val z19, .val z20, .val z21, .val (.int v), .unset] := by
  rcases h with ⟨rfl, rfl⟩ | ⟨q, rfl, rfl⟩ <;> rfl
set_option maxRecDepth 65536 in
set_option maxHeartbeats 40000000 in
theorem tn0_408 {p : Program} {l : Launch} {e : Env} {s : State} {m : MethodId} {args : Array Value} {below : List Frame} {meth : Method} {c : Code} {T0 : State} {locs : List Loc} {Z : State} {a0 : Array Value} {h0 : Heap} (s0 : Slot) (s1 : Slot) (s2 : Slot) (s3 : Slot) (s4 : Slot) (s5 : Slot) (s6 : Slot) (s7 : Slot) (s8 : Slot) (s9 : Slot) (s10 : Slot) (s11 : Slot) (s12 : Slot) (s13 : Slot) (s14 : Slot) (s15 : Slot) (s16 : Slot) (s17 : Slot) (s18 : Slot) (i19 : Int32) (o20 : Addr) (s21 : Slot) (s22 : Slot) (s23 : Slot)
    (X0 : Stand p l e room_1 s m args below meth c T0 locs 3 19) (hx : p.tables.exec = Jvm.exec) (hZ : Z.Warmed39 s.vm) (hw : ∀ d ∈ tables_1, d.before a0 Z = true) (hby : c.code = code) (hml : c.maxLocals = 24) (hown : s.vm.findClass "com/example/umbel/umbel/query/OccurrencesFirstUnusedAfterPinLaw" = some m.cls) (e0 : T0.heap = h0) (n0 : Nat) (Z0 : n0 ≤ h0.size) (N0 : Fr n0 locs) (E_o20 : Exa Z h0 o20 "com/example/umbel/umbel/query/Occurrences") (hs21 : One s21) (hs22 : own_Two s22 s23) (ea ua : Addr) (sz : Int32) (n : Nat) (E : Nat → Int64) (U : Nat → Int32) (O : own_O Z h0 n0 o20 ea ua sz E U) (hsz : sz.toInt = (n : Int)) (hn : n ≤ 8) (mono : ∀ i j, i ≤ j → j < n → E j < own_key i19 → E i < own_key i19) :
    ∃ (T' : State) (locs' : List Loc) (r : Int32), Stand p l e room_1 s m args below meth c T' locs' 3 19 ∧ Fr n0 locs' ∧ T'.heap = h0 ∧ own_res 0 n (fun j => ¬ E j < own_key i19 ∧ U j = 0) r ∧
      ∀ target, Steps p.tables e below (T'.setTop (mkF m 420 #[s0, s1, s2, s3, s4, s5, s6, s7, s8, s9, s10, s11, s12, s13, s14, s15, s16, s17, s18, .val (.int i19), .val (.ref o20), .val (.int r), .val (.int (-1 : Int32)), .unset] [])) target → Steps p.tables e below (T0.setTop (mkF m 408 #[s0, s1, s2, s3, s4, s5, s6, s7, s8, s9, s10, s11, s12, s13, s14, s15, s16, s17, s18, .val (.int i19), .val (.ref o20), s21, s22, s23] [])) target := by
  obtain ⟨cq6, kq6, q6a, q6b, q6c⟩ := isOf hZ e0 E_o20
  obtain ⟨_, _, ⟨T6, L6, k6, n6⟩, -, X6, ⟨Lc6, hQ6, l6, y6, z6⟩, st6⟩ := X0.virtualBack hx (y := (⟨"com/example/umbel/umbel/query/Occurrences", "firstUnusedAfter", "(I)I"⟩ : MethodName)) (z := (⟨"com/example/umbel/umbel/query/Occurrences", "firstUnusedAfter", "(I)I"⟩ : MethodName)) hown (mvT hZ (hw _ (List.mem_of_getElem? (i := 46) rfl))) (mvT hZ (hw _ (List.mem_of_getElem? (i := 47) rfl))) (notFace_of_selects (args := #[]) (mvT hZ (hw _ (List.mem_of_getElem? (i := 49) rfl)))) (mvT hZ (hw _ (List.mem_of_getElem? (i := 49) rfl))) (mvT hZ (hw _ (List.mem_of_getElem? (i := 48) rfl))) (by decide) (backOf (W := 0) (rm10 l Z a0 hw [] o20 i19 ea ua sz n E U h0 n0 Z0 O hsz hn mono) hZ (hw _ (List.mem_of_getElem? (i := 50) rfl)) (hw _ (List.mem_of_getElem? (i := 20) rfl)) (by decide) (by decide)) q6a q6c (g := (mkF m 412 #[s0, s1, s2, s3, s4, s5, s6, s7, s8, s9, s10, s11, s12, s13, s14, s15, s16, s17, s18, .val (.int i19), .val (.ref o20), s21, s22, s23] [(.int i19), (.ref o20)])) rfl (by rw [hml]; rfl) (Steps.refl _) (argsL := [(.int i19)]) (rest := []) (lenOf pd_0_6 rfl) rfl (by show 2 * 0 + _ ≤ _; exact Nat.le_of_eq rfl) (hb hby at_412) (fun _ _ => ⟨rfl, e0, (by decide : 3 + 0 ≤ _), (by decide : 19 + 0 ≤ _)⟩)
  dsimp only [Pt.U, Pt.locs, Pt.cells, Pt.slots] at X6 l6 y6 z6 st6 hQ6
  subst l6 y6 z6
  obtain ⟨r, rfl, hres, N6q, e6q⟩ := hQ6
  have N6 := Fr.app N0 N6q
  refine ⟨T6, _, r, X6, N6, e6q, hres, fun target kt => ?_⟩
  show Steps p.tables e below (T0.setTop (mkF m 408 #[s0, s1, s2, s3, s4, s5, s6, s7, s8, s9, s10, s11, s12, s13, s14, s15, s16, s17, s18, .val (.int i19), .val (.ref o20), s21, s22, s23] [])) _
  refine XS.aload X0.here hx rfl (hb hby at_408) rfl rfl ?_
  show Steps p.tables e below (T0.setTop (mkF m 410 #[s0, s1, s2, s3, s4, s5, s6, s7, s8, s9, s10, s11, s12, s13, s14, s15, s16, s17, s18, .val (.int i19), .val (.ref o20), s21, s22, s23] [(.ref o20)])) _
  refine XS.iload X0.here hx rfl (hb hby at_410) rfl ?_
  show Steps p.tables e below (T0.setTop (mkF m 412 #[s0, s1, s2, s3, s4, s5, s6, s7, s8, s9, s10, s11, s12, s13, s14, s15, s16, s17, s18, .val (.int i19), .val (.ref o20), s21, s22, s23] [(.int i19), (.ref o20)])) _
  refine st6.trans ?_
  show Steps p.tables e below (T6.setTop (mkF m 415 #[s0, s1, s2, s3, s4, s5, s6, s7, s8, s9, s10, s11, s12, s13, s14, s15, s16, s17, s18, .val (.int i19), .val (.ref o20), s21, s22, s23] [(.int r)])) _
  refine XS.istore X6.here hx rfl (hb hby at_415) rfl (l' := #[s0, s1, s2, s3, s4, s5, s6, s7, s8, s9, s10, s11, s12, s13, s14, s15, s16, s17, s18, .val (.int i19), .val (.ref o20), .val (.int r), s22, s23]) (os_tn0_408_415 hs21) ?_
  show Steps p.tables e below (T6.setTop (mkF m 417 #[s0, s1, s2, s3, s4, s5, s6, s7, s8, s9, s10, s11, s12, s13, s14, s15, s16, s17, s18, .val (.int i19), .val (.ref o20), .val (.int r), s22, s23] [])) _
  refine XS.iconst X6.here hx rfl (hb hby at_417) ?_
  show Steps p.tables e below (T6.setTop (mkF m 418 #[s0, s1, s2, s3, s4, s5, s6, s7, s8, s9, s10, s11, s12, s13, s14, s15, s16, s17, s18, .val (.int i19), .val (.ref o20), .val (.int r), s22, s23] [(.int (-1 : Int32))])) _
  refine XS.istore X6.here hx rfl (hb hby at_418) rfl (l' := #[s0, s1, s2, s3, s4, s5, s6, s7, s8, s9, s10, s11, s12, s13, s14, s15, s16, s17, s18, .val (.int i19), .val (.ref o20), .val (.int r), .val (.int (-1 : Int32)), .unset]) (os_tn0_408_418 hs22) ?_
  exact kt
set_option maxRecDepth 65536 in
set_option maxHeartbeats 40000000 in
theorem tn0_420_t {p : Program} {l : Launch} {e : Env} {s : State} {m : MethodId} {args : Array Value} {below : List Frame} {meth : Method} {c : Code} {T0 : State} {locs : List Loc} {Z : State} {a0 : Array Value} {h0 : Heap} (s0 : Slot) (s1 : Slot) (s2 : Slot) (s3 : Slot) (s4 : Slot) (s5 : Slot) (i6 : Int32) (s7 : Slot) (s8 : Slot) (s9 : Slot) (s10 : Slot) (s11 : Slot) (s12 : Slot) (s13 : Slot) (s14 : Slot) (s15 : Slot) (s16 : Slot) (s17 : Slot) (s18 : Slot) (s19 : Slot) (s20 : Slot) (s21 : Slot) (s22 : Slot) (s23 : Slot)
    (X0 : Stand p l e room_1 s m args below meth c T0 locs 3 19) (hx : p.tables.exec = Jvm.exec) (hZ : Z.Warmed39 s.vm) (hw : ∀ d ∈ tables_1, d.before a0 Z = true) (hby : c.code = code) (hml : c.maxLocals = 24) (hown : s.vm.findClass "com/example/umbel/umbel/query/OccurrencesFirstUnusedAfterPinLaw" = some m.cls) (e0 : T0.heap = h0) (n0 : Nat) (Z0 : n0 ≤ h0.size) (N0 : Fr n0 locs) (hc423 : ¬ ((3 : Int32) < i6)) :
    ∃ (T' : State) (locs' : List Loc), Stand p l e room_1 s m args below meth c T' locs' 3 19 ∧ Fr n0 locs' ∧ T'.heap = h0 ∧
      ∀ target, Steps p.tables e below (T'.setTop (mkF m 441 #[s0, s1, s2, s3, s4, s5, .val (.int i6), s7, s8, s9, s10, s11, s12, s13, s14, s15, s16, s17, s18, s19, s20, s21, s22, s23] [])) target → Steps p.tables e below (T0.setTop (mkF m 420 #[s0, s1, s2, s3, s4, s5, .val (.int i6), s7, s8, s9, s10, s11, s12, s13, s14, s15, s16, s17, s18, s19, s20, s21, s22, s23] [])) target := by
  refine ⟨T0, _, X0, N0, e0, fun target kt => ?_⟩
  show Steps p.tables e below (T0.setTop (mkF m 420 #[s0, s1, s2, s3, s4, s5, .val (.int i6), s7, s8, s9, s10, s11, s12, s13, s14, s15, s16, s17, s18, s19, s20, s21, s22, s23] [])) _
  refine XS.iload X0.here hx rfl (hb hby at_420) rfl ?_
  show Steps p.tables e below (T0.setTop (mkF m 422 #[s0, s1, s2, s3, s4, s5, .val (.int i6), s7, s8, s9, s10, s11, s12, s13, s14, s15, s16, s17, s18, s19, s20, s21, s22, s23] [(.int i6)])) _
  refine XS.iconst X0.here hx rfl (hb hby at_422) ?_
  show Steps p.tables e below (T0.setTop (mkF m 423 #[s0, s1, s2, s3, s4, s5, .val (.int i6), s7, s8, s9, s10, s11, s12, s13, s14, s15, s16, s17, s18, s19, s20, s21, s22, s23] [(.int (3 : Int32)), (.int i6)])) _
  refine XS.icmpYes X0.here hx rfl (pc0 := 423) (pc' := 441) rfl (hb hby at_423) rfl (flt hc423).2.2.2 (by decide) (by decide) ?_
  exact kt
set_option maxRecDepth 65536 in
set_option maxHeartbeats 40000000 in
theorem tn0_420_ft {p : Program} {l : Launch} {e : Env} {s : State} {m : MethodId} {args : Array Value} {below : List Frame} {meth : Method} {c : Code} {T0 : State} {locs : List Loc} {Z : State} {a0 : Array Value} {h0 : Heap} (s0 : Slot) (s1 : Slot) (s2 : Slot) (s3 : Slot) (s4 : Slot) (s5 : Slot) (i6 : Int32) (s7 : Slot) (s8 : Slot) (s9 : Slot) (i10 : Int32) (s11 : Slot) (s12 : Slot) (s13 : Slot) (s14 : Slot) (s15 : Slot) (s16 : Slot) (s17 : Slot) (s18 : Slot) (i19 : Int32) (s20 : Slot) (s21 : Slot) (s22 : Slot) (s23 : Slot)
    (X0 : Stand p l e room_1 s m args below meth c T0 locs 3 19) (hx : p.tables.exec = Jvm.exec) (hZ : Z.Warmed39 s.vm) (hw : ∀ d ∈ tables_1, d.before a0 Z = true) (hby : c.code = code) (hml : c.maxLocals = 24) (hown : s.vm.findClass "com/example/umbel/umbel/query/OccurrencesFirstUnusedAfterPinLaw" = some m.cls) (e0 : T0.heap = h0) (n0 : Nat) (Z0 : n0 ≤ h0.size) (N0 : Fr n0 locs) (hc423 : (3 : Int32) < i6) (hc430 : ¬ (i19 < i10)) :
    ∃ (T' : State) (locs' : List Loc), Stand p l e room_1 s m args below meth c T' locs' 3 19 ∧ Fr n0 locs' ∧ T'.heap = h0 ∧
      ∀ target, Steps p.tables e below (T'.setTop (mkF m 441 #[s0, s1, s2, s3, s4, s5, .val (.int i6), s7, s8, s9, .val (.int i10), s11, s12, s13, s14, s15, s16, s17, s18, .val (.int i19), s20, s21, s22, s23] [])) target → Steps p.tables e below (T0.setTop (mkF m 420 #[s0, s1, s2, s3, s4, s5, .val (.int i6), s7, s8, s9, .val (.int i10), s11, s12, s13, s14, s15, s16, s17, s18, .val (.int i19), s20, s21, s22, s23] [])) target := by
  refine ⟨T0, _, X0, N0, e0, fun target kt => ?_⟩
  show Steps p.tables e below (T0.setTop (mkF m 420 #[s0, s1, s2, s3, s4, s5, .val (.int i6), s7, s8, s9, .val (.int i10), s11, s12, s13, s14, s15, s16, s17, s18, .val (.int i19), s20, s21, s22, s23] [])) _
  refine XS.iload X0.here hx rfl (hb hby at_420) rfl ?_
  show Steps p.tables e below (T0.setTop (mkF m 422 #[s0, s1, s2, s3, s4, s5, .val (.int i6), s7, s8, s9, .val (.int i10), s11, s12, s13, s14, s15, s16, s17, s18, .val (.int i19), s20, s21, s22, s23] [(.int i6)])) _
  refine XS.iconst X0.here hx rfl (hb hby at_422) ?_
  show Steps p.tables e below (T0.setTop (mkF m 423 #[s0, s1, s2, s3, s4, s5, .val (.int i6), s7, s8, s9, .val (.int i10), s11, s12, s13, s14, s15, s16, s17, s18, .val (.int i19), s20, s21, s22, s23] [(.int (3 : Int32)), (.int i6)])) _
  refine XS.icmpNo X0.here hx rfl (hb hby at_423) rfl (tlt hc423).2.2.2 ?_
  show Steps p.tables e below (T0.setTop (mkF m 426 #[s0, s1, s2, s3, s4, s5, .val (.int i6), s7, s8, s9, .val (.int i10), s11, s12, s13, s14, s15, s16, s17, s18, .val (.int i19), s20, s21, s22, s23] [])) _
  refine XS.iload X0.here hx rfl (hb hby at_426) rfl ?_
  show Steps p.tables e below (T0.setTop (mkF m 428 #[s0, s1, s2, s3, s4, s5, .val (.int i6), s7, s8, s9, .val (.int i10), s11, s12, s13, s14, s15, s16, s17, s18, .val (.int i19), s20, s21, s22, s23] [(.int i10)])) _
  refine XS.iload X0.here hx rfl (hb hby at_428) rfl ?_
  show Steps p.tables e below (T0.setTop (mkF m 430 #[s0, s1, s2, s3, s4, s5, .val (.int i6), s7, s8, s9, .val (.int i10), s11, s12, s13, s14, s15, s16, s17, s18, .val (.int i19), s20, s21, s22, s23] [(.int i19), (.int i10)])) _
  refine XS.icmpYes X0.here hx rfl (pc0 := 430) (pc' := 441) rfl (hb hby at_430) rfl (flt hc430).2.2.2 (by decide) (by decide) ?_
  exact kt
set_option maxRecDepth 65536 in
set_option maxHeartbeats 40000000 in
theorem tn0_420_fft {p : Program} {l : Launch} {e : Env} {s : State} {m : MethodId} {args : Array Value} {below : List Frame} {meth : Method} {c : Code} {T0 : State} {locs : List Loc} {Z : State} {a0 : Array Value} {h0 : Heap} (s0 : Slot) (s1 : Slot) (s2 : Slot) (s3 : Slot) (s4 : Slot) (s5 : Slot) (i6 : Int32) (s7 : Slot) (s8 : Slot) (s9 : Slot) (i10 : Int32) (s11 : Slot) (s12 : Slot) (s13 : Slot) (s14 : Slot) (s15 : Slot) (s16 : Slot) (s17 : Slot) (i18 : Int32) (i19 : Int32) (s20 : Slot) (s21 : Slot) (s22 : Slot) (s23 : Slot)
    (X0 : Stand p l e room_1 s m args below meth c T0 locs 3 19) (hx : p.tables.exec = Jvm.exec) (hZ : Z.Warmed39 s.vm) (hw : ∀ d ∈ tables_1, d.before a0 Z = true) (hby : c.code = code) (hml : c.maxLocals = 24) (hown : s.vm.findClass "com/example/umbel/umbel/query/OccurrencesFirstUnusedAfterPinLaw" = some m.cls) (e0 : T0.heap = h0) (n0 : Nat) (Z0 : n0 ≤ h0.size) (N0 : Fr n0 locs) (hc423 : (3 : Int32) < i6) (hc430 : i19 < i10) (hc435 : ¬ (i18 = (0 : Int32))) :
    ∃ (T' : State) (locs' : List Loc), Stand p l e room_1 s m args below meth c T' locs' 3 19 ∧ Fr n0 locs' ∧ T'.heap = h0 ∧
      ∀ target, Steps p.tables e below (T'.setTop (mkF m 441 #[s0, s1, s2, s3, s4, s5, .val (.int i6), s7, s8, s9, .val (.int i10), s11, s12, s13, s14, s15, s16, s17, .val (.int i18), .val (.int i19), s20, s21, s22, s23] [])) target → Steps p.tables e below (T0.setTop (mkF m 420 #[s0, s1, s2, s3, s4, s5, .val (.int i6), s7, s8, s9, .val (.int i10), s11, s12, s13, s14, s15, s16, s17, .val (.int i18), .val (.int i19), s20, s21, s22, s23] [])) target := by
  refine ⟨T0, _, X0, N0, e0, fun target kt => ?_⟩
  show Steps p.tables e below (T0.setTop (mkF m 420 #[s0, s1, s2, s3, s4, s5, .val (.int i6), s7, s8, s9, .val (.int i10), s11, s12, s13, s14, s15, s16, s17, .val (.int i18), .val (.int i19), s20, s21, s22, s23] [])) _
  refine XS.iload X0.here hx rfl (hb hby at_420) rfl ?_
  show Steps p.tables e below (T0.setTop (mkF m 422 #[s0, s1, s2, s3, s4, s5, .val (.int i6), s7, s8, s9, .val (.int i10), s11, s12, s13, s14, s15, s16, s17, .val (.int i18), .val (.int i19), s20, s21, s22, s23] [(.int i6)])) _
  refine XS.iconst X0.here hx rfl (hb hby at_422) ?_
  show Steps p.tables e below (T0.setTop (mkF m 423 #[s0, s1, s2, s3, s4, s5, .val (.int i6), s7, s8, s9, .val (.int i10), s11, s12, s13, s14, s15, s16, s17, .val (.int i18), .val (.int i19), s20, s21, s22, s23] [(.int (3 : Int32)), (.int i6)])) _
  refine XS.icmpNo X0.here hx rfl (hb hby at_423) rfl (tlt hc423).2.2.2 ?_
  show Steps p.tables e below (T0.setTop (mkF m 426 #[s0, s1, s2, s3, s4, s5, .val (.int i6), s7, s8, s9, .val (.int i10), s11, s12, s13, s14, s15, s16, s17, .val (.int i18), .val (.int i19), s20, s21, s22, s23] [])) _
  refine XS.iload X0.here hx rfl (hb hby at_426) rfl ?_
  show Steps p.tables e below (T0.setTop (mkF m 428 #[s0, s1, s2, s3, s4, s5, .val (.int i6), s7, s8, s9, .val (.int i10), s11, s12, s13, s14, s15, s16, s17, .val (.int i18), .val (.int i19), s20, s21, s22, s23] [(.int i10)])) _
  refine XS.iload X0.here hx rfl (hb hby at_428) rfl ?_
  show Steps p.tables e below (T0.setTop (mkF m 430 #[s0, s1, s2, s3, s4, s5, .val (.int i6), s7, s8, s9, .val (.int i10), s11, s12, s13, s14, s15, s16, s17, .val (.int i18), .val (.int i19), s20, s21, s22, s23] [(.int i19), (.int i10)])) _
  refine XS.icmpNo X0.here hx rfl (hb hby at_430) rfl (tlt hc430).2.2.2 ?_
  show Steps p.tables e below (T0.setTop (mkF m 433 #[s0, s1, s2, s3, s4, s5, .val (.int i6), s7, s8, s9, .val (.int i10), s11, s12, s13, s14, s15, s16, s17, .val (.int i18), .val (.int i19), s20, s21, s22, s23] [])) _
  refine XS.iload X0.here hx rfl (hb hby at_433) rfl ?_
  show Steps p.tables e below (T0.setTop (mkF m 435 #[s0, s1, s2, s3, s4, s5, .val (.int i6), s7, s8, s9, .val (.int i10), s11, s12, s13, s14, s15, s16, s17, .val (.int i18), .val (.int i19), s20, s21, s22, s23] [(.int i18)])) _
  refine XS.ifYes X0.here hx rfl (pc0 := 435) (pc' := 441) rfl (hb hby at_435) rfl ((if0 _ _).trans (feq hc435).2) (by decide) (by decide) ?_
  exact kt
theorem os_tn0_420_fff_439 {s0 : Slot} {s1 : Slot} {s2 : Slot} {s3 : Slot} {s4 : Slot} {s5 : Slot} {z6 : Value} {s7 : Slot} {s8 : Slot} {s9 : Slot} {z10 : Value} {s11 : Slot} {s12 : Slot} {s13 : Slot} {s14 : Slot} {s15 : Slot} {s16 : Slot} {s17 : Slot} {z18 : Value} {z19 : Value} {s20 : Slot} {s21 : Slot} {s22 : Slot} {s23 : Slot} {v : Int32} (h : One s22) : storeLocals #[s0, s1, s2, s3, s4, s5, .val z6, s7, s8, s9, .val z10, s11, s12, s13, s14, s15, s16, s17, .val z18, .val z19, s20, s21, s22, s23] 22 (.int v) = some #[s0, s1, s2, s3, s4, s5, .val z6, s7, s8, s9, .val z10, s11, s12, s13, s14, s15, s16, s17, .val z18, .val z19, s20, s21, .val (.int v), s23] := by
  rcases h with rfl | ⟨w, rfl, hw⟩
  · rfl
  · cases w <;> first | rfl | (simp [Value.category] at hw)
set_option maxRecDepth 65536 in
set_option maxHeartbeats 40000000 in
theorem tn0_420_fff {p : Program} {l : Launch} {e : Env} {s : State} {m : MethodId} {args : Array Value} {below : List Frame} {meth : Method} {c : Code} {T0 : State} {locs : List Loc} {Z : State} {a0 : Array Value} {h0 : Heap} (s0 : Slot) (s1 : Slot) (s2 : Slot) (s3 : Slot) (s4 : Slot) (s5 : Slot) (i6 : Int32) (s7 : Slot) (s8 : Slot) (s9 : Slot) (i10 : Int32) (s11 : Slot) (s12 : Slot) (s13 : Slot) (s14 : Slot) (s15 : Slot) (s16 : Slot) (s17 : Slot) (i18 : Int32) (i19 : Int32) (s20 : Slot) (s21 : Slot) (s22 : Slot) (s23 : Slot)
    (X0 : Stand p l e room_1 s m args below meth c T0 locs 3 19) (hx : p.tables.exec = Jvm.exec) (hZ : Z.Warmed39 s.vm) (hw : ∀ d ∈ tables_1, d.before a0 Z = true) (hby : c.code = code) (hml : c.maxLocals = 24) (hown : s.vm.findClass "com/example/umbel/umbel/query/OccurrencesFirstUnusedAfterPinLaw" = some m.cls) (e0 : T0.heap = h0) (n0 : Nat) (Z0 : n0 ≤ h0.size) (N0 : Fr n0 locs) (hs22 : One s22) (hc423 : (3 : Int32) < i6) (hc430 : i19 < i10) (hc435 : i18 = (0 : Int32)) :
    ∃ (T' : State) (locs' : List Loc), Stand p l e room_1 s m args below meth c T' locs' 3 19 ∧ Fr n0 locs' ∧ T'.heap = h0 ∧
      ∀ target, Steps p.tables e below (T'.setTop (mkF m 441 #[s0, s1, s2, s3, s4, s5, .val (.int i6), s7, s8, s9, .val (.int i10), s11, s12, s13, s14, s15, s16, s17, .val (.int i18), .val (.int i19), s20, s21, .val (.int (3 : Int32)), s23] [])) target → Steps p.tables e below (T0.setTop (mkF m 420 #[s0, s1, s2, s3, s4, s5, .val (.int i6), s7, s8, s9, .val (.int i10), s11, s12, s13, s14, s15, s16, s17, .val (.int i18), .val (.int i19), s20, s21, s22, s23] [])) target := by
  refine ⟨T0, _, X0, N0, e0, fun target kt => ?_⟩
  show Steps p.tables e below (T0.setTop (mkF m 420 #[s0, s1, s2, s3, s4, s5, .val (.int i6), s7, s8, s9, .val (.int i10), s11, s12, s13, s14, s15, s16, s17, .val (.int i18), .val (.int i19), s20, s21, s22, s23] [])) _
  refine XS.iload X0.here hx rfl (hb hby at_420) rfl ?_
  show Steps p.tables e below (T0.setTop (mkF m 422 #[s0, s1, s2, s3, s4, s5, .val (.int i6), s7, s8, s9, .val (.int i10), s11, s12, s13, s14, s15, s16, s17, .val (.int i18), .val (.int i19), s20, s21, s22, s23] [(.int i6)])) _
  refine XS.iconst X0.here hx rfl (hb hby at_422) ?_
  show Steps p.tables e below (T0.setTop (mkF m 423 #[s0, s1, s2, s3, s4, s5, .val (.int i6), s7, s8, s9, .val (.int i10), s11, s12, s13, s14, s15, s16, s17, .val (.int i18), .val (.int i19), s20, s21, s22, s23] [(.int (3 : Int32)), (.int i6)])) _
  refine XS.icmpNo X0.here hx rfl (hb hby at_423) rfl (tlt hc423).2.2.2 ?_
  show Steps p.tables e below (T0.setTop (mkF m 426 #[s0, s1, s2, s3, s4, s5, .val (.int i6), s7, s8, s9, .val (.int i10), s11, s12, s13, s14, s15, s16, s17, .val (.int i18), .val (.int i19), s20, s21, s22, s23] [])) _
  refine XS.iload X0.here hx rfl (hb hby at_426) rfl ?_
  show Steps p.tables e below (T0.setTop (mkF m 428 #[s0, s1, s2, s3, s4, s5, .val (.int i6), s7, s8, s9, .val (.int i10), s11, s12, s13, s14, s15, s16, s17, .val (.int i18), .val (.int i19), s20, s21, s22, s23] [(.int i10)])) _
  refine XS.iload X0.here hx rfl (hb hby at_428) rfl ?_
  show Steps p.tables e below (T0.setTop (mkF m 430 #[s0, s1, s2, s3, s4, s5, .val (.int i6), s7, s8, s9, .val (.int i10), s11, s12, s13, s14, s15, s16, s17, .val (.int i18), .val (.int i19), s20, s21, s22, s23] [(.int i19), (.int i10)])) _
  refine XS.icmpNo X0.here hx rfl (hb hby at_430) rfl (tlt hc430).2.2.2 ?_
  show Steps p.tables e below (T0.setTop (mkF m 433 #[s0, s1, s2, s3, s4, s5, .val (.int i6), s7, s8, s9, .val (.int i10), s11, s12, s13, s14, s15, s16, s17, .val (.int i18), .val (.int i19), s20, s21, s22, s23] [])) _
  refine XS.iload X0.here hx rfl (hb hby at_433) rfl ?_
  show Steps p.tables e below (T0.setTop (mkF m 435 #[s0, s1, s2, s3, s4, s5, .val (.int i6), s7, s8, s9, .val (.int i10), s11, s12, s13, s14, s15, s16, s17, .val (.int i18), .val (.int i19), s20, s21, s22, s23] [(.int i18)])) _
  refine XS.ifNo X0.here hx rfl (hb hby at_435) rfl ((if0 _ _).trans (teq hc435).2) ?_
  show Steps p.tables e below (T0.setTop (mkF m 438 #[s0, s1, s2, s3, s4, s5, .val (.int i6), s7, s8, s9, .val (.int i10), s11, s12, s13, s14, s15, s16, s17, .val (.int i18), .val (.int i19), s20, s21, s22, s23] [])) _
  refine XS.iconst X0.here hx rfl (hb hby at_438) ?_
  show Steps p.tables e below (T0.setTop (mkF m 439 #[s0, s1, s2, s3, s4, s5, .val (.int i6), s7, s8, s9, .val (.int i10), s11, s12, s13, s14, s15, s16, s17, .val (.int i18), .val (.int i19), s20, s21, s22, s23] [(.int (3 : Int32))])) _
  refine XS.istore X0.here hx rfl (hb hby at_439) rfl (l' := #[s0, s1, s2, s3, s4, s5, .val (.int i6), s7, s8, s9, .val (.int i10), s11, s12, s13, s14, s15, s16, s17, .val (.int i18), .val (.int i19), s20, s21, .val (.int (3 : Int32)), s23]) (os_tn0_420_fff_439 hs22) ?_
  exact kt
theorem want3 {p : Program} {l : Launch} {e : Env} {s : State} {m : MethodId} {args : Array Value} {below : List Frame} {meth : Method} {c : Code} {Z : State} {a0 : Array Value} {h0 : Heap} {T0 : State} {locs : List Loc} (s0 : Slot) (s1 : Slot) (s2 : Slot) (s3 : Slot) (s4 : Slot) (s5 : Slot) (i6 : Int32) (s7 : Slot) (s8 : Slot) (s9 : Slot) (i10 : Int32) (s11 : Slot) (s12 : Slot) (s13 : Slot) (s14 : Slot) (s15 : Slot) (s16 : Slot) (s17 : Slot) (i18 : Int32) (i19 : Int32) (s20 : Slot) (s21 : Slot) (w : Int32) (s23 : Slot)
    (X0 : Stand p l e room_1 s m args below meth c T0 locs 3 19) (hx : p.tables.exec = Jvm.exec) (hZ : Z.Warmed39 s.vm) (hw : ∀ d ∈ tables_1, d.before a0 Z = true) (hby : c.code = code) (hml : c.maxLocals = 24) (hown : s.vm.findClass "com/example/umbel/umbel/query/OccurrencesFirstUnusedAfterPinLaw" = some m.cls) (e0 : T0.heap = h0) (n0 : Nat) (Z0 : n0 ≤ h0.size) (N0 : Fr n0 locs) (N : Nat) (hN : i6.toInt = (N : Int)) (R : Nat → Prop) (hR : R 3 ↔ (i19 < i10 ∧ i18 = 0)) (hw0 : own_res (3 + 1) N R w) :
    ∃ (T' : State) (locs' : List Loc) (w' : Int32), Stand p l e room_1 s m args below meth c T' locs' 3 19 ∧ Fr n0 locs' ∧ T'.heap = h0 ∧ own_res 3 N R w' ∧
      ∀ target, Steps p.tables e below (T'.setTop (mkF m 441 #[s0, s1, s2, s3, s4, s5, .val (.int i6), s7, s8, s9, .val (.int i10), s11, s12, s13, s14, s15, s16, s17, .val (.int i18), .val (.int i19), s20, s21, .val (.int w'), s23] [])) target → Steps p.tables e below (T0.setTop (mkF m 420 #[s0, s1, s2, s3, s4, s5, .val (.int i6), s7, s8, s9, .val (.int i10), s11, s12, s13, s14, s15, s16, s17, .val (.int i18), .val (.int i19), s20, s21, .val (.int w), s23] [])) target := by
  have ek : (3 : Int32).toInt = 3 := by decide
  by_cases q : (3 : Int32) < i6
  · have q' := q
    rw [own_lt, ek] at q'
    by_cases r : i19 < i10
    · by_cases u : i18 = (0 : Int32)
      · obtain ⟨T1, L1, X1, N1, e1, st1⟩ := tn0_420_fff s0 s1 s2 s3 s4 s5 i6 s7 s8 s9 i10 s11 s12 s13 s14 s15 s16 s17 i18 i19 s20 s21 (.val (.int w)) s23 X0 hx hZ hw hby hml hown e0 n0 Z0 N0 (One.val rfl) q r u
        exact ⟨T1, L1, (3 : Int32), X1, N1, e1, own_resyes ek (by omega) (hR.mpr ⟨r, u⟩), st1⟩
      · obtain ⟨T1, L1, X1, N1, e1, st1⟩ := tn0_420_fft s0 s1 s2 s3 s4 s5 i6 s7 s8 s9 i10 s11 s12 s13 s14 s15 s16 s17 i18 i19 s20 s21 (.val (.int w)) s23 X0 hx hZ hw hby hml hown e0 n0 Z0 N0 q r u
        exact ⟨T1, L1, w, X1, N1, e1, own_resno hw0 (fun h => u (hR.mp h.2).2), st1⟩
    · obtain ⟨T1, L1, X1, N1, e1, st1⟩ := tn0_420_ft s0 s1 s2 s3 s4 s5 i6 s7 s8 s9 i10 s11 s12 s13 s14 s15 s16 s17 (.val (.int i18)) i19 s20 s21 (.val (.int w)) s23 X0 hx hZ hw hby hml hown e0 n0 Z0 N0 q r
      exact ⟨T1, L1, w, X1, N1, e1, own_resno hw0 (fun h => r (hR.mp h.2).1), st1⟩
  · have q' := q
    rw [own_lt, ek] at q'
    obtain ⟨T1, L1, X1, N1, e1, st1⟩ := tn0_420_t s0 s1 s2 s3 s4 s5 i6 s7 s8 s9 (.val (.int i10)) s11 s12 s13 s14 s15 s16 s17 (.val (.int i18)) (.val (.int i19)) s20 s21 (.val (.int w)) s23 X0 hx hZ hw hby hml hown e0 n0 Z0 N0 q
    exact ⟨T1, L1, w, X1, N1, e1, own_resno hw0 (fun h => absurd h.1 (by omega)), st1⟩
set_option maxRecDepth 65536 in
set_option maxHeartbeats 40000000 in
theorem tn0_441_t {p : Program} {l : Launch} {e : Env} {s : State} {m : MethodId} {args : Array Value} {below : List Frame} {meth : Method} {c : Code} {T0 : State} {locs : List Loc} {Z : State} {a0 : Array Value} {h0 : Heap} (s0 : Slot) (s1 : Slot) (s2 : Slot) (s3 : Slot) (s4 : Slot) (s5 : Slot) (i6 : Int32) (s7 : Slot) (s8 : Slot) (s9 : Slot) (s10 : Slot) (s11 : Slot) (s12 : Slot) (s13 : Slot) (s14 : Slot) (s15 : Slot) (s16 : Slot) (s17 : Slot) (s18 : Slot) (s19 : Slot) (s20 : Slot) (s21 : Slot) (s22 : Slot) (s23 : Slot)
    (X0 : Stand p l e room_1 s m args below meth c T0 locs 3 19) (hx : p.tables.exec = Jvm.exec) (hZ : Z.Warmed39 s.vm) (hw : ∀ d ∈ tables_1, d.before a0 Z = true) (hby : c.code = code) (hml : c.maxLocals = 24) (hown : s.vm.findClass "com/example/umbel/umbel/query/OccurrencesFirstUnusedAfterPinLaw" = some m.cls) (e0 : T0.heap = h0) (n0 : Nat) (Z0 : n0 ≤ h0.size) (N0 : Fr n0 locs) (hc444 : ¬ ((2 : Int32) < i6)) :
    ∃ (T' : State) (locs' : List Loc), Stand p l e room_1 s m args below meth c T' locs' 3 19 ∧ Fr n0 locs' ∧ T'.heap = h0 ∧
      ∀ target, Steps p.tables e below (T'.setTop (mkF m 462 #[s0, s1, s2, s3, s4, s5, .val (.int i6), s7, s8, s9, s10, s11, s12, s13, s14, s15, s16, s17, s18, s19, s20, s21, s22, s23] [])) target → Steps p.tables e below (T0.setTop (mkF m 441 #[s0, s1, s2, s3, s4, s5, .val (.int i6), s7, s8, s9, s10, s11, s12, s13, s14, s15, s16, s17, s18, s19, s20, s21, s22, s23] [])) target := by
  refine ⟨T0, _, X0, N0, e0, fun target kt => ?_⟩
  show Steps p.tables e below (T0.setTop (mkF m 441 #[s0, s1, s2, s3, s4, s5, .val (.int i6), s7, s8, s9, s10, s11, s12, s13, s14, s15, s16, s17, s18, s19, s20, s21, s22, s23] [])) _
  refine XS.iload X0.here hx rfl (hb hby at_441) rfl ?_
  show Steps p.tables e below (T0.setTop (mkF m 443 #[s0, s1, s2, s3, s4, s5, .val (.int i6), s7, s8, s9, s10, s11, s12, s13, s14, s15, s16, s17, s18, s19, s20, s21, s22, s23] [(.int i6)])) _
  refine XS.iconst X0.here hx rfl (hb hby at_443) ?_
  show Steps p.tables e below (T0.setTop (mkF m 444 #[s0, s1, s2, s3, s4, s5, .val (.int i6), s7, s8, s9, s10, s11, s12, s13, s14, s15, s16, s17, s18, s19, s20, s21, s22, s23] [(.int (2 : Int32)), (.int i6)])) _
  refine XS.icmpYes X0.here hx rfl (pc0 := 444) (pc' := 462) rfl (hb hby at_444) rfl (flt hc444).2.2.2 (by decide) (by decide) ?_
  exact kt
set_option maxRecDepth 65536 in
set_option maxHeartbeats 40000000 in
theorem tn0_441_ft {p : Program} {l : Launch} {e : Env} {s : State} {m : MethodId} {args : Array Value} {below : List Frame} {meth : Method} {c : Code} {T0 : State} {locs : List Loc} {Z : State} {a0 : Array Value} {h0 : Heap} (s0 : Slot) (s1 : Slot) (s2 : Slot) (s3 : Slot) (s4 : Slot) (s5 : Slot) (i6 : Int32) (s7 : Slot) (s8 : Slot) (i9 : Int32) (s10 : Slot) (s11 : Slot) (s12 : Slot) (s13 : Slot) (s14 : Slot) (s15 : Slot) (s16 : Slot) (s17 : Slot) (s18 : Slot) (i19 : Int32) (s20 : Slot) (s21 : Slot) (s22 : Slot) (s23 : Slot)
    (X0 : Stand p l e room_1 s m args below meth c T0 locs 3 19) (hx : p.tables.exec = Jvm.exec) (hZ : Z.Warmed39 s.vm) (hw : ∀ d ∈ tables_1, d.before a0 Z = true) (hby : c.code = code) (hml : c.maxLocals = 24) (hown : s.vm.findClass "com/example/umbel/umbel/query/OccurrencesFirstUnusedAfterPinLaw" = some m.cls) (e0 : T0.heap = h0) (n0 : Nat) (Z0 : n0 ≤ h0.size) (N0 : Fr n0 locs) (hc444 : (2 : Int32) < i6) (hc451 : ¬ (i19 < i9)) :
    ∃ (T' : State) (locs' : List Loc), Stand p l e room_1 s m args below meth c T' locs' 3 19 ∧ Fr n0 locs' ∧ T'.heap = h0 ∧
      ∀ target, Steps p.tables e below (T'.setTop (mkF m 462 #[s0, s1, s2, s3, s4, s5, .val (.int i6), s7, s8, .val (.int i9), s10, s11, s12, s13, s14, s15, s16, s17, s18, .val (.int i19), s20, s21, s22, s23] [])) target → Steps p.tables e below (T0.setTop (mkF m 441 #[s0, s1, s2, s3, s4, s5, .val (.int i6), s7, s8, .val (.int i9), s10, s11, s12, s13, s14, s15, s16, s17, s18, .val (.int i19), s20, s21, s22, s23] [])) target := by
  refine ⟨T0, _, X0, N0, e0, fun target kt => ?_⟩
  show Steps p.tables e below (T0.setTop (mkF m 441 #[s0, s1, s2, s3, s4, s5, .val (.int i6), s7, s8, .val (.int i9), s10, s11, s12, s13, s14, s15, s16, s17, s18, .val (.int i19), s20, s21, s22, s23] [])) _
  refine XS.iload X0.here hx rfl (hb hby at_441) rfl ?_
  show Steps p.tables e below (T0.setTop (mkF m 443 #[s0, s1, s2, s3, s4, s5, .val (.int i6), s7, s8, .val (.int i9), s10, s11, s12, s13, s14, s15, s16, s17, s18, .val (.int i19), s20, s21, s22, s23] [(.int i6)])) _
  refine XS.iconst X0.here hx rfl (hb hby at_443) ?_
  show Steps p.tables e below (T0.setTop (mkF m 444 #[s0, s1, s2, s3, s4, s5, .val (.int i6), s7, s8, .val (.int i9), s10, s11, s12, s13, s14, s15, s16, s17, s18, .val (.int i19), s20, s21, s22, s23] [(.int (2 : Int32)), (.int i6)])) _
  refine XS.icmpNo X0.here hx rfl (hb hby at_444) rfl (tlt hc444).2.2.2 ?_
  show Steps p.tables e below (T0.setTop (mkF m 447 #[s0, s1, s2, s3, s4, s5, .val (.int i6), s7, s8, .val (.int i9), s10, s11, s12, s13, s14, s15, s16, s17, s18, .val (.int i19), s20, s21, s22, s23] [])) _
  refine XS.iload X0.here hx rfl (hb hby at_447) rfl ?_
  show Steps p.tables e below (T0.setTop (mkF m 449 #[s0, s1, s2, s3, s4, s5, .val (.int i6), s7, s8, .val (.int i9), s10, s11, s12, s13, s14, s15, s16, s17, s18, .val (.int i19), s20, s21, s22, s23] [(.int i9)])) _
  refine XS.iload X0.here hx rfl (hb hby at_449) rfl ?_
  show Steps p.tables e below (T0.setTop (mkF m 451 #[s0, s1, s2, s3, s4, s5, .val (.int i6), s7, s8, .val (.int i9), s10, s11, s12, s13, s14, s15, s16, s17, s18, .val (.int i19), s20, s21, s22, s23] [(.int i19), (.int i9)])) _
  refine XS.icmpYes X0.here hx rfl (pc0 := 451) (pc' := 462) rfl (hb hby at_451) rfl (flt hc451).2.2.2 (by decide) (by decide) ?_
  exact kt
set_option maxRecDepth 65536 in
set_option maxHeartbeats 40000000 in
theorem tn0_441_fft {p : Program} {l : Launch} {e : Env} {s : State} {m : MethodId} {args : Array Value} {below : List Frame} {meth : Method} {c : Code} {T0 : State} {locs : List Loc} {Z : State} {a0 : Array Value} {h0 : Heap} (s0 : Slot) (s1 : Slot) (s2 : Slot) (s3 : Slot) (s4 : Slot) (s5 : Slot) (i6 : Int32) (s7 : Slot) (s8 : Slot) (i9 : Int32) (s10 : Slot) (s11 : Slot) (s12 : Slot) (s13 : Slot) (s14 : Slot) (s15 : Slot) (s16 : Slot) (i17 : Int32) (s18 : Slot) (i19 : Int32) (s20 : Slot) (s21 : Slot) (s22 : Slot) (s23 : Slot)
    (X0 : Stand p l e room_1 s m args below meth c T0 locs 3 19) (hx : p.tables.exec = Jvm.exec) (hZ : Z.Warmed39 s.vm) (hw : ∀ d ∈ tables_1, d.before a0 Z = true) (hby : c.code = code) (hml : c.maxLocals = 24) (hown : s.vm.findClass "com/example/umbel/umbel/query/OccurrencesFirstUnusedAfterPinLaw" = some m.cls) (e0 : T0.heap = h0) (n0 : Nat) (Z0 : n0 ≤ h0.size) (N0 : Fr n0 locs) (hc444 : (2 : Int32) < i6) (hc451 : i19 < i9) (hc456 : ¬ (i17 = (0 : Int32))) :
    ∃ (T' : State) (locs' : List Loc), Stand p l e room_1 s m args below meth c T' locs' 3 19 ∧ Fr n0 locs' ∧ T'.heap = h0 ∧
      ∀ target, Steps p.tables e below (T'.setTop (mkF m 462 #[s0, s1, s2, s3, s4, s5, .val (.int i6), s7, s8, .val (.int i9), s10, s11, s12, s13, s14, s15, s16, .val (.int i17), s18, .val (.int i19), s20, s21, s22, s23] [])) target → Steps p.tables e below (T0.setTop (mkF m 441 #[s0, s1, s2, s3, s4, s5, .val (.int i6), s7, s8, .val (.int i9), s10, s11, s12, s13, s14, s15, s16, .val (.int i17), s18, .val (.int i19), s20, s21, s22, s23] [])) target := by
  refine ⟨T0, _, X0, N0, e0, fun target kt => ?_⟩
  show Steps p.tables e below (T0.setTop (mkF m 441 #[s0, s1, s2, s3, s4, s5, .val (.int i6), s7, s8, .val (.int i9), s10, s11, s12, s13, s14, s15, s16, .val (.int i17), s18, .val (.int i19), s20, s21, s22, s23] [])) _
  refine XS.iload X0.here hx rfl (hb hby at_441) rfl ?_
  show Steps p.tables e below (T0.setTop (mkF m 443 #[s0, s1, s2, s3, s4, s5, .val (.int i6), s7, s8, .val (.int i9), s10, s11, s12, s13, s14, s15, s16, .val (.int i17), s18, .val (.int i19), s20, s21, s22, s23] [(.int i6)])) _
  refine XS.iconst X0.here hx rfl (hb hby at_443) ?_
  show Steps p.tables e below (T0.setTop (mkF m 444 #[s0, s1, s2, s3, s4, s5, .val (.int i6), s7, s8, .val (.int i9), s10, s11, s12, s13, s14, s15, s16, .val (.int i17), s18, .val (.int i19), s20, s21, s22, s23] [(.int (2 : Int32)), (.int i6)])) _
  refine XS.icmpNo X0.here hx rfl (hb hby at_444) rfl (tlt hc444).2.2.2 ?_
  show Steps p.tables e below (T0.setTop (mkF m 447 #[s0, s1, s2, s3, s4, s5, .val (.int i6), s7, s8, .val (.int i9), s10, s11, s12, s13, s14, s15, s16, .val (.int i17), s18, .val (.int i19), s20, s21, s22, s23] [])) _
  refine XS.iload X0.here hx rfl (hb hby at_447) rfl ?_
  show Steps p.tables e below (T0.setTop (mkF m 449 #[s0, s1, s2, s3, s4, s5, .val (.int i6), s7, s8, .val (.int i9), s10, s11, s12, s13, s14, s15, s16, .val (.int i17), s18, .val (.int i19), s20, s21, s22, s23] [(.int i9)])) _
  refine XS.iload X0.here hx rfl (hb hby at_449) rfl ?_
  show Steps p.tables e below (T0.setTop (mkF m 451 #[s0, s1, s2, s3, s4, s5, .val (.int i6), s7, s8, .val (.int i9), s10, s11, s12, s13, s14, s15, s16, .val (.int i17), s18, .val (.int i19), s20, s21, s22, s23] [(.int i19), (.int i9)])) _
  refine XS.icmpNo X0.here hx rfl (hb hby at_451) rfl (tlt hc451).2.2.2 ?_
  show Steps p.tables e below (T0.setTop (mkF m 454 #[s0, s1, s2, s3, s4, s5, .val (.int i6), s7, s8, .val (.int i9), s10, s11, s12, s13, s14, s15, s16, .val (.int i17), s18, .val (.int i19), s20, s21, s22, s23] [])) _
  refine XS.iload X0.here hx rfl (hb hby at_454) rfl ?_
  show Steps p.tables e below (T0.setTop (mkF m 456 #[s0, s1, s2, s3, s4, s5, .val (.int i6), s7, s8, .val (.int i9), s10, s11, s12, s13, s14, s15, s16, .val (.int i17), s18, .val (.int i19), s20, s21, s22, s23] [(.int i17)])) _
  refine XS.ifYes X0.here hx rfl (pc0 := 456) (pc' := 462) rfl (hb hby at_456) rfl ((if0 _ _).trans (feq hc456).2) (by decide) (by decide) ?_
  exact kt
theorem os_tn0_441_fff_460 {s0 : Slot} {s1 : Slot} {s2 : Slot} {s3 : Slot} {s4 : Slot} {s5 : Slot} {z6 : Value} {s7 : Slot} {s8 : Slot} {z9 : Value} {s10 : Slot} {s11 : Slot} {s12 : Slot} {s13 : Slot} {s14 : Slot} {s15 : Slot} {s16 : Slot} {z17 : Value} {s18 : Slot} {z19 : Value} {s20 : Slot} {s21 : Slot} {s22 : Slot} {s23 : Slot} {v : Int32} (h : One s22) : storeLocals #[s0, s1, s2, s3, s4, s5, .val z6, s7, s8, .val z9, s10, s11, s12, s13, s14, s15, s16, .val z17, s18, .val z19, s20, s21, s22, s23] 22 (.int v) = some #[s0, s1, s2, s3, s4, s5, .val z6, s7, s8, .val z9, s10, s11, s12, s13, s14, s15, s16, .val z17, s18, .val z19, s20, s21, .val (.int v), s23] := by
  rcases h with rfl | ⟨w, rfl, hw⟩
  · rfl
  · cases w <;> first | rfl | (simp [Value.category] at hw)
set_option maxRecDepth 65536 in
set_option maxHeartbeats 40000000 in
theorem tn0_441_fff {p : Program} {l : Launch} {e : Env} {s : State} {m : MethodId} {args : Array Value} {below : List Frame} {meth : Method} {c : Code} {T0 : State} {locs : List Loc} {Z : State} {a0 : Array Value} {h0 : Heap} (s0 : Slot) (s1 : Slot) (s2 : Slot) (s3 : Slot) (s4 : Slot) (s5 : Slot) (i6 : Int32) (s7 : Slot) (s8 : Slot) (i9 : Int32) (s10 : Slot) (s11 : Slot) (s12 : Slot) (s13 : Slot) (s14 : Slot) (s15 : Slot) (s16 : Slot) (i17 : Int32) (s18 : Slot) (i19 : Int32) (s20 : Slot) (s21 : Slot) (s22 : Slot) (s23 : Slot)
    (X0 : Stand p l e room_1 s m args below meth c T0 locs 3 19) (hx : p.tables.exec = Jvm.exec) (hZ : Z.Warmed39 s.vm) (hw : ∀ d ∈ tables_1, d.before a0 Z = true) (hby : c.code = code) (hml : c.maxLocals = 24) (hown : s.vm.findClass "com/example/umbel/umbel/query/OccurrencesFirstUnusedAfterPinLaw" = some m.cls) (e0 : T0.heap = h0) (n0 : Nat) (Z0 : n0 ≤ h0.size) (N0 : Fr n0 locs) (hs22 : One s22) (hc444 : (2 : Int32) < i6) (hc451 : i19 < i9) (hc456 : i17 = (0 : Int32)) :
    ∃ (T' : State) (locs' : List Loc), Stand p l e room_1 s m args below meth c T' locs' 3 19 ∧ Fr n0 locs' ∧ T'.heap = h0 ∧
      ∀ target, Steps p.tables e below (T'.setTop (mkF m 462 #[s0, s1, s2, s3, s4, s5, .val (.int i6), s7, s8, .val (.int i9), s10, s11, s12, s13, s14, s15, s16, .val (.int i17), s18, .val (.int i19), s20, s21, .val (.int (2 : Int32)), s23] [])) target → Steps p.tables e below (T0.setTop (mkF m 441 #[s0, s1, s2, s3, s4, s5, .val (.int i6), s7, s8, .val (.int i9), s10, s11, s12, s13, s14, s15, s16, .val (.int i17), s18, .val (.int i19), s20, s21, s22, s23] [])) target := by
  refine ⟨T0, _, X0, N0, e0, fun target kt => ?_⟩
  show Steps p.tables e below (T0.setTop (mkF m 441 #[s0, s1, s2, s3, s4, s5, .val (.int i6), s7, s8, .val (.int i9), s10, s11, s12, s13, s14, s15, s16, .val (.int i17), s18, .val (.int i19), s20, s21, s22, s23] [])) _
  refine XS.iload X0.here hx rfl (hb hby at_441) rfl ?_
  show Steps p.tables e below (T0.setTop (mkF m 443 #[s0, s1, s2, s3, s4, s5, .val (.int i6), s7, s8, .val (.int i9), s10, s11, s12, s13, s14, s15, s16, .val (.int i17), s18, .val (.int i19), s20, s21, s22, s23] [(.int i6)])) _
  refine XS.iconst X0.here hx rfl (hb hby at_443) ?_
  show Steps p.tables e below (T0.setTop (mkF m 444 #[s0, s1, s2, s3, s4, s5, .val (.int i6), s7, s8, .val (.int i9), s10, s11, s12, s13, s14, s15, s16, .val (.int i17), s18, .val (.int i19), s20, s21, s22, s23] [(.int (2 : Int32)), (.int i6)])) _
  refine XS.icmpNo X0.here hx rfl (hb hby at_444) rfl (tlt hc444).2.2.2 ?_
  show Steps p.tables e below (T0.setTop (mkF m 447 #[s0, s1, s2, s3, s4, s5, .val (.int i6), s7, s8, .val (.int i9), s10, s11, s12, s13, s14, s15, s16, .val (.int i17), s18, .val (.int i19), s20, s21, s22, s23] [])) _
  refine XS.iload X0.here hx rfl (hb hby at_447) rfl ?_
  show Steps p.tables e below (T0.setTop (mkF m 449 #[s0, s1, s2, s3, s4, s5, .val (.int i6), s7, s8, .val (.int i9), s10, s11, s12, s13, s14, s15, s16, .val (.int i17), s18, .val (.int i19), s20, s21, s22, s23] [(.int i9)])) _
  refine XS.iload X0.here hx rfl (hb hby at_449) rfl ?_
  show Steps p.tables e below (T0.setTop (mkF m 451 #[s0, s1, s2, s3, s4, s5, .val (.int i6), s7, s8, .val (.int i9), s10, s11, s12, s13, s14, s15, s16, .val (.int i17), s18, .val (.int i19), s20, s21, s22, s23] [(.int i19), (.int i9)])) _
  refine XS.icmpNo X0.here hx rfl (hb hby at_451) rfl (tlt hc451).2.2.2 ?_
  show Steps p.tables e below (T0.setTop (mkF m 454 #[s0, s1, s2, s3, s4, s5, .val (.int i6), s7, s8, .val (.int i9), s10, s11, s12, s13, s14, s15, s16, .val (.int i17), s18, .val (.int i19), s20, s21, s22, s23] [])) _
  refine XS.iload X0.here hx rfl (hb hby at_454) rfl ?_
  show Steps p.tables e below (T0.setTop (mkF m 456 #[s0, s1, s2, s3, s4, s5, .val (.int i6), s7, s8, .val (.int i9), s10, s11, s12, s13, s14, s15, s16, .val (.int i17), s18, .val (.int i19), s20, s21, s22, s23] [(.int i17)])) _
  refine XS.ifNo X0.here hx rfl (hb hby at_456) rfl ((if0 _ _).trans (teq hc456).2) ?_
  show Steps p.tables e below (T0.setTop (mkF m 459 #[s0, s1, s2, s3, s4, s5, .val (.int i6), s7, s8, .val (.int i9), s10, s11, s12, s13, s14, s15, s16, .val (.int i17), s18, .val (.int i19), s20, s21, s22, s23] [])) _
  refine XS.iconst X0.here hx rfl (hb hby at_459) ?_
  show Steps p.tables e below (T0.setTop (mkF m 460 #[s0, s1, s2, s3, s4, s5, .val (.int i6), s7, s8, .val (.int i9), s10, s11, s12, s13, s14, s15, s16, .val (.int i17), s18, .val (.int i19), s20, s21, s22, s23] [(.int (2 : Int32))])) _
  refine XS.istore X0.here hx rfl (hb hby at_460) rfl (l' := #[s0, s1, s2, s3, s4, s5, .val (.int i6), s7, s8, .val (.int i9), s10, s11, s12, s13, s14, s15, s16, .val (.int i17), s18, .val (.int i19), s20, s21, .val (.int (2 : Int32)), s23]) (os_tn0_441_fff_460 hs22) ?_
  exact kt
theorem want2 {p : Program} {l : Launch} {e : Env} {s : State} {m : MethodId} {args : Array Value} {below : List Frame} {meth : Method} {c : Code} {Z : State} {a0 : Array Value} {h0 : Heap} {T0 : State} {locs : List Loc} (s0 : Slot) (s1 : Slot) (s2 : Slot) (s3 : Slot) (s4 : Slot) (s5 : Slot) (i6 : Int32) (s7 : Slot) (s8 : Slot) (i9 : Int32) (s10 : Slot) (s11 : Slot) (s12 : Slot) (s13 : Slot) (s14 : Slot) (s15 : Slot) (s16 : Slot) (i17 : Int32) (s18 : Slot) (i19 : Int32) (s20 : Slot) (s21 : Slot) (w : Int32) (s23 : Slot)
    (X0 : Stand p l e room_1 s m args below meth c T0 locs 3 19) (hx : p.tables.exec = Jvm.exec) (hZ : Z.Warmed39 s.vm) (hw : ∀ d ∈ tables_1, d.before a0 Z = true) (hby : c.code = code) (hml : c.maxLocals = 24) (hown : s.vm.findClass "com/example/umbel/umbel/query/OccurrencesFirstUnusedAfterPinLaw" = some m.cls) (e0 : T0.heap = h0) (n0 : Nat) (Z0 : n0 ≤ h0.size) (N0 : Fr n0 locs) (N : Nat) (hN : i6.toInt = (N : Int)) (R : Nat → Prop) (hR : R 2 ↔ (i19 < i9 ∧ i17 = 0)) (hw0 : own_res (2 + 1) N R w) :
    ∃ (T' : State) (locs' : List Loc) (w' : Int32), Stand p l e room_1 s m args below meth c T' locs' 3 19 ∧ Fr n0 locs' ∧ T'.heap = h0 ∧ own_res 2 N R w' ∧
      ∀ target, Steps p.tables e below (T'.setTop (mkF m 462 #[s0, s1, s2, s3, s4, s5, .val (.int i6), s7, s8, .val (.int i9), s10, s11, s12, s13, s14, s15, s16, .val (.int i17), s18, .val (.int i19), s20, s21, .val (.int w'), s23] [])) target → Steps p.tables e below (T0.setTop (mkF m 441 #[s0, s1, s2, s3, s4, s5, .val (.int i6), s7, s8, .val (.int i9), s10, s11, s12, s13, s14, s15, s16, .val (.int i17), s18, .val (.int i19), s20, s21, .val (.int w), s23] [])) target := by
  have ek : (2 : Int32).toInt = 2 := by decide
  by_cases q : (2 : Int32) < i6
  · have q' := q
    rw [own_lt, ek] at q'
    by_cases r : i19 < i9
    · by_cases u : i17 = (0 : Int32)
      · obtain ⟨T1, L1, X1, N1, e1, st1⟩ := tn0_441_fff s0 s1 s2 s3 s4 s5 i6 s7 s8 i9 s10 s11 s12 s13 s14 s15 s16 i17 s18 i19 s20 s21 (.val (.int w)) s23 X0 hx hZ hw hby hml hown e0 n0 Z0 N0 (One.val rfl) q r u
        exact ⟨T1, L1, (2 : Int32), X1, N1, e1, own_resyes ek (by omega) (hR.mpr ⟨r, u⟩), st1⟩
      · obtain ⟨T1, L1, X1, N1, e1, st1⟩ := tn0_441_fft s0 s1 s2 s3 s4 s5 i6 s7 s8 i9 s10 s11 s12 s13 s14 s15 s16 i17 s18 i19 s20 s21 (.val (.int w)) s23 X0 hx hZ hw hby hml hown e0 n0 Z0 N0 q r u
        exact ⟨T1, L1, w, X1, N1, e1, own_resno hw0 (fun h => u (hR.mp h.2).2), st1⟩
    · obtain ⟨T1, L1, X1, N1, e1, st1⟩ := tn0_441_ft s0 s1 s2 s3 s4 s5 i6 s7 s8 i9 s10 s11 s12 s13 s14 s15 s16 (.val (.int i17)) s18 i19 s20 s21 (.val (.int w)) s23 X0 hx hZ hw hby hml hown e0 n0 Z0 N0 q r
      exact ⟨T1, L1, w, X1, N1, e1, own_resno hw0 (fun h => r (hR.mp h.2).1), st1⟩
  · have q' := q
    rw [own_lt, ek] at q'
    obtain ⟨T1, L1, X1, N1, e1, st1⟩ := tn0_441_t s0 s1 s2 s3 s4 s5 i6 s7 s8 (.val (.int i9)) s10 s11 s12 s13 s14 s15 s16 (.val (.int i17)) s18 (.val (.int i19)) s20 s21 (.val (.int w)) s23 X0 hx hZ hw hby hml hown e0 n0 Z0 N0 q
    exact ⟨T1, L1, w, X1, N1, e1, own_resno hw0 (fun h => absurd h.1 (by omega)), st1⟩
set_option maxRecDepth 65536 in
set_option maxHeartbeats 40000000 in
theorem tn0_462_t {p : Program} {l : Launch} {e : Env} {s : State} {m : MethodId} {args : Array Value} {below : List Frame} {meth : Method} {c : Code} {T0 : State} {locs : List Loc} {Z : State} {a0 : Array Value} {h0 : Heap} (s0 : Slot) (s1 : Slot) (s2 : Slot) (s3 : Slot) (s4 : Slot) (s5 : Slot) (i6 : Int32) (s7 : Slot) (s8 : Slot) (s9 : Slot) (s10 : Slot) (s11 : Slot) (s12 : Slot) (s13 : Slot) (s14 : Slot) (s15 : Slot) (s16 : Slot) (s17 : Slot) (s18 : Slot) (s19 : Slot) (s20 : Slot) (s21 : Slot) (s22 : Slot) (s23 : Slot)
    (X0 : Stand p l e room_1 s m args below meth c T0 locs 3 19) (hx : p.tables.exec = Jvm.exec) (hZ : Z.Warmed39 s.vm) (hw : ∀ d ∈ tables_1, d.before a0 Z = true) (hby : c.code = code) (hml : c.maxLocals = 24) (hown : s.vm.findClass "com/example/umbel/umbel/query/OccurrencesFirstUnusedAfterPinLaw" = some m.cls) (e0 : T0.heap = h0) (n0 : Nat) (Z0 : n0 ≤ h0.size) (N0 : Fr n0 locs) (hc465 : ¬ ((1 : Int32) < i6)) :
    ∃ (T' : State) (locs' : List Loc), Stand p l e room_1 s m args below meth c T' locs' 3 19 ∧ Fr n0 locs' ∧ T'.heap = h0 ∧
      ∀ target, Steps p.tables e below (T'.setTop (mkF m 483 #[s0, s1, s2, s3, s4, s5, .val (.int i6), s7, s8, s9, s10, s11, s12, s13, s14, s15, s16, s17, s18, s19, s20, s21, s22, s23] [])) target → Steps p.tables e below (T0.setTop (mkF m 462 #[s0, s1, s2, s3, s4, s5, .val (.int i6), s7, s8, s9, s10, s11, s12, s13, s14, s15, s16, s17, s18, s19, s20, s21, s22, s23] [])) target := by
  refine ⟨T0, _, X0, N0, e0, fun target kt => ?_⟩
  show Steps p.tables e below (T0.setTop (mkF m 462 #[s0, s1, s2, s3, s4, s5, .val (.int i6), s7, s8, s9, s10, s11, s12, s13, s14, s15, s16, s17, s18, s19, s20, s21, s22, s23] [])) _
  refine XS.iload X0.here hx rfl (hb hby at_462) rfl ?_
  show Steps p.tables e below (T0.setTop (mkF m 464 #[s0, s1, s2, s3, s4, s5, .val (.int i6), s7, s8, s9, s10, s11, s12, s13, s14, s15, s16, s17, s18, s19, s20, s21, s22, s23] [(.int i6)])) _
  refine XS.iconst X0.here hx rfl (hb hby at_464) ?_
  show Steps p.tables e below (T0.setTop (mkF m 465 #[s0, s1, s2, s3, s4, s5, .val (.int i6), s7, s8, s9, s10, s11, s12, s13, s14, s15, s16, s17, s18, s19, s20, s21, s22, s23] [(.int (1 : Int32)), (.int i6)])) _
  refine XS.icmpYes X0.here hx rfl (pc0 := 465) (pc' := 483) rfl (hb hby at_465) rfl (flt hc465).2.2.2 (by decide) (by decide) ?_
  exact kt
set_option maxRecDepth 65536 in
set_option maxHeartbeats 40000000 in
theorem tn0_462_ft {p : Program} {l : Launch} {e : Env} {s : State} {m : MethodId} {args : Array Value} {below : List Frame} {meth : Method} {c : Code} {T0 : State} {locs : List Loc} {Z : State} {a0 : Array Value} {h0 : Heap} (s0 : Slot) (s1 : Slot) (s2 : Slot) (s3 : Slot) (s4 : Slot) (s5 : Slot) (i6 : Int32) (s7 : Slot) (i8 : Int32) (s9 : Slot) (s10 : Slot) (s11 : Slot) (s12 : Slot) (s13 : Slot) (s14 : Slot) (s15 : Slot) (s16 : Slot) (s17 : Slot) (s18 : Slot) (i19 : Int32) (s20 : Slot) (s21 : Slot) (s22 : Slot) (s23 : Slot)
    (X0 : Stand p l e room_1 s m args below meth c T0 locs 3 19) (hx : p.tables.exec = Jvm.exec) (hZ : Z.Warmed39 s.vm) (hw : ∀ d ∈ tables_1, d.before a0 Z = true) (hby : c.code = code) (hml : c.maxLocals = 24) (hown : s.vm.findClass "com/example/umbel/umbel/query/OccurrencesFirstUnusedAfterPinLaw" = some m.cls) (e0 : T0.heap = h0) (n0 : Nat) (Z0 : n0 ≤ h0.size) (N0 : Fr n0 locs) (hc465 : (1 : Int32) < i6) (hc472 : ¬ (i19 < i8)) :
    ∃ (T' : State) (locs' : List Loc), Stand p l e room_1 s m args below meth c T' locs' 3 19 ∧ Fr n0 locs' ∧ T'.heap = h0 ∧
      ∀ target, Steps p.tables e below (T'.setTop (mkF m 483 #[s0, s1, s2, s3, s4, s5, .val (.int i6), s7, .val (.int i8), s9, s10, s11, s12, s13, s14, s15, s16, s17, s18, .val (.int i19), s20, s21, s22, s23] [])) target → Steps p.tables e below (T0.setTop (mkF m 462 #[s0, s1, s2, s3, s4, s5, .val (.int i6), s7, .val (.int i8), s9, s10, s11, s12, s13, s14, s15, s16, s17, s18, .val (.int i19), s20, s21, s22, s23] [])) target := by
  refine ⟨T0, _, X0, N0, e0, fun target kt => ?_⟩
  show Steps p.tables e below (T0.setTop (mkF m 462 #[s0, s1, s2, s3, s4, s5, .val (.int i6), s7, .val (.int i8), s9, s10, s11, s12, s13, s14, s15, s16, s17, s18, .val (.int i19), s20, s21, s22, s23] [])) _
  refine XS.iload X0.here hx rfl (hb hby at_462) rfl ?_
  show Steps p.tables e below (T0.setTop (mkF m 464 #[s0, s1, s2, s3, s4, s5, .val (.int i6), s7, .val (.int i8), s9, s10, s11, s12, s13, s14, s15, s16, s17, s18, .val (.int i19), s20, s21, s22, s23] [(.int i6)])) _
  refine XS.iconst X0.here hx rfl (hb hby at_464) ?_
  show Steps p.tables e below (T0.setTop (mkF m 465 #[s0, s1, s2, s3, s4, s5, .val (.int i6), s7, .val (.int i8), s9, s10, s11, s12, s13, s14, s15, s16, s17, s18, .val (.int i19), s20, s21, s22, s23] [(.int (1 : Int32)), (.int i6)])) _
  refine XS.icmpNo X0.here hx rfl (hb hby at_465) rfl (tlt hc465).2.2.2 ?_
  show Steps p.tables e below (T0.setTop (mkF m 468 #[s0, s1, s2, s3, s4, s5, .val (.int i6), s7, .val (.int i8), s9, s10, s11, s12, s13, s14, s15, s16, s17, s18, .val (.int i19), s20, s21, s22, s23] [])) _
  refine XS.iload X0.here hx rfl (hb hby at_468) rfl ?_
  show Steps p.tables e below (T0.setTop (mkF m 470 #[s0, s1, s2, s3, s4, s5, .val (.int i6), s7, .val (.int i8), s9, s10, s11, s12, s13, s14, s15, s16, s17, s18, .val (.int i19), s20, s21, s22, s23] [(.int i8)])) _
  refine XS.iload X0.here hx rfl (hb hby at_470) rfl ?_
  show Steps p.tables e below (T0.setTop (mkF m 472 #[s0, s1, s2, s3, s4, s5, .val (.int i6), s7, .val (.int i8), s9, s10, s11, s12, s13, s14, s15, s16, s17, s18, .val (.int i19), s20, s21, s22, s23] [(.int i19), (.int i8)])) _
  refine XS.icmpYes X0.here hx rfl (pc0 := 472) (pc' := 483) rfl (hb hby at_472) rfl (flt hc472).2.2.2 (by decide) (by decide) ?_
  exact kt
set_option maxRecDepth 65536 in
set_option maxHeartbeats 40000000 in
theorem tn0_462_fft {p : Program} {l : Launch} {e : Env} {s : State} {m : MethodId} {args : Array Value} {below : List Frame} {meth : Method} {c : Code} {T0 : State} {locs : List Loc} {Z : State} {a0 : Array Value} {h0 : Heap} (s0 : Slot) (s1 : Slot) (s2 : Slot) (s3 : Slot) (s4 : Slot) (s5 : Slot) (i6 : Int32) (s7 : Slot) (i8 : Int32) (s9 : Slot) (s10 : Slot) (s11 : Slot) (s12 : Slot) (s13 : Slot) (s14 : Slot) (s15 : Slot) (i16 : Int32) (s17 : Slot) (s18 : Slot) (i19 : Int32) (s20 : Slot) (s21 : Slot) (s22 : Slot) (s23 : Slot)
    (X0 : Stand p l e room_1 s m args below meth c T0 locs 3 19) (hx : p.tables.exec = Jvm.exec) (hZ : Z.Warmed39 s.vm) (hw : ∀ d ∈ tables_1, d.before a0 Z = true) (hby : c.code = code) (hml : c.maxLocals = 24) (hown : s.vm.findClass "com/example/umbel/umbel/query/OccurrencesFirstUnusedAfterPinLaw" = some m.cls) (e0 : T0.heap = h0) (n0 : Nat) (Z0 : n0 ≤ h0.size) (N0 : Fr n0 locs) (hc465 : (1 : Int32) < i6) (hc472 : i19 < i8) (hc477 : ¬ (i16 = (0 : Int32))) :
    ∃ (T' : State) (locs' : List Loc), Stand p l e room_1 s m args below meth c T' locs' 3 19 ∧ Fr n0 locs' ∧ T'.heap = h0 ∧
      ∀ target, Steps p.tables e below (T'.setTop (mkF m 483 #[s0, s1, s2, s3, s4, s5, .val (.int i6), s7, .val (.int i8), s9, s10, s11, s12, s13, s14, s15, .val (.int i16), s17, s18, .val (.int i19), s20, s21, s22, s23] [])) target → Steps p.tables e below (T0.setTop (mkF m 462 #[s0, s1, s2, s3, s4, s5, .val (.int i6), s7, .val (.int i8), s9, s10, s11, s12, s13, s14, s15, .val (.int i16), s17, s18, .val (.int i19), s20, s21, s22, s23] [])) target := by
  refine ⟨T0, _, X0, N0, e0, fun target kt => ?_⟩
  show Steps p.tables e below (T0.setTop (mkF m 462 #[s0, s1, s2, s3, s4, s5, .val (.int i6), s7, .val (.int i8), s9, s10, s11, s12, s13, s14, s15, .val (.int i16), s17, s18, .val (.int i19), s20, s21, s22, s23] [])) _
  refine XS.iload X0.here hx rfl (hb hby at_462) rfl ?_
  show Steps p.tables e below (T0.setTop (mkF m 464 #[s0, s1, s2, s3, s4, s5, .val (.int i6), s7, .val (.int i8), s9, s10, s11, s12, s13, s14, s15, .val (.int i16), s17, s18, .val (.int i19), s20, s21, s22, s23] [(.int i6)])) _
  refine XS.iconst X0.here hx rfl (hb hby at_464) ?_
  show Steps p.tables e below (T0.setTop (mkF m 465 #[s0, s1, s2, s3, s4, s5, .val (.int i6), s7, .val (.int i8), s9, s10, s11, s12, s13, s14, s15, .val (.int i16), s17, s18, .val (.int i19), s20, s21, s22, s23] [(.int (1 : Int32)), (.int i6)])) _
  refine XS.icmpNo X0.here hx rfl (hb hby at_465) rfl (tlt hc465).2.2.2 ?_
  show Steps p.tables e below (T0.setTop (mkF m 468 #[s0, s1, s2, s3, s4, s5, .val (.int i6), s7, .val (.int i8), s9, s10, s11, s12, s13, s14, s15, .val (.int i16), s17, s18, .val (.int i19), s20, s21, s22, s23] [])) _
  refine XS.iload X0.here hx rfl (hb hby at_468) rfl ?_
  show Steps p.tables e below (T0.setTop (mkF m 470 #[s0, s1, s2, s3, s4, s5, .val (.int i6), s7, .val (.int i8), s9, s10, s11, s12, s13, s14, s15, .val (.int i16), s17, s18, .val (.int i19), s20, s21, s22, s23] [(.int i8)])) _
  refine XS.iload X0.here hx rfl (hb hby at_470) rfl ?_
  show Steps p.tables e below (T0.setTop (mkF m 472 #[s0, s1, s2, s3, s4, s5, .val (.int i6), s7, .val (.int i8), s9, s10, s11, s12, s13, s14, s15, .val (.int i16), s17, s18, .val (.int i19), s20, s21, s22, s23] [(.int i19), (.int i8)])) _
  refine XS.icmpNo X0.here hx rfl (hb hby at_472) rfl (tlt hc472).2.2.2 ?_
  show Steps p.tables e below (T0.setTop (mkF m 475 #[s0, s1, s2, s3, s4, s5, .val (.int i6), s7, .val (.int i8), s9, s10, s11, s12, s13, s14, s15, .val (.int i16), s17, s18, .val (.int i19), s20, s21, s22, s23] [])) _
  refine XS.iload X0.here hx rfl (hb hby at_475) rfl ?_
  show Steps p.tables e below (T0.setTop (mkF m 477 #[s0, s1, s2, s3, s4, s5, .val (.int i6), s7, .val (.int i8), s9, s10, s11, s12, s13, s14, s15, .val (.int i16), s17, s18, .val (.int i19), s20, s21, s22, s23] [(.int i16)])) _
  refine XS.ifYes X0.here hx rfl (pc0 := 477) (pc' := 483) rfl (hb hby at_477) rfl ((if0 _ _).trans (feq hc477).2) (by decide) (by decide) ?_
  exact kt
theorem os_tn0_462_fff_481 {s0 : Slot} {s1 : Slot} {s2 : Slot} {s3 : Slot} {s4 : Slot} {s5 : Slot} {z6 : Value} {s7 : Slot} {z8 : Value} {s9 : Slot} {s10 : Slot} {s11 : Slot} {s12 : Slot} {s13 : Slot} {s14 : Slot} {s15 : Slot} {z16 : Value} {s17 : Slot} {s18 : Slot} {z19 : Value} {s20 : Slot} {s21 : Slot} {s22 : Slot} {s23 : Slot} {v : Int32} (h : One s22) : storeLocals #[s0, s1, s2, s3, s4, s5, .val z6, s7, .val z8, s9, s10, s11, s12, s13, s14, s15, .val z16, s17, s18, .val z19, s20, s21, s22, s23] 22 (.int v) = some #[s0, s1, s2, s3, s4, s5, .val z6, s7, .val z8, s9, s10, s11, s12, s13, s14, s15, .val z16, s17, s18, .val z19, s20, s21, .val (.int v), s23] := by
  rcases h with rfl | ⟨w, rfl, hw⟩
  · rfl
  · cases w <;> first | rfl | (simp [Value.category] at hw)
set_option maxRecDepth 65536 in
set_option maxHeartbeats 40000000 in
theorem tn0_462_fff {p : Program} {l : Launch} {e : Env} {s : State} {m : MethodId} {args : Array Value} {below : List Frame} {meth : Method} {c : Code} {T0 : State} {locs : List Loc} {Z : State} {a0 : Array Value} {h0 : Heap} (s0 : Slot) (s1 : Slot) (s2 : Slot) (s3 : Slot) (s4 : Slot) (s5 : Slot) (i6 : Int32) (s7 : Slot) (i8 : Int32) (s9 : Slot) (s10 : Slot) (s11 : Slot) (s12 : Slot) (s13 : Slot) (s14 : Slot) (s15 : Slot) (i16 : Int32) (s17 : Slot) (s18 : Slot) (i19 : Int32) (s20 : Slot) (s21 : Slot) (s22 : Slot) (s23 : Slot)
    (X0 : Stand p l e room_1 s m args below meth c T0 locs 3 19) (hx : p.tables.exec = Jvm.exec) (hZ : Z.Warmed39 s.vm) (hw : ∀ d ∈ tables_1, d.before a0 Z = true) (hby : c.code = code) (hml : c.maxLocals = 24) (hown : s.vm.findClass "com/example/umbel/umbel/query/OccurrencesFirstUnusedAfterPinLaw" = some m.cls) (e0 : T0.heap = h0) (n0 : Nat) (Z0 : n0 ≤ h0.size) (N0 : Fr n0 locs) (hs22 : One s22) (hc465 : (1 : Int32) < i6) (hc472 : i19 < i8) (hc477 : i16 = (0 : Int32)) :
    ∃ (T' : State) (locs' : List Loc), Stand p l e room_1 s m args below meth c T' locs' 3 19 ∧ Fr n0 locs' ∧ T'.heap = h0 ∧
      ∀ target, Steps p.tables e below (T'.setTop (mkF m 483 #[s0, s1, s2, s3, s4, s5, .val (.int i6), s7, .val (.int i8), s9, s10, s11, s12, s13, s14, s15, .val (.int i16), s17, s18, .val (.int i19), s20, s21, .val (.int (1 : Int32)), s23] [])) target → Steps p.tables e below (T0.setTop (mkF m 462 #[s0, s1, s2, s3, s4, s5, .val (.int i6), s7, .val (.int i8), s9, s10, s11, s12, s13, s14, s15, .val (.int i16), s17, s18, .val (.int i19), s20, s21, s22, s23] [])) target := by
  refine ⟨T0, _, X0, N0, e0, fun target kt => ?_⟩
  show Steps p.tables e below (T0.setTop (mkF m 462 #[s0, s1, s2, s3, s4, s5, .val (.int i6), s7, .val (.int i8), s9, s10, s11, s12, s13, s14, s15, .val (.int i16), s17, s18, .val (.int i19), s20, s21, s22, s23] [])) _
  refine XS.iload X0.here hx rfl (hb hby at_462) rfl ?_
  show Steps p.tables e below (T0.setTop (mkF m 464 #[s0, s1, s2, s3, s4, s5, .val (.int i6), s7, .val (.int i8), s9, s10, s11, s12, s13, s14, s15, .val (.int i16), s17, s18, .val (.int i19), s20, s21, s22, s23] [(.int i6)])) _
  refine XS.iconst X0.here hx rfl (hb hby at_464) ?_
  show Steps p.tables e below (T0.setTop (mkF m 465 #[s0, s1, s2, s3, s4, s5, .val (.int i6), s7, .val (.int i8), s9, s10, s11, s12, s13, s14, s15, .val (.int i16), s17, s18, .val (.int i19), s20, s21, s22, s23] [(.int (1 : Int32)), (.int i6)])) _
  refine XS.icmpNo X0.here hx rfl (hb hby at_465) rfl (tlt hc465).2.2.2 ?_
  show Steps p.tables e below (T0.setTop (mkF m 468 #[s0, s1, s2, s3, s4, s5, .val (.int i6), s7, .val (.int i8), s9, s10, s11, s12, s13, s14, s15, .val (.int i16), s17, s18, .val (.int i19), s20, s21, s22, s23] [])) _
  refine XS.iload X0.here hx rfl (hb hby at_468) rfl ?_
  show Steps p.tables e below (T0.setTop (mkF m 470 #[s0, s1, s2, s3, s4, s5, .val (.int i6), s7, .val (.int i8), s9, s10, s11, s12, s13, s14, s15, .val (.int i16), s17, s18, .val (.int i19), s20, s21, s22, s23] [(.int i8)])) _
  refine XS.iload X0.here hx rfl (hb hby at_470) rfl ?_
  show Steps p.tables e below (T0.setTop (mkF m 472 #[s0, s1, s2, s3, s4, s5, .val (.int i6), s7, .val (.int i8), s9, s10, s11, s12, s13, s14, s15, .val (.int i16), s17, s18, .val (.int i19), s20, s21, s22, s23] [(.int i19), (.int i8)])) _
  refine XS.icmpNo X0.here hx rfl (hb hby at_472) rfl (tlt hc472).2.2.2 ?_
  show Steps p.tables e below (T0.setTop (mkF m 475 #[s0, s1, s2, s3, s4, s5, .val (.int i6), s7, .val (.int i8), s9, s10, s11, s12, s13, s14, s15, .val (.int i16), s17, s18, .val (.int i19), s20, s21, s22, s23] [])) _
  refine XS.iload X0.here hx rfl (hb hby at_475) rfl ?_
  show Steps p.tables e below (T0.setTop (mkF m 477 #[s0, s1, s2, s3, s4, s5, .val (.int i6), s7, .val (.int i8), s9, s10, s11, s12, s13, s14, s15, .val (.int i16), s17, s18, .val (.int i19), s20, s21, s22, s23] [(.int i16)])) _
  refine XS.ifNo X0.here hx rfl (hb hby at_477) rfl ((if0 _ _).trans (teq hc477).2) ?_
  show Steps p.tables e below (T0.setTop (mkF m 480 #[s0, s1, s2, s3, s4, s5, .val (.int i6), s7, .val (.int i8), s9, s10, s11, s12, s13, s14, s15, .val (.int i16), s17, s18, .val (.int i19), s20, s21, s22, s23] [])) _
  refine XS.iconst X0.here hx rfl (hb hby at_480) ?_
  show Steps p.tables e below (T0.setTop (mkF m 481 #[s0, s1, s2, s3, s4, s5, .val (.int i6), s7, .val (.int i8), s9, s10, s11, s12, s13, s14, s15, .val (.int i16), s17, s18, .val (.int i19), s20, s21, s22, s23] [(.int (1 : Int32))])) _
  refine XS.istore X0.here hx rfl (hb hby at_481) rfl (l' := #[s0, s1, s2, s3, s4, s5, .val (.int i6), s7, .val (.int i8), s9, s10, s11, s12, s13, s14, s15, .val (.int i16), s17, s18, .val (.int i19), s20, s21, .val (.int (1 : Int32)), s23]) (os_tn0_462_fff_481 hs22) ?_
  exact kt
theorem want1 {p : Program} {l : Launch} {e : Env} {s : State} {m : MethodId} {args : Array Value} {below : List Frame} {meth : Method} {c : Code} {Z : State} {a0 : Array Value} {h0 : Heap} {T0 : State} {locs : List Loc} (s0 : Slot) (s1 : Slot) (s2 : Slot) (s3 : Slot) (s4 : Slot) (s5 : Slot) (i6 : Int32) (s7 : Slot) (i8 : Int32) (s9 : Slot) (s10 : Slot) (s11 : Slot) (s12 : Slot) (s13 : Slot) (s14 : Slot) (s15 : Slot) (i16 : Int32) (s17 : Slot) (s18 : Slot) (i19 : Int32) (s20 : Slot) (s21 : Slot) (w : Int32) (s23 : Slot)
    (X0 : Stand p l e room_1 s m args below meth c T0 locs 3 19) (hx : p.tables.exec = Jvm.exec) (hZ : Z.Warmed39 s.vm) (hw : ∀ d ∈ tables_1, d.before a0 Z = true) (hby : c.code = code) (hml : c.maxLocals = 24) (hown : s.vm.findClass "com/example/umbel/umbel/query/OccurrencesFirstUnusedAfterPinLaw" = some m.cls) (e0 : T0.heap = h0) (n0 : Nat) (Z0 : n0 ≤ h0.size) (N0 : Fr n0 locs) (N : Nat) (hN : i6.toInt = (N : Int)) (R : Nat → Prop) (hR : R 1 ↔ (i19 < i8 ∧ i16 = 0)) (hw0 : own_res (1 + 1) N R w) :
    ∃ (T' : State) (locs' : List Loc) (w' : Int32), Stand p l e room_1 s m args below meth c T' locs' 3 19 ∧ Fr n0 locs' ∧ T'.heap = h0 ∧ own_res 1 N R w' ∧
      ∀ target, Steps p.tables e below (T'.setTop (mkF m 483 #[s0, s1, s2, s3, s4, s5, .val (.int i6), s7, .val (.int i8), s9, s10, s11, s12, s13, s14, s15, .val (.int i16), s17, s18, .val (.int i19), s20, s21, .val (.int w'), s23] [])) target → Steps p.tables e below (T0.setTop (mkF m 462 #[s0, s1, s2, s3, s4, s5, .val (.int i6), s7, .val (.int i8), s9, s10, s11, s12, s13, s14, s15, .val (.int i16), s17, s18, .val (.int i19), s20, s21, .val (.int w), s23] [])) target := by
  have ek : (1 : Int32).toInt = 1 := by decide
  by_cases q : (1 : Int32) < i6
  · have q' := q
    rw [own_lt, ek] at q'
    by_cases r : i19 < i8
    · by_cases u : i16 = (0 : Int32)
      · obtain ⟨T1, L1, X1, N1, e1, st1⟩ := tn0_462_fff s0 s1 s2 s3 s4 s5 i6 s7 i8 s9 s10 s11 s12 s13 s14 s15 i16 s17 s18 i19 s20 s21 (.val (.int w)) s23 X0 hx hZ hw hby hml hown e0 n0 Z0 N0 (One.val rfl) q r u
        exact ⟨T1, L1, (1 : Int32), X1, N1, e1, own_resyes ek (by omega) (hR.mpr ⟨r, u⟩), st1⟩
      · obtain ⟨T1, L1, X1, N1, e1, st1⟩ := tn0_462_fft s0 s1 s2 s3 s4 s5 i6 s7 i8 s9 s10 s11 s12 s13 s14 s15 i16 s17 s18 i19 s20 s21 (.val (.int w)) s23 X0 hx hZ hw hby hml hown e0 n0 Z0 N0 q r u
        exact ⟨T1, L1, w, X1, N1, e1, own_resno hw0 (fun h => u (hR.mp h.2).2), st1⟩
    · obtain ⟨T1, L1, X1, N1, e1, st1⟩ := tn0_462_ft s0 s1 s2 s3 s4 s5 i6 s7 i8 s9 s10 s11 s12 s13 s14 s15 (.val (.int i16)) s17 s18 i19 s20 s21 (.val (.int w)) s23 X0 hx hZ hw hby hml hown e0 n0 Z0 N0 q r
      exact ⟨T1, L1, w, X1, N1, e1, own_resno hw0 (fun h => r (hR.mp h.2).1), st1⟩
  · have q' := q
    rw [own_lt, ek] at q'
    obtain ⟨T1, L1, X1, N1, e1, st1⟩ := tn0_462_t s0 s1 s2 s3 s4 s5 i6 s7 (.val (.int i8)) s9 s10 s11 s12 s13 s14 s15 (.val (.int i16)) s17 s18 (.val (.int i19)) s20 s21 (.val (.int w)) s23 X0 hx hZ hw hby hml hown e0 n0 Z0 N0 q
    exact ⟨T1, L1, w, X1, N1, e1, own_resno hw0 (fun h => absurd h.1 (by omega)), st1⟩
set_option maxRecDepth 65536 in
set_option maxHeartbeats 40000000 in
theorem tn0_483_t {p : Program} {l : Launch} {e : Env} {s : State} {m : MethodId} {args : Array Value} {below : List Frame} {meth : Method} {c : Code} {T0 : State} {locs : List Loc} {Z : State} {a0 : Array Value} {h0 : Heap} (s0 : Slot) (s1 : Slot) (s2 : Slot) (s3 : Slot) (s4 : Slot) (s5 : Slot) (i6 : Int32) (s7 : Slot) (s8 : Slot) (s9 : Slot) (s10 : Slot) (s11 : Slot) (s12 : Slot) (s13 : Slot) (s14 : Slot) (s15 : Slot) (s16 : Slot) (s17 : Slot) (s18 : Slot) (s19 : Slot) (s20 : Slot) (s21 : Slot) (s22 : Slot) (s23 : Slot)
    (X0 : Stand p l e room_1 s m args below meth c T0 locs 3 19) (hx : p.tables.exec = Jvm.exec) (hZ : Z.Warmed39 s.vm) (hw : ∀ d ∈ tables_1, d.before a0 Z = true) (hby : c.code = code) (hml : c.maxLocals = 24) (hown : s.vm.findClass "com/example/umbel/umbel/query/OccurrencesFirstUnusedAfterPinLaw" = some m.cls) (e0 : T0.heap = h0) (n0 : Nat) (Z0 : n0 ≤ h0.size) (N0 : Fr n0 locs) (hc485 : ¬ ((0 : Int32) < i6)) :
    ∃ (T' : State) (locs' : List Loc), Stand p l e room_1 s m args below meth c T' locs' 3 19 ∧ Fr n0 locs' ∧ T'.heap = h0 ∧
      ∀ target, Steps p.tables e below (T'.setTop (mkF m 503 #[s0, s1, s2, s3, s4, s5, .val (.int i6), s7, s8, s9, s10, s11, s12, s13, s14, s15, s16, s17, s18, s19, s20, s21, s22, s23] [])) target → Steps p.tables e below (T0.setTop (mkF m 483 #[s0, s1, s2, s3, s4, s5, .val (.int i6), s7, s8, s9, s10, s11, s12, s13, s14, s15, s16, s17, s18, s19, s20, s21, s22, s23] [])) target := by
  refine ⟨T0, _, X0, N0, e0, fun target kt => ?_⟩
  show Steps p.tables e below (T0.setTop (mkF m 483 #[s0, s1, s2, s3, s4, s5, .val (.int i6), s7, s8, s9, s10, s11, s12, s13, s14, s15, s16, s17, s18, s19, s20, s21, s22, s23] [])) _
  refine XS.iload X0.here hx rfl (hb hby at_483) rfl ?_
  show Steps p.tables e below (T0.setTop (mkF m 485 #[s0, s1, s2, s3, s4, s5, .val (.int i6), s7, s8, s9, s10, s11, s12, s13, s14, s15, s16, s17, s18, s19, s20, s21, s22, s23] [(.int i6)])) _
  refine XS.ifYes X0.here hx rfl (pc0 := 485) (pc' := 503) rfl (hb hby at_485) rfl ((if0 _ _).trans (flt hc485).2.2.2) (by decide) (by decide) ?_
  exact kt
set_option maxRecDepth 65536 in
set_option maxHeartbeats 40000000 in
theorem tn0_483_ft {p : Program} {l : Launch} {e : Env} {s : State} {m : MethodId} {args : Array Value} {below : List Frame} {meth : Method} {c : Code} {T0 : State} {locs : List Loc} {Z : State} {a0 : Array Value} {h0 : Heap} (s0 : Slot) (s1 : Slot) (s2 : Slot) (s3 : Slot) (s4 : Slot) (s5 : Slot) (i6 : Int32) (i7 : Int32) (s8 : Slot) (s9 : Slot) (s10 : Slot) (s11 : Slot) (s12 : Slot) (s13 : Slot) (s14 : Slot) (s15 : Slot) (s16 : Slot) (s17 : Slot) (s18 : Slot) (i19 : Int32) (s20 : Slot) (s21 : Slot) (s22 : Slot) (s23 : Slot)
    (X0 : Stand p l e room_1 s m args below meth c T0 locs 3 19) (hx : p.tables.exec = Jvm.exec) (hZ : Z.Warmed39 s.vm) (hw : ∀ d ∈ tables_1, d.before a0 Z = true) (hby : c.code = code) (hml : c.maxLocals = 24) (hown : s.vm.findClass "com/example/umbel/umbel/query/OccurrencesFirstUnusedAfterPinLaw" = some m.cls) (e0 : T0.heap = h0) (n0 : Nat) (Z0 : n0 ≤ h0.size) (N0 : Fr n0 locs) (hc485 : (0 : Int32) < i6) (hc492 : ¬ (i19 < i7)) :
    ∃ (T' : State) (locs' : List Loc), Stand p l e room_1 s m args below meth c T' locs' 3 19 ∧ Fr n0 locs' ∧ T'.heap = h0 ∧
      ∀ target, Steps p.tables e below (T'.setTop (mkF m 503 #[s0, s1, s2, s3, s4, s5, .val (.int i6), .val (.int i7), s8, s9, s10, s11, s12, s13, s14, s15, s16, s17, s18, .val (.int i19), s20, s21, s22, s23] [])) target → Steps p.tables e below (T0.setTop (mkF m 483 #[s0, s1, s2, s3, s4, s5, .val (.int i6), .val (.int i7), s8, s9, s10, s11, s12, s13, s14, s15, s16, s17, s18, .val (.int i19), s20, s21, s22, s23] [])) target := by
  refine ⟨T0, _, X0, N0, e0, fun target kt => ?_⟩
  show Steps p.tables e below (T0.setTop (mkF m 483 #[s0, s1, s2, s3, s4, s5, .val (.int i6), .val (.int i7), s8, s9, s10, s11, s12, s13, s14, s15, s16, s17, s18, .val (.int i19), s20, s21, s22, s23] [])) _
  refine XS.iload X0.here hx rfl (hb hby at_483) rfl ?_
  show Steps p.tables e below (T0.setTop (mkF m 485 #[s0, s1, s2, s3, s4, s5, .val (.int i6), .val (.int i7), s8, s9, s10, s11, s12, s13, s14, s15, s16, s17, s18, .val (.int i19), s20, s21, s22, s23] [(.int i6)])) _
  refine XS.ifNo X0.here hx rfl (hb hby at_485) rfl ((if0 _ _).trans (tlt hc485).2.2.2) ?_
  show Steps p.tables e below (T0.setTop (mkF m 488 #[s0, s1, s2, s3, s4, s5, .val (.int i6), .val (.int i7), s8, s9, s10, s11, s12, s13, s14, s15, s16, s17, s18, .val (.int i19), s20, s21, s22, s23] [])) _
  refine XS.iload X0.here hx rfl (hb hby at_488) rfl ?_
  show Steps p.tables e below (T0.setTop (mkF m 490 #[s0, s1, s2, s3, s4, s5, .val (.int i6), .val (.int i7), s8, s9, s10, s11, s12, s13, s14, s15, s16, s17, s18, .val (.int i19), s20, s21, s22, s23] [(.int i7)])) _
  refine XS.iload X0.here hx rfl (hb hby at_490) rfl ?_
  show Steps p.tables e below (T0.setTop (mkF m 492 #[s0, s1, s2, s3, s4, s5, .val (.int i6), .val (.int i7), s8, s9, s10, s11, s12, s13, s14, s15, s16, s17, s18, .val (.int i19), s20, s21, s22, s23] [(.int i19), (.int i7)])) _
  refine XS.icmpYes X0.here hx rfl (pc0 := 492) (pc' := 503) rfl (hb hby at_492) rfl (flt hc492).2.2.2 (by decide) (by decide) ?_
  exact kt
set_option maxRecDepth 65536 in
set_option maxHeartbeats 40000000 in
theorem tn0_483_fft {p : Program} {l : Launch} {e : Env} {s : State} {m : MethodId} {args : Array Value} {below : List Frame} {meth : Method} {c : Code} {T0 : State} {locs : List Loc} {Z : State} {a0 : Array Value} {h0 : Heap} (s0 : Slot) (s1 : Slot) (s2 : Slot) (s3 : Slot) (s4 : Slot) (s5 : Slot) (i6 : Int32) (i7 : Int32) (s8 : Slot) (s9 : Slot) (s10 : Slot) (s11 : Slot) (s12 : Slot) (s13 : Slot) (s14 : Slot) (i15 : Int32) (s16 : Slot) (s17 : Slot) (s18 : Slot) (i19 : Int32) (s20 : Slot) (s21 : Slot) (s22 : Slot) (s23 : Slot)
    (X0 : Stand p l e room_1 s m args below meth c T0 locs 3 19) (hx : p.tables.exec = Jvm.exec) (hZ : Z.Warmed39 s.vm) (hw : ∀ d ∈ tables_1, d.before a0 Z = true) (hby : c.code = code) (hml : c.maxLocals = 24) (hown : s.vm.findClass "com/example/umbel/umbel/query/OccurrencesFirstUnusedAfterPinLaw" = some m.cls) (e0 : T0.heap = h0) (n0 : Nat) (Z0 : n0 ≤ h0.size) (N0 : Fr n0 locs) (hc485 : (0 : Int32) < i6) (hc492 : i19 < i7) (hc497 : ¬ (i15 = (0 : Int32))) :
    ∃ (T' : State) (locs' : List Loc), Stand p l e room_1 s m args below meth c T' locs' 3 19 ∧ Fr n0 locs' ∧ T'.heap = h0 ∧
      ∀ target, Steps p.tables e below (T'.setTop (mkF m 503 #[s0, s1, s2, s3, s4, s5, .val (.int i6), .val (.int i7), s8, s9, s10, s11, s12, s13, s14, .val (.int i15), s16, s17, s18, .val (.int i19), s20, s21, s22, s23] [])) target → Steps p.tables e below (T0.setTop (mkF m 483 #[s0, s1, s2, s3, s4, s5, .val (.int i6), .val (.int i7), s8, s9, s10, s11, s12, s13, s14, .val (.int i15), s16, s17, s18, .val (.int i19), s20, s21, s22, s23] [])) target := by
  refine ⟨T0, _, X0, N0, e0, fun target kt => ?_⟩
  show Steps p.tables e below (T0.setTop (mkF m 483 #[s0, s1, s2, s3, s4, s5, .val (.int i6), .val (.int i7), s8, s9, s10, s11, s12, s13, s14, .val (.int i15), s16, s17, s18, .val (.int i19), s20, s21, s22, s23] [])) _
  refine XS.iload X0.here hx rfl (hb hby at_483) rfl ?_
  show Steps p.tables e below (T0.setTop (mkF m 485 #[s0, s1, s2, s3, s4, s5, .val (.int i6), .val (.int i7), s8, s9, s10, s11, s12, s13, s14, .val (.int i15), s16, s17, s18, .val (.int i19), s20, s21, s22, s23] [(.int i6)])) _
  refine XS.ifNo X0.here hx rfl (hb hby at_485) rfl ((if0 _ _).trans (tlt hc485).2.2.2) ?_
  show Steps p.tables e below (T0.setTop (mkF m 488 #[s0, s1, s2, s3, s4, s5, .val (.int i6), .val (.int i7), s8, s9, s10, s11, s12, s13, s14, .val (.int i15), s16, s17, s18, .val (.int i19), s20, s21, s22, s23] [])) _
  refine XS.iload X0.here hx rfl (hb hby at_488) rfl ?_
  show Steps p.tables e below (T0.setTop (mkF m 490 #[s0, s1, s2, s3, s4, s5, .val (.int i6), .val (.int i7), s8, s9, s10, s11, s12, s13, s14, .val (.int i15), s16, s17, s18, .val (.int i19), s20, s21, s22, s23] [(.int i7)])) _
  refine XS.iload X0.here hx rfl (hb hby at_490) rfl ?_
  show Steps p.tables e below (T0.setTop (mkF m 492 #[s0, s1, s2, s3, s4, s5, .val (.int i6), .val (.int i7), s8, s9, s10, s11, s12, s13, s14, .val (.int i15), s16, s17, s18, .val (.int i19), s20, s21, s22, s23] [(.int i19), (.int i7)])) _
  refine XS.icmpNo X0.here hx rfl (hb hby at_492) rfl (tlt hc492).2.2.2 ?_
  show Steps p.tables e below (T0.setTop (mkF m 495 #[s0, s1, s2, s3, s4, s5, .val (.int i6), .val (.int i7), s8, s9, s10, s11, s12, s13, s14, .val (.int i15), s16, s17, s18, .val (.int i19), s20, s21, s22, s23] [])) _
  refine XS.iload X0.here hx rfl (hb hby at_495) rfl ?_
  show Steps p.tables e below (T0.setTop (mkF m 497 #[s0, s1, s2, s3, s4, s5, .val (.int i6), .val (.int i7), s8, s9, s10, s11, s12, s13, s14, .val (.int i15), s16, s17, s18, .val (.int i19), s20, s21, s22, s23] [(.int i15)])) _
  refine XS.ifYes X0.here hx rfl (pc0 := 497) (pc' := 503) rfl (hb hby at_497) rfl ((if0 _ _).trans (feq hc497).2) (by decide) (by decide) ?_
  exact kt
theorem os_tn0_483_fff_501 {s0 : Slot} {s1 : Slot} {s2 : Slot} {s3 : Slot} {s4 : Slot} {s5 : Slot} {z6 : Value} {z7 : Value} {s8 : Slot} {s9 : Slot} {s10 : Slot} {s11 : Slot} {s12 : Slot} {s13 : Slot} {s14 : Slot} {z15 : Value} {s16 : Slot} {s17 : Slot} {s18 : Slot} {z19 : Value} {s20 : Slot} {s21 : Slot} {s22 : Slot} {s23 : Slot} {v : Int32} (h : One s22) : storeLocals #[s0, s1, s2, s3, s4, s5, .val z6, .val z7, s8, s9, s10, s11, s12, s13, s14, .val z15, s16, s17, s18, .val z19, s20, s21, s22, s23] 22 (.int v) = some #[s0, s1, s2, s3, s4, s5, .val z6, .val z7, s8, s9, s10, s11, s12, s13, s14, .val z15, s16, s17, s18, .val z19, s20, s21, .val (.int v), s23] := by
  rcases h with rfl | ⟨w, rfl, hw⟩
  · rfl
  · cases w <;> first | rfl | (simp [Value.category] at hw)
set_option maxRecDepth 65536 in
set_option maxHeartbeats 40000000 in
theorem tn0_483_fff {p : Program} {l : Launch} {e : Env} {s : State} {m : MethodId} {args : Array Value} {below : List Frame} {meth : Method} {c : Code} {T0 : State} {locs : List Loc} {Z : State} {a0 : Array Value} {h0 : Heap} (s0 : Slot) (s1 : Slot) (s2 : Slot) (s3 : Slot) (s4 : Slot) (s5 : Slot) (i6 : Int32) (i7 : Int32) (s8 : Slot) (s9 : Slot) (s10 : Slot) (s11 : Slot) (s12 : Slot) (s13 : Slot) (s14 : Slot) (i15 : Int32) (s16 : Slot) (s17 : Slot) (s18 : Slot) (i19 : Int32) (s20 : Slot) (s21 : Slot) (s22 : Slot) (s23 : Slot)
    (X0 : Stand p l e room_1 s m args below meth c T0 locs 3 19) (hx : p.tables.exec = Jvm.exec) (hZ : Z.Warmed39 s.vm) (hw : ∀ d ∈ tables_1, d.before a0 Z = true) (hby : c.code = code) (hml : c.maxLocals = 24) (hown : s.vm.findClass "com/example/umbel/umbel/query/OccurrencesFirstUnusedAfterPinLaw" = some m.cls) (e0 : T0.heap = h0) (n0 : Nat) (Z0 : n0 ≤ h0.size) (N0 : Fr n0 locs) (hs22 : One s22) (hc485 : (0 : Int32) < i6) (hc492 : i19 < i7) (hc497 : i15 = (0 : Int32)) :
    ∃ (T' : State) (locs' : List Loc), Stand p l e room_1 s m args below meth c T' locs' 3 19 ∧ Fr n0 locs' ∧ T'.heap = h0 ∧
      ∀ target, Steps p.tables e below (T'.setTop (mkF m 503 #[s0, s1, s2, s3, s4, s5, .val (.int i6), .val (.int i7), s8, s9, s10, s11, s12, s13, s14, .val (.int i15), s16, s17, s18, .val (.int i19), s20, s21, .val (.int (0 : Int32)), s23] [])) target → Steps p.tables e below (T0.setTop (mkF m 483 #[s0, s1, s2, s3, s4, s5, .val (.int i6), .val (.int i7), s8, s9, s10, s11, s12, s13, s14, .val (.int i15), s16, s17, s18, .val (.int i19), s20, s21, s22, s23] [])) target := by
  refine ⟨T0, _, X0, N0, e0, fun target kt => ?_⟩
  show Steps p.tables e below (T0.setTop (mkF m 483 #[s0, s1, s2, s3, s4, s5, .val (.int i6), .val (.int i7), s8, s9, s10, s11, s12, s13, s14, .val (.int i15), s16, s17, s18, .val (.int i19), s20, s21, s22, s23] [])) _
  refine XS.iload X0.here hx rfl (hb hby at_483) rfl ?_
  show Steps p.tables e below (T0.setTop (mkF m 485 #[s0, s1, s2, s3, s4, s5, .val (.int i6), .val (.int i7), s8, s9, s10, s11, s12, s13, s14, .val (.int i15), s16, s17, s18, .val (.int i19), s20, s21, s22, s23] [(.int i6)])) _
  refine XS.ifNo X0.here hx rfl (hb hby at_485) rfl ((if0 _ _).trans (tlt hc485).2.2.2) ?_
  show Steps p.tables e below (T0.setTop (mkF m 488 #[s0, s1, s2, s3, s4, s5, .val (.int i6), .val (.int i7), s8, s9, s10, s11, s12, s13, s14, .val (.int i15), s16, s17, s18, .val (.int i19), s20, s21, s22, s23] [])) _
  refine XS.iload X0.here hx rfl (hb hby at_488) rfl ?_
  show Steps p.tables e below (T0.setTop (mkF m 490 #[s0, s1, s2, s3, s4, s5, .val (.int i6), .val (.int i7), s8, s9, s10, s11, s12, s13, s14, .val (.int i15), s16, s17, s18, .val (.int i19), s20, s21, s22, s23] [(.int i7)])) _
  refine XS.iload X0.here hx rfl (hb hby at_490) rfl ?_
  show Steps p.tables e below (T0.setTop (mkF m 492 #[s0, s1, s2, s3, s4, s5, .val (.int i6), .val (.int i7), s8, s9, s10, s11, s12, s13, s14, .val (.int i15), s16, s17, s18, .val (.int i19), s20, s21, s22, s23] [(.int i19), (.int i7)])) _
  refine XS.icmpNo X0.here hx rfl (hb hby at_492) rfl (tlt hc492).2.2.2 ?_
  show Steps p.tables e below (T0.setTop (mkF m 495 #[s0, s1, s2, s3, s4, s5, .val (.int i6), .val (.int i7), s8, s9, s10, s11, s12, s13, s14, .val (.int i15), s16, s17, s18, .val (.int i19), s20, s21, s22, s23] [])) _
  refine XS.iload X0.here hx rfl (hb hby at_495) rfl ?_
  show Steps p.tables e below (T0.setTop (mkF m 497 #[s0, s1, s2, s3, s4, s5, .val (.int i6), .val (.int i7), s8, s9, s10, s11, s12, s13, s14, .val (.int i15), s16, s17, s18, .val (.int i19), s20, s21, s22, s23] [(.int i15)])) _
  refine XS.ifNo X0.here hx rfl (hb hby at_497) rfl ((if0 _ _).trans (teq hc497).2) ?_
  show Steps p.tables e below (T0.setTop (mkF m 500 #[s0, s1, s2, s3, s4, s5, .val (.int i6), .val (.int i7), s8, s9, s10, s11, s12, s13, s14, .val (.int i15), s16, s17, s18, .val (.int i19), s20, s21, s22, s23] [])) _
  refine XS.iconst X0.here hx rfl (hb hby at_500) ?_
  show Steps p.tables e below (T0.setTop (mkF m 501 #[s0, s1, s2, s3, s4, s5, .val (.int i6), .val (.int i7), s8, s9, s10, s11, s12, s13, s14, .val (.int i15), s16, s17, s18, .val (.int i19), s20, s21, s22, s23] [(.int (0 : Int32))])) _
  refine XS.istore X0.here hx rfl (hb hby at_501) rfl (l' := #[s0, s1, s2, s3, s4, s5, .val (.int i6), .val (.int i7), s8, s9, s10, s11, s12, s13, s14, .val (.int i15), s16, s17, s18, .val (.int i19), s20, s21, .val (.int (0 : Int32)), s23]) (os_tn0_483_fff_501 hs22) ?_
  exact kt
theorem want0 {p : Program} {l : Launch} {e : Env} {s : State} {m : MethodId} {args : Array Value} {below : List Frame} {meth : Method} {c : Code} {Z : State} {a0 : Array Value} {h0 : Heap} {T0 : State} {locs : List Loc} (s0 : Slot) (s1 : Slot) (s2 : Slot) (s3 : Slot) (s4 : Slot) (s5 : Slot) (i6 : Int32) (i7 : Int32) (s8 : Slot) (s9 : Slot) (s10 : Slot) (s11 : Slot) (s12 : Slot) (s13 : Slot) (s14 : Slot) (i15 : Int32) (s16 : Slot) (s17 : Slot) (s18 : Slot) (i19 : Int32) (s20 : Slot) (s21 : Slot) (w : Int32) (s23 : Slot)
    (X0 : Stand p l e room_1 s m args below meth c T0 locs 3 19) (hx : p.tables.exec = Jvm.exec) (hZ : Z.Warmed39 s.vm) (hw : ∀ d ∈ tables_1, d.before a0 Z = true) (hby : c.code = code) (hml : c.maxLocals = 24) (hown : s.vm.findClass "com/example/umbel/umbel/query/OccurrencesFirstUnusedAfterPinLaw" = some m.cls) (e0 : T0.heap = h0) (n0 : Nat) (Z0 : n0 ≤ h0.size) (N0 : Fr n0 locs) (N : Nat) (hN : i6.toInt = (N : Int)) (R : Nat → Prop) (hR : R 0 ↔ (i19 < i7 ∧ i15 = 0)) (hw0 : own_res (0 + 1) N R w) :
    ∃ (T' : State) (locs' : List Loc) (w' : Int32), Stand p l e room_1 s m args below meth c T' locs' 3 19 ∧ Fr n0 locs' ∧ T'.heap = h0 ∧ own_res 0 N R w' ∧
      ∀ target, Steps p.tables e below (T'.setTop (mkF m 503 #[s0, s1, s2, s3, s4, s5, .val (.int i6), .val (.int i7), s8, s9, s10, s11, s12, s13, s14, .val (.int i15), s16, s17, s18, .val (.int i19), s20, s21, .val (.int w'), s23] [])) target → Steps p.tables e below (T0.setTop (mkF m 483 #[s0, s1, s2, s3, s4, s5, .val (.int i6), .val (.int i7), s8, s9, s10, s11, s12, s13, s14, .val (.int i15), s16, s17, s18, .val (.int i19), s20, s21, .val (.int w), s23] [])) target := by
  have ek : (0 : Int32).toInt = 0 := by decide
  by_cases q : (0 : Int32) < i6
  · have q' := q
    rw [own_lt, ek] at q'
    by_cases r : i19 < i7
    · by_cases u : i15 = (0 : Int32)
      · obtain ⟨T1, L1, X1, N1, e1, st1⟩ := tn0_483_fff s0 s1 s2 s3 s4 s5 i6 i7 s8 s9 s10 s11 s12 s13 s14 i15 s16 s17 s18 i19 s20 s21 (.val (.int w)) s23 X0 hx hZ hw hby hml hown e0 n0 Z0 N0 (One.val rfl) q r u
        exact ⟨T1, L1, (0 : Int32), X1, N1, e1, own_resyes ek (by omega) (hR.mpr ⟨r, u⟩), st1⟩
      · obtain ⟨T1, L1, X1, N1, e1, st1⟩ := tn0_483_fft s0 s1 s2 s3 s4 s5 i6 i7 s8 s9 s10 s11 s12 s13 s14 i15 s16 s17 s18 i19 s20 s21 (.val (.int w)) s23 X0 hx hZ hw hby hml hown e0 n0 Z0 N0 q r u
        exact ⟨T1, L1, w, X1, N1, e1, own_resno hw0 (fun h => u (hR.mp h.2).2), st1⟩
    · obtain ⟨T1, L1, X1, N1, e1, st1⟩ := tn0_483_ft s0 s1 s2 s3 s4 s5 i6 i7 s8 s9 s10 s11 s12 s13 s14 (.val (.int i15)) s16 s17 s18 i19 s20 s21 (.val (.int w)) s23 X0 hx hZ hw hby hml hown e0 n0 Z0 N0 q r
      exact ⟨T1, L1, w, X1, N1, e1, own_resno hw0 (fun h => r (hR.mp h.2).1), st1⟩
  · have q' := q
    rw [own_lt, ek] at q'
    obtain ⟨T1, L1, X1, N1, e1, st1⟩ := tn0_483_t s0 s1 s2 s3 s4 s5 i6 (.val (.int i7)) s8 s9 s10 s11 s12 s13 s14 (.val (.int i15)) s16 s17 s18 (.val (.int i19)) s20 s21 (.val (.int w)) s23 X0 hx hZ hw hby hml hown e0 n0 Z0 N0 q
    exact ⟨T1, L1, w, X1, N1, e1, own_resno hw0 (fun h => absurd h.1 (by omega)), st1⟩
set_option maxRecDepth 65536 in
set_option maxHeartbeats 40000000 in
theorem tn0_503 {p : Program} {l : Launch} {e : Env} {s : State} {m : MethodId} {args : Array Value} {below : List Frame} {meth : Method} {c : Code} {T0 : State} {locs : List Loc} {Z : State} {a0 : Array Value} {h0 : Heap} (s0 : Slot) (s1 : Slot) (s2 : Slot) (s3 : Slot) (s4 : Slot) (s5 : Slot) (s6 : Slot) (s7 : Slot) (s8 : Slot) (s9 : Slot) (s10 : Slot) (s11 : Slot) (s12 : Slot) (s13 : Slot) (s14 : Slot) (s15 : Slot) (s16 : Slot) (s17 : Slot) (s18 : Slot) (s19 : Slot) (s20 : Slot) (i21 : Int32) (i22 : Int32) (s23 : Slot)
    (X0 : Stand p l e room_1 s m args below meth c T0 locs 3 19) (hx : p.tables.exec = Jvm.exec) (hZ : Z.Warmed39 s.vm) (hw : ∀ d ∈ tables_1, d.before a0 Z = true) (hby : c.code = code) (hml : c.maxLocals = 24) (hown : s.vm.findClass "com/example/umbel/umbel/query/OccurrencesFirstUnusedAfterPinLaw" = some m.cls) (e0 : T0.heap = h0) (n0 : Nat) (Z0 : n0 ≤ h0.size) (N0 : Fr n0 locs) (hc507 : i21 = i22) :
    ∃ (T' : State) (locs' : List Loc), Stand p l e room_1 s m args below meth c T' locs' 3 19 ∧ Fr n0 locs' ∧ T'.heap = h0 ∧
      ∀ target, Steps p.tables e below (T'.setTop (mkF m 515 #[s0, s1, s2, s3, s4, s5, s6, s7, s8, s9, s10, s11, s12, s13, s14, s15, s16, s17, s18, s19, s20, .val (.int i21), .val (.int i22), s23] [(.int (1 : Int32))])) target → Steps p.tables e below (T0.setTop (mkF m 503 #[s0, s1, s2, s3, s4, s5, s6, s7, s8, s9, s10, s11, s12, s13, s14, s15, s16, s17, s18, s19, s20, .val (.int i21), .val (.int i22), s23] [])) target := by
  refine ⟨T0, _, X0, N0, e0, fun target kt => ?_⟩
  show Steps p.tables e below (T0.setTop (mkF m 503 #[s0, s1, s2, s3, s4, s5, s6, s7, s8, s9, s10, s11, s12, s13, s14, s15, s16, s17, s18, s19, s20, .val (.int i21), .val (.int i22), s23] [])) _
  refine XS.iload X0.here hx rfl (hb hby at_503) rfl ?_
  show Steps p.tables e below (T0.setTop (mkF m 505 #[s0, s1, s2, s3, s4, s5, s6, s7, s8, s9, s10, s11, s12, s13, s14, s15, s16, s17, s18, s19, s20, .val (.int i21), .val (.int i22), s23] [(.int i21)])) _
  refine XS.iload X0.here hx rfl (hb hby at_505) rfl ?_
  show Steps p.tables e below (T0.setTop (mkF m 507 #[s0, s1, s2, s3, s4, s5, s6, s7, s8, s9, s10, s11, s12, s13, s14, s15, s16, s17, s18, s19, s20, .val (.int i21), .val (.int i22), s23] [(.int i22), (.int i21)])) _
  refine XS.icmpNo X0.here hx rfl (hb hby at_507) rfl (teq hc507).2 ?_
  show Steps p.tables e below (T0.setTop (mkF m 510 #[s0, s1, s2, s3, s4, s5, s6, s7, s8, s9, s10, s11, s12, s13, s14, s15, s16, s17, s18, s19, s20, .val (.int i21), .val (.int i22), s23] [])) _
  refine XS.iconst X0.here hx rfl (hb hby at_510) ?_
  show Steps p.tables e below (T0.setTop (mkF m 511 #[s0, s1, s2, s3, s4, s5, s6, s7, s8, s9, s10, s11, s12, s13, s14, s15, s16, s17, s18, s19, s20, .val (.int i21), .val (.int i22), s23] [(.int (1 : Int32))])) _
  refine XS.goto X0.here hx rfl (pc0 := 511) (pc' := 515) rfl (hb hby at_511) (by decide) (by decide) ?_
  exact kt
set_option maxRecDepth 65536 in
set_option maxHeartbeats 40000000 in
theorem join1 {p : Program} {l : Launch} {e : Env} {s : State} {m : MethodId} {args : Array Value} {below : List Frame} {meth : Method} {c : Code} {Z : State} {a0 : Array Value} {h0 : Heap} {T0 : State} {locs : List Loc} (p1 : Int32) (q2 : Int64) (p3 p4 p5 : Int32) (X0 : Stand p l e room_1 s m args below meth c T0 locs 0 0) (hx : p.tables.exec = Jvm.exec) (hZ : Z.Warmed39 s.vm) (hw : ∀ d ∈ tables_1, d.before a0 Z = true) (hby : c.code = code) (hml : c.maxLocals = 24) (hown : s.vm.findClass "com/example/umbel/umbel/query/OccurrencesFirstUnusedAfterPinLaw" = some m.cls) (e0 : T0.heap = h0) (n0 : Nat) (Z0 : n0 ≤ h0.size) (N0 : Fr n0 locs) :
    ∃ (T' : State) (locs' : List Loc) (n b0 b1 b2 b3 o0 o1 o2 o3 u0 u1 u2 u3 : Int32), Stand p l e room_1 s m args below meth c T' locs' 0 0 ∧ Fr n0 locs' ∧ T'.heap = h0 ∧ (∃ N : Nat, N ≤ 4 ∧ n.toInt = (N : Int)) ∧ (1 ≤ b0.toInt ∧ b0.toInt ≤ b1.toInt ∧ b1.toInt ≤ b2.toInt ∧ b2.toInt ≤ b3.toInt) ∧ (0 ≤ o0.toInt ∧ 0 ≤ o1.toInt ∧ 0 ≤ o2.toInt ∧ 0 ≤ o3.toInt) ∧
      ∀ target, Steps p.tables e below (T'.setTop (mkF m 157 #[.val (.int p1), .val (.long q2), .second, .val (.int p3), .val (.int p4), .val (.int p5), .val (.int n), .val (.int b0), .val (.int b1), .val (.int b2), .val (.int b3), .val (.int o0), .val (.int o1), .val (.int o2), .val (.int o3), .val (.int u0), .val (.int u1), .val (.int u2), .val (.int u3), .unset, .unset, .unset, .unset, .unset] [])) target → Steps p.tables e below (T0.setTop (mkF m 0 #[.val (.int p1), .val (.long q2), .second, .val (.int p3), .val (.int p4), .val (.int p5), .unset, .unset, .unset, .unset, .unset, .unset, .unset, .unset, .unset, .unset, .unset, .unset, .unset, .unset, .unset, .unset, .unset, .unset] [])) target := by
  obtain ⟨T1, L1, X1, N1, e1, st1⟩ := tn0_0 p1 (.val (.long q2)) .second (.val (.int p3)) (.val (.int p4)) p5 .unset .unset .unset .unset .unset .unset .unset .unset .unset .unset .unset .unset .unset .unset .unset .unset .unset .unset X0 hx hZ hw hby hml hown e0 n0 Z0 N0 One.u One.u (by decide)
  obtain ⟨T2, L2, b1, X2, N2, e2, h1, st2⟩ := tn0_19 (.val (.int p1)) q2 (.val (.int p3)) (.val (.int p4)) (.val (.int p5)) (.val (.int ((p5 &&& (7 : Int32)) % (5 : Int32)))) (own_max (1 : Int32) (p1 &&& (2147483647 : Int32))) .unset .unset .unset .unset .unset .unset .unset .unset .unset .unset .unset .unset .unset .unset .unset .unset X1 hx hZ hw hby hml hown e1 n0 Z0 N1 One.u
  obtain ⟨T3, L3, b2, X3, N3, e3, h2, st3⟩ := tn0_28 (.val (.int p1)) q2 (.val (.int p3)) (.val (.int p4)) (.val (.int p5)) (.val (.int ((p5 &&& (7 : Int32)) % (5 : Int32)))) (.val (.int (own_max (1 : Int32) (p1 &&& (2147483647 : Int32))))) b1 .unset .unset .unset .unset .unset .unset .unset .unset .unset .unset .unset .unset .unset .unset .unset X2 hx hZ hw hby hml hown e2 n0 Z0 N2 One.u
  obtain ⟨T4, L4, b3, X4, N4, e4, h3, st4⟩ := tn0_37 (.val (.int p1)) q2 (.val (.int p3)) (.val (.int p4)) (.val (.int p5)) (.val (.int ((p5 &&& (7 : Int32)) % (5 : Int32)))) (.val (.int (own_max (1 : Int32) (p1 &&& (2147483647 : Int32))))) (.val (.int b1)) b2 .unset .unset .unset .unset .unset .unset .unset .unset .unset .unset .unset .unset .unset .unset X3 hx hZ hw hby hml hown e3 n0 Z0 N3 One.u
  obtain ⟨T5, L5, X5, N5, e5, st5⟩ := tn0_46 (.val (.int p1)) (.val (.long q2)) .second p3 (.val (.int p4)) (.val (.int p5)) (.val (.int ((p5 &&& (7 : Int32)) % (5 : Int32)))) (.val (.int (own_max (1 : Int32) (p1 &&& (2147483647 : Int32))))) (.val (.int b1)) (.val (.int b2)) (.val (.int b3)) .unset .unset .unset .unset .unset .unset .unset .unset .unset .unset .unset .unset .unset X4 hx hZ hw hby hml hown e4 n0 Z0 N4 One.u One.u One.u One.u
  obtain ⟨T6, L6, u0, X6, N6, e6, st6⟩ := tn0_92 (.val (.int p1)) (.val (.long q2)) .second (.val (.int p3)) (.val (.int p4)) p5 (.val (.int ((p5 &&& (7 : Int32)) % (5 : Int32)))) (.val (.int (own_max (1 : Int32) (p1 &&& (2147483647 : Int32))))) (.val (.int b1)) (.val (.int b2)) (.val (.int b3)) (.val (.int (p3 &&& (255 : Int32)))) (.val (.int ((p3 &&& (255 : Int32)) + (((p3.toUInt32 >>> ((8 : Int32) &&& 31).toUInt32).toInt32) &&& (255 : Int32))))) (.val (.int (((p3 &&& (255 : Int32)) + (((p3.toUInt32 >>> ((8 : Int32) &&& 31).toUInt32).toInt32) &&& (255 : Int32))) + (((p3.toUInt32 >>> ((16 : Int32) &&& 31).toUInt32).toInt32) &&& (255 : Int32))))) (.val (.int ((((p3 &&& (255 : Int32)) + (((p3.toUInt32 >>> ((8 : Int32) &&& 31).toUInt32).toInt32) &&& (255 : Int32))) + (((p3.toUInt32 >>> ((16 : Int32) &&& 31).toUInt32).toInt32) &&& (255 : Int32))) + (((p3.toUInt32 >>> ((24 : Int32) &&& 31).toUInt32).toInt32) &&& (255 : Int32))))) .unset .unset .unset .unset .unset .unset .unset .unset .unset X5 hx hZ hw hby hml hown e5 n0 Z0 N5 One.u
  obtain ⟨T7, L7, u1, X7, N7, e7, st7⟩ := tn0_108 (.val (.int p1)) (.val (.long q2)) .second (.val (.int p3)) (.val (.int p4)) p5 (.val (.int ((p5 &&& (7 : Int32)) % (5 : Int32)))) (.val (.int (own_max (1 : Int32) (p1 &&& (2147483647 : Int32))))) (.val (.int b1)) (.val (.int b2)) (.val (.int b3)) (.val (.int (p3 &&& (255 : Int32)))) (.val (.int ((p3 &&& (255 : Int32)) + (((p3.toUInt32 >>> ((8 : Int32) &&& 31).toUInt32).toInt32) &&& (255 : Int32))))) (.val (.int (((p3 &&& (255 : Int32)) + (((p3.toUInt32 >>> ((8 : Int32) &&& 31).toUInt32).toInt32) &&& (255 : Int32))) + (((p3.toUInt32 >>> ((16 : Int32) &&& 31).toUInt32).toInt32) &&& (255 : Int32))))) (.val (.int ((((p3 &&& (255 : Int32)) + (((p3.toUInt32 >>> ((8 : Int32) &&& 31).toUInt32).toInt32) &&& (255 : Int32))) + (((p3.toUInt32 >>> ((16 : Int32) &&& 31).toUInt32).toInt32) &&& (255 : Int32))) + (((p3.toUInt32 >>> ((24 : Int32) &&& 31).toUInt32).toInt32) &&& (255 : Int32))))) (.val (.int u0)) .unset .unset .unset .unset .unset .unset .unset .unset X6 hx hZ hw hby hml hown e6 n0 Z0 N6 One.u
  obtain ⟨T8, L8, u2, X8, N8, e8, st8⟩ := tn0_124 (.val (.int p1)) (.val (.long q2)) .second (.val (.int p3)) (.val (.int p4)) p5 (.val (.int ((p5 &&& (7 : Int32)) % (5 : Int32)))) (.val (.int (own_max (1 : Int32) (p1 &&& (2147483647 : Int32))))) (.val (.int b1)) (.val (.int b2)) (.val (.int b3)) (.val (.int (p3 &&& (255 : Int32)))) (.val (.int ((p3 &&& (255 : Int32)) + (((p3.toUInt32 >>> ((8 : Int32) &&& 31).toUInt32).toInt32) &&& (255 : Int32))))) (.val (.int (((p3 &&& (255 : Int32)) + (((p3.toUInt32 >>> ((8 : Int32) &&& 31).toUInt32).toInt32) &&& (255 : Int32))) + (((p3.toUInt32 >>> ((16 : Int32) &&& 31).toUInt32).toInt32) &&& (255 : Int32))))) (.val (.int ((((p3 &&& (255 : Int32)) + (((p3.toUInt32 >>> ((8 : Int32) &&& 31).toUInt32).toInt32) &&& (255 : Int32))) + (((p3.toUInt32 >>> ((16 : Int32) &&& 31).toUInt32).toInt32) &&& (255 : Int32))) + (((p3.toUInt32 >>> ((24 : Int32) &&& 31).toUInt32).toInt32) &&& (255 : Int32))))) (.val (.int u0)) (.val (.int u1)) .unset .unset .unset .unset .unset .unset .unset X7 hx hZ hw hby hml hown e7 n0 Z0 N7 One.u
  obtain ⟨T9, L9, u3, X9, N9, e9, st9⟩ := tn0_140 (.val (.int p1)) (.val (.long q2)) .second (.val (.int p3)) (.val (.int p4)) p5 (.val (.int ((p5 &&& (7 : Int32)) % (5 : Int32)))) (.val (.int (own_max (1 : Int32) (p1 &&& (2147483647 : Int32))))) (.val (.int b1)) (.val (.int b2)) (.val (.int b3)) (.val (.int (p3 &&& (255 : Int32)))) (.val (.int ((p3 &&& (255 : Int32)) + (((p3.toUInt32 >>> ((8 : Int32) &&& 31).toUInt32).toInt32) &&& (255 : Int32))))) (.val (.int (((p3 &&& (255 : Int32)) + (((p3.toUInt32 >>> ((8 : Int32) &&& 31).toUInt32).toInt32) &&& (255 : Int32))) + (((p3.toUInt32 >>> ((16 : Int32) &&& 31).toUInt32).toInt32) &&& (255 : Int32))))) (.val (.int ((((p3 &&& (255 : Int32)) + (((p3.toUInt32 >>> ((8 : Int32) &&& 31).toUInt32).toInt32) &&& (255 : Int32))) + (((p3.toUInt32 >>> ((16 : Int32) &&& 31).toUInt32).toInt32) &&& (255 : Int32))) + (((p3.toUInt32 >>> ((24 : Int32) &&& 31).toUInt32).toInt32) &&& (255 : Int32))))) (.val (.int u0)) (.val (.int u1)) (.val (.int u2)) .unset .unset .unset .unset .unset .unset X8 hx hZ hw hby hml hown e8 n0 Z0 N8 One.u
  have y0 := own_byte p3
  have y1 := own_sum (p3 &&& (255 : Int32)) ((p3.toUInt32 >>> ((8 : Int32) &&& 31).toUInt32).toInt32) y0.1 (by omega)
  have y2 := own_sum ((p3 &&& (255 : Int32)) + (((p3.toUInt32 >>> ((8 : Int32) &&& 31).toUInt32).toInt32) &&& (255 : Int32))) ((p3.toUInt32 >>> ((16 : Int32) &&& 31).toUInt32).toInt32) y1.1 (by omega)
  have y3 := own_sum (((p3 &&& (255 : Int32)) + (((p3.toUInt32 >>> ((8 : Int32) &&& 31).toUInt32).toInt32) &&& (255 : Int32))) + (((p3.toUInt32 >>> ((16 : Int32) &&& 31).toUInt32).toInt32) &&& (255 : Int32))) ((p3.toUInt32 >>> ((24 : Int32) &&& 31).toUInt32).toInt32) y2.1 (by omega)
  exact ⟨T9, L9, _, _, b1, b2, b3, _, _, _, _, u0, u1, u2, u3, X9, N9, e9, own_n p5, ⟨own_b0 p1, h1, h2, h3⟩, ⟨y0.1, y1.1, y2.1, y3.1⟩, fun target h => (st1 _ (st2 _ (st3 _ (st4 _ (st5 _ (st6 _ (st7 _ (st8 _ (st9 _ h)))))))))⟩
set_option maxRecDepth 65536 in
set_option maxHeartbeats 40000000 in
theorem join2 {p : Program} {l : Launch} {e : Env} {s : State} {m : MethodId} {args : Array Value} {below : List Frame} {meth : Method} {c : Code} {Z : State} {a0 : Array Value} {h0 : Heap} {T0 : State} {locs : List Loc} (p1 : Int32) (q2 : Int64) (p3 p4 p5 n b0 b1 b2 b3 o0 o1 o2 o3 u0 u1 u2 u3 : Int32) (X0 : Stand p l e room_1 s m args below meth c T0 locs 0 0) (hx : p.tables.exec = Jvm.exec) (hZ : Z.Warmed39 s.vm) (hw : ∀ d ∈ tables_1, d.before a0 Z = true) (hby : c.code = code) (hml : c.maxLocals = 24) (hown : s.vm.findClass "com/example/umbel/umbel/query/OccurrencesFirstUnusedAfterPinLaw" = some m.cls) (e0 : T0.heap = h0) (n0 : Nat) (Z0 : n0 ≤ h0.size) (N0 : Fr n0 locs) :
    ∃ (T' : State) (locs' : List Loc) (pos : Int32) (s20 s21 s22 s23 : Slot), Stand p l e room_1 s m args below meth c T' locs' 0 0 ∧ Fr n0 locs' ∧ T'.heap = h0 ∧ 0 ≤ pos.toInt ∧ pos.toInt ≤ 2147483646 ∧ One s20 ∧ One s21 ∧ own_Two s22 s23 ∧
      ∀ target, Steps p.tables e below (T'.setTop (mkF m 253 #[.val (.int p1), .val (.long q2), .second, .val (.int p3), .val (.int p4), .val (.int p5), .val (.int n), .val (.int b0), .val (.int b1), .val (.int b2), .val (.int b3), .val (.int o0), .val (.int o1), .val (.int o2), .val (.int o3), .val (.int u0), .val (.int u1), .val (.int u2), .val (.int u3), .val (.int pos), s20, s21, s22, s23] [])) target → Steps p.tables e below (T0.setTop (mkF m 157 #[.val (.int p1), .val (.long q2), .second, .val (.int p3), .val (.int p4), .val (.int p5), .val (.int n), .val (.int b0), .val (.int b1), .val (.int b2), .val (.int b3), .val (.int o0), .val (.int o1), .val (.int o2), .val (.int o3), .val (.int u0), .val (.int u1), .val (.int u2), .val (.int u3), .unset, .unset, .unset, .unset, .unset] [])) target := by
  by_cases q : (p4 &&& (1 : Int32)) = (0 : Int32)
  · obtain ⟨T1, L1, X1, N1, e1, st1⟩ := tn0_157_f (.val (.int p1)) (.val (.long q2)) .second (.val (.int p3)) p4 (.val (.int p5)) (.val (.int n)) (.val (.int b0)) (.val (.int b1)) (.val (.int b2)) (.val (.int b3)) (.val (.int o0)) (.val (.int o1)) (.val (.int o2)) (.val (.int o3)) (.val (.int u0)) (.val (.int u1)) (.val (.int u2)) (.val (.int u3)) .unset .unset .unset .unset .unset X0 hx hZ hw hby hml hown e0 n0 Z0 N0 One.u q
    have h := own_posM p4
    exact ⟨T1, L1, _, .unset, .unset, .unset, .unset, X1, N1, e1, h.1, h.2, One.u, One.u, Or.inl ⟨rfl, rfl⟩, st1⟩
  · obtain ⟨T1, L1, k, bk, X1, N1, e1, st1⟩ : ∃ (T' : State) (locs' : List Loc) (k bk : Int32), Stand p l e room_1 s m args below meth c T' locs' 0 0 ∧ Fr n0 locs' ∧ T'.heap = h0 ∧
      ∀ target, Steps p.tables e below (T'.setTop (mkF m 222 #[.val (.int p1), .val (.long q2), .second, .val (.int p3), .val (.int p4), .val (.int p5), .val (.int n), .val (.int b0), .val (.int b1), .val (.int b2), .val (.int b3), .val (.int o0), .val (.int o1), .val (.int o2), .val (.int o3), .val (.int u0), .val (.int u1), .val (.int u2), .val (.int u3), .unset, .val (.int k), .val (.int bk), .unset, .unset] [])) target → Steps p.tables e below (T0.setTop (mkF m 157 #[.val (.int p1), .val (.long q2), .second, .val (.int p3), .val (.int p4), .val (.int p5), .val (.int n), .val (.int b0), .val (.int b1), .val (.int b2), .val (.int b3), .val (.int o0), .val (.int o1), .val (.int o2), .val (.int o3), .val (.int u0), .val (.int u1), .val (.int u2), .val (.int u3), .unset, .unset, .unset, .unset, .unset] [])) target := by
      by_cases k0 : (((p4.toUInt32 >>> ((1 : Int32) &&& 31).toUInt32).toInt32) &&& (3 : Int32)) = (0 : Int32)
      · obtain ⟨T1, L1, X1, N1, e1, st1⟩ := tn0_157_tf (.val (.int p1)) (.val (.long q2)) .second (.val (.int p3)) p4 (.val (.int p5)) (.val (.int n)) b0 (.val (.int b1)) (.val (.int b2)) (.val (.int b3)) (.val (.int o0)) (.val (.int o1)) (.val (.int o2)) (.val (.int o3)) (.val (.int u0)) (.val (.int u1)) (.val (.int u2)) (.val (.int u3)) .unset .unset .unset .unset .unset X0 hx hZ hw hby hml hown e0 n0 Z0 N0 One.u One.u q k0
        exact ⟨T1, L1, _, _, X1, N1, e1, st1⟩
      · by_cases k1 : (((p4.toUInt32 >>> ((1 : Int32) &&& 31).toUInt32).toInt32) &&& (3 : Int32)) = (1 : Int32)
        · obtain ⟨T1, L1, X1, N1, e1, st1⟩ := tn0_157_ttf (.val (.int p1)) (.val (.long q2)) .second (.val (.int p3)) p4 (.val (.int p5)) (.val (.int n)) (.val (.int b0)) b1 (.val (.int b2)) (.val (.int b3)) (.val (.int o0)) (.val (.int o1)) (.val (.int o2)) (.val (.int o3)) (.val (.int u0)) (.val (.int u1)) (.val (.int u2)) (.val (.int u3)) .unset .unset .unset .unset .unset X0 hx hZ hw hby hml hown e0 n0 Z0 N0 One.u One.u q k0 k1
          exact ⟨T1, L1, _, _, X1, N1, e1, st1⟩
        · by_cases k2 : (((p4.toUInt32 >>> ((1 : Int32) &&& 31).toUInt32).toInt32) &&& (3 : Int32)) = (2 : Int32)
          · obtain ⟨T1, L1, X1, N1, e1, st1⟩ := tn0_157_tttf (.val (.int p1)) (.val (.long q2)) .second (.val (.int p3)) p4 (.val (.int p5)) (.val (.int n)) (.val (.int b0)) (.val (.int b1)) b2 (.val (.int b3)) (.val (.int o0)) (.val (.int o1)) (.val (.int o2)) (.val (.int o3)) (.val (.int u0)) (.val (.int u1)) (.val (.int u2)) (.val (.int u3)) .unset .unset .unset .unset .unset X0 hx hZ hw hby hml hown e0 n0 Z0 N0 One.u One.u q k0 k1 k2
            exact ⟨T1, L1, _, _, X1, N1, e1, st1⟩
          · obtain ⟨T1, L1, X1, N1, e1, st1⟩ := tn0_157_tttt (.val (.int p1)) (.val (.long q2)) .second (.val (.int p3)) p4 (.val (.int p5)) (.val (.int n)) (.val (.int b0)) (.val (.int b1)) (.val (.int b2)) b3 (.val (.int o0)) (.val (.int o1)) (.val (.int o2)) (.val (.int o3)) (.val (.int u0)) (.val (.int u1)) (.val (.int u2)) (.val (.int u3)) .unset .unset .unset .unset .unset X0 hx hZ hw hby hml hown e0 n0 Z0 N0 One.u One.u q k0 k1 k2
            exact ⟨T1, L1, _, _, X1, N1, e1, st1⟩
    obtain ⟨T2, L2, X2, N2, e2, st2⟩ := tn0_222 (.val (.int p1)) (.val (.long q2)) .second (.val (.int p3)) p4 (.val (.int p5)) (.val (.int n)) (.val (.int b0)) (.val (.int b1)) (.val (.int b2)) (.val (.int b3)) (.val (.int o0)) (.val (.int o1)) (.val (.int o2)) (.val (.int o3)) (.val (.int u0)) (.val (.int u1)) (.val (.int u2)) (.val (.int u3)) .unset (.val (.int k)) bk X1 hx hZ hw hby hml hown e1 n0 Z0 N1 One.u
    have h := own_posI ((bk.toInt64) + (((((p4.toUInt32 >>> ((3 : Int32) &&& 31).toUInt32).toInt32) &&& (7 : Int32)) - (4 : Int32)).toInt64))
    exact ⟨T2, L2, _, _, _, _, _, X2, N2, e2, h.1, h.2, One.val rfl, One.val rfl, Or.inr ⟨_, rfl, rfl⟩, fun target h => st1 _ (st2 _ h)⟩
set_option maxRecDepth 65536 in
set_option maxHeartbeats 40000000 in
theorem join3 {p : Program} {l : Launch} {e : Env} {s : State} {m : MethodId} {args : Array Value} {below : List Frame} {meth : Method} {c : Code} {Z : State} {a0 : Array Value} {h0 : Heap} {T0 : State} {locs : List Loc} (p1 : Int32) (q2 : Int64) (p3 p4 p5 n b0 b1 b2 b3 o0 o1 o2 o3 u0 u1 u2 u3 pos : Int32) (s20 s21 s22 s23 : Slot) (X0 : Stand p l e room_1 s m args below meth c T0 locs 0 0) (hx : p.tables.exec = Jvm.exec) (hZ : Z.Warmed39 s.vm) (hw : ∀ d ∈ tables_1, d.before a0 Z = true) (hby : c.code = code) (hml : c.maxLocals = 24) (hown : s.vm.findClass "com/example/umbel/umbel/query/OccurrencesFirstUnusedAfterPinLaw" = some m.cls) (e0 : T0.heap = h0) (n0 : Nat) (Z0 : n0 ≤ h0.size) (N0 : Fr n0 locs) (h20 : One s20) (N : Nat) (hN4 : N ≤ 4) (hN : n.toInt = (N : Int)) (hb0 : 0 ≤ b0.toInt) (hb1 : 0 ≤ b1.toInt) (hb2 : 0 ≤ b2.toInt) (hb3 : 0 ≤ b3.toInt) (ho0 : 0 ≤ o0.toInt) (ho1 : 0 ≤ o1.toInt) (ho2 : 0 ≤ o2.toInt) (ho3 : 0 ≤ o3.toInt) :
    ∃ (T' : State) (h' : Heap) (locs' : List Loc) (b ea ua : Addr) (sz : Int32) (E : Nat → Int64) (U : Nat → Int32), Stand p l e room_1 s m args below meth c T' locs' 3 19 ∧ Fr n0 locs' ∧ T'.heap = h' ∧ own_O Z h' n0 b ea ua sz E U ∧ sz.toInt = (N : Int) ∧ (∀ j, j < N → ∃ r : Int32, 0 ≤ r.toInt ∧ E j = own_ext (own_sel b0 b1 b2 b3 j) r) ∧ (∀ j, j < N → (U j = 0 ↔ own_sel u0 u1 u2 u3 j = 0)) ∧
      ∀ target, Steps p.tables e below (T'.setTop (mkF m 408 #[.val (.int p1), .val (.long q2), .second, .val (.int p3), .val (.int p4), .val (.int p5), .val (.int n), .val (.int b0), .val (.int b1), .val (.int b2), .val (.int b3), .val (.int o0), .val (.int o1), .val (.int o2), .val (.int o3), .val (.int u0), .val (.int u1), .val (.int u2), .val (.int u3), .val (.int pos), .val (.ref b), s21, s22, s23] [])) target → Steps p.tables e below (T0.setTop (mkF m 253 #[.val (.int p1), .val (.long q2), .second, .val (.int p3), .val (.int p4), .val (.int p5), .val (.int n), .val (.int b0), .val (.int b1), .val (.int b2), .val (.int b3), .val (.int o0), .val (.int o1), .val (.int o2), .val (.int o3), .val (.int u0), .val (.int u1), .val (.int u2), .val (.int u3), .val (.int pos), s20, s21, s22, s23] [])) target := by
  obtain ⟨T1, g1, L1, b, ea, ua, X1, N1, e1, O1, st1⟩ := tn0_253 (.val (.int p1)) (.val (.long q2)) .second (.val (.int p3)) (.val (.int p4)) (.val (.int p5)) (.val (.int n)) (.val (.int b0)) (.val (.int b1)) (.val (.int b2)) (.val (.int b3)) (.val (.int o0)) (.val (.int o1)) (.val (.int o2)) (.val (.int o3)) (.val (.int u0)) (.val (.int u1)) (.val (.int u2)) (.val (.int u3)) (.val (.int pos)) s20 s21 s22 s23 X0 hx hZ hw hby hml hown e0 n0 Z0 N0 h20
  have Z2 : n0 ≤ g1.size := O1.2.2.2.2.2.2.2.2
  obtain ⟨T2, g2, L2, sz2, E2, X2, N2, e2, O2, hs2, ha2, hc2, st2⟩ := add0 (.val (.int p1)) (.val (.long q2)) .second (.val (.int p3)) (.val (.int p4)) (.val (.int p5)) n b0 (.val (.int b1)) (.val (.int b2)) (.val (.int b3)) o0 (.val (.int o1)) (.val (.int o2)) (.val (.int o3)) (.val (.int u0)) (.val (.int u1)) (.val (.int u2)) (.val (.int u3)) (.val (.int pos)) b s21 s22 s23 X1 hx hZ hw hby hml hown e1 n0 Z2 N1 ea ua _ _ _ O1 N hN (by rw [own_i0]; omega) hb0 ho0
  have Z3 : n0 ≤ g2.size := O2.2.2.2.2.2.2.2.2
  obtain ⟨T3, g3, L3, sz3, E3, X3, N3, e3, O3, hs3, ha3, hc3, st3⟩ := add1 (.val (.int p1)) (.val (.long q2)) .second (.val (.int p3)) (.val (.int p4)) (.val (.int p5)) n (.val (.int b0)) b1 (.val (.int b2)) (.val (.int b3)) (.val (.int o0)) o1 (.val (.int o2)) (.val (.int o3)) (.val (.int u0)) (.val (.int u1)) (.val (.int u2)) (.val (.int u3)) (.val (.int pos)) b s21 s22 s23 X2 hx hZ hw hby hml hown e2 n0 Z3 N2 ea ua _ _ _ O2 N hN (hs2) hb1 ho1
  have Z4 : n0 ≤ g3.size := O3.2.2.2.2.2.2.2.2
  obtain ⟨T4, g4, L4, sz4, E4, X4, N4, e4, O4, hs4, ha4, hc4, st4⟩ := add2 (.val (.int p1)) (.val (.long q2)) .second (.val (.int p3)) (.val (.int p4)) (.val (.int p5)) n (.val (.int b0)) (.val (.int b1)) b2 (.val (.int b3)) (.val (.int o0)) (.val (.int o1)) o2 (.val (.int o3)) (.val (.int u0)) (.val (.int u1)) (.val (.int u2)) (.val (.int u3)) (.val (.int pos)) b s21 s22 s23 X3 hx hZ hw hby hml hown e3 n0 Z4 N3 ea ua _ _ _ O3 N hN (hs3) hb2 ho2
  have Z5 : n0 ≤ g4.size := O4.2.2.2.2.2.2.2.2
  obtain ⟨T5, g5, L5, sz5, E5, X5, N5, e5, O5, hs5, ha5, hc5, st5⟩ := add3 (.val (.int p1)) (.val (.long q2)) .second (.val (.int p3)) (.val (.int p4)) (.val (.int p5)) n (.val (.int b0)) (.val (.int b1)) (.val (.int b2)) b3 (.val (.int o0)) (.val (.int o1)) (.val (.int o2)) o3 (.val (.int u0)) (.val (.int u1)) (.val (.int u2)) (.val (.int u3)) (.val (.int pos)) b s21 s22 s23 X4 hx hZ hw hby hml hown e4 n0 Z5 N4 ea ua _ _ _ O4 N hN (hs4) hb3 ho3
  have Z6 : n0 ≤ g5.size := O5.2.2.2.2.2.2.2.2
  obtain ⟨T6, g6, L6, U6, X6, N6, e6, O6, hu6, hv6, st6⟩ := mark0 (.val (.int p1)) (.val (.long q2)) .second (.val (.int p3)) (.val (.int p4)) (.val (.int p5)) n (.val (.int b0)) (.val (.int b1)) (.val (.int b2)) (.val (.int b3)) (.val (.int o0)) (.val (.int o1)) (.val (.int o2)) (.val (.int o3)) u0 (.val (.int u1)) (.val (.int u2)) (.val (.int u3)) (.val (.int pos)) b s21 s22 s23 X5 hx hZ hw hby hml hown e5 n0 Z6 N5 ea ua _ _ _ O5 N hN (rfl)
  have Z7 : n0 ≤ g6.size := O6.2.2.2.2.2.2.2.2
  obtain ⟨T7, g7, L7, U7, X7, N7, e7, O7, hu7, hv7, st7⟩ := mark1 (.val (.int p1)) (.val (.long q2)) .second (.val (.int p3)) (.val (.int p4)) (.val (.int p5)) n (.val (.int b0)) (.val (.int b1)) (.val (.int b2)) (.val (.int b3)) (.val (.int o0)) (.val (.int o1)) (.val (.int o2)) (.val (.int o3)) (.val (.int u0)) u1 (.val (.int u2)) (.val (.int u3)) (.val (.int pos)) b s21 s22 s23 X6 hx hZ hw hby hml hown e6 n0 Z7 N6 ea ua _ _ _ O6 N hN (by rw [hu6 1 (by decide)])
  have Z8 : n0 ≤ g7.size := O7.2.2.2.2.2.2.2.2
  obtain ⟨T8, g8, L8, U8, X8, N8, e8, O8, hu8, hv8, st8⟩ := mark2 (.val (.int p1)) (.val (.long q2)) .second (.val (.int p3)) (.val (.int p4)) (.val (.int p5)) n (.val (.int b0)) (.val (.int b1)) (.val (.int b2)) (.val (.int b3)) (.val (.int o0)) (.val (.int o1)) (.val (.int o2)) (.val (.int o3)) (.val (.int u0)) (.val (.int u1)) u2 (.val (.int u3)) (.val (.int pos)) b s21 s22 s23 X7 hx hZ hw hby hml hown e7 n0 Z8 N7 ea ua _ _ _ O7 N hN (by rw [hu7 2 (by decide), hu6 2 (by decide)])
  have Z9 : n0 ≤ g8.size := O8.2.2.2.2.2.2.2.2
  obtain ⟨T9, g9, L9, U9, X9, N9, e9, O9, hu9, hv9, st9⟩ := mark3 (.val (.int p1)) (.val (.long q2)) .second (.val (.int p3)) (.val (.int p4)) (.val (.int p5)) n (.val (.int b0)) (.val (.int b1)) (.val (.int b2)) (.val (.int b3)) (.val (.int o0)) (.val (.int o1)) (.val (.int o2)) (.val (.int o3)) (.val (.int u0)) (.val (.int u1)) (.val (.int u2)) u3 (.val (.int pos)) b s21 s22 s23 X8 hx hZ hw hby hml hown e8 n0 Z9 N8 ea ua _ _ _ O8 N hN (by rw [hu8 3 (by decide), hu7 3 (by decide), hu6 3 (by decide)])
  refine ⟨T9, g9, L9, b, ea, ua, sz5, E5, U9, X9, N9, e9, O9, own_min4 hs5 hN4, fun j hj => ?_, fun j hj => ?_, fun target h => (st1 _ (st2 _ (st3 _ (st4 _ (st5 _ (st6 _ (st7 _ (st8 _ (st9 _ h)))))))))⟩
  · match j, hj with
    | 0, hj => exact (hc2 hj).elim fun r hr => ⟨r, hr.1, by rw [ha5 0 (by decide), ha4 0 (by decide), ha3 0 (by decide)]; exact hr.2⟩
    | 1, hj => exact (hc3 hj).elim fun r hr => ⟨r, hr.1, by rw [ha5 1 (by decide), ha4 1 (by decide)]; exact hr.2⟩
    | 2, hj => exact (hc4 hj).elim fun r hr => ⟨r, hr.1, by rw [ha5 2 (by decide)]; exact hr.2⟩
    | 3, hj => exact (hc5 hj).elim fun r hr => ⟨r, hr.1, hr.2⟩
    | j + 4, hj => exact absurd hj (by omega)
  · match j, hj with
    | 0, hj => rw [hu9 0 (by decide), hu8 0 (by decide), hu7 0 (by decide)]; exact hv6 hj
    | 1, hj => rw [hu9 1 (by decide), hu8 1 (by decide)]; exact hv7 hj
    | 2, hj => rw [hu9 2 (by decide)]; exact hv8 hj
    | 3, hj => exact hv9 hj
    | j + 4, hj => exact absurd hj (by omega)
set_option maxRecDepth 65536 in
set_option maxHeartbeats 40000000 in
theorem join4 {p : Program} {l : Launch} {e : Env} {s : State} {m : MethodId} {args : Array Value} {below : List Frame} {meth : Method} {c : Code} {Z : State} {a0 : Array Value} {h0 : Heap} {T0 : State} {locs : List Loc} (p1 : Int32) (q2 : Int64) (p3 p4 p5 n b0 b1 b2 b3 o0 o1 o2 o3 u0 u1 u2 u3 pos : Int32) (b : Addr) (s21 s22 s23 : Slot) (X0 : Stand p l e room_1 s m args below meth c T0 locs 3 19) (hx : p.tables.exec = Jvm.exec) (hZ : Z.Warmed39 s.vm) (hw : ∀ d ∈ tables_1, d.before a0 Z = true) (hby : c.code = code) (hml : c.maxLocals = 24) (hown : s.vm.findClass "com/example/umbel/umbel/query/OccurrencesFirstUnusedAfterPinLaw" = some m.cls) (e0 : T0.heap = h0) (n0 : Nat) (Z0 : n0 ≤ h0.size) (N0 : Fr n0 locs) (h21 : One s21) (h22 : own_Two s22 s23) (N : Nat) (hN4 : N ≤ 4) (hN : n.toInt = (N : Int)) (ea ua : Addr) (sz : Int32) (E : Nat → Int64) (U : Nat → Int32) (O : own_O Z h0 n0 b ea ua sz E U) (hsz : sz.toInt = (N : Int)) (mono : ∀ i j, i ≤ j → j < N → E j < own_key pos → E i < own_key pos) (hP : ∀ j, j < N → ((¬ E j < own_key pos ∧ U j = 0) ↔ (pos < own_sel b0 b1 b2 b3 j ∧ own_sel u0 u1 u2 u3 j = 0))) :
    ∃ (T' : State) (locs' : List Loc) (r w : Int32), Stand p l e room_1 s m args below meth c T' locs' 3 19 ∧ Fr n0 locs' ∧
      ∀ target, Steps p.tables e below (T'.setTop (mkF m 515 #[.val (.int p1), .val (.long q2), .second, .val (.int p3), .val (.int p4), .val (.int p5), .val (.int n), .val (.int b0), .val (.int b1), .val (.int b2), .val (.int b3), .val (.int o0), .val (.int o1), .val (.int o2), .val (.int o3), .val (.int u0), .val (.int u1), .val (.int u2), .val (.int u3), .val (.int pos), .val (.ref b), .val (.int r), .val (.int w), .unset] [(.int (1 : Int32))])) target → Steps p.tables e below (T0.setTop (mkF m 408 #[.val (.int p1), .val (.long q2), .second, .val (.int p3), .val (.int p4), .val (.int p5), .val (.int n), .val (.int b0), .val (.int b1), .val (.int b2), .val (.int b3), .val (.int o0), .val (.int o1), .val (.int o2), .val (.int o3), .val (.int u0), .val (.int u1), .val (.int u2), .val (.int u3), .val (.int pos), .val (.ref b), s21, s22, s23] [])) target := by
  obtain ⟨T1, L1, r, X1, N1, e1, hres, st1⟩ := tn0_408 (.val (.int p1)) (.val (.long q2)) .second (.val (.int p3)) (.val (.int p4)) (.val (.int p5)) (.val (.int n)) (.val (.int b0)) (.val (.int b1)) (.val (.int b2)) (.val (.int b3)) (.val (.int o0)) (.val (.int o1)) (.val (.int o2)) (.val (.int o3)) (.val (.int u0)) (.val (.int u1)) (.val (.int u2)) (.val (.int u3)) pos b s21 s22 s23 X0 hx hZ hw hby hml hown e0 n0 Z0 N0 O.1 h21 h22 ea ua sz N E U O hsz (by omega) mono
  obtain ⟨T2, L2, w2, X2, N2, e2, hw2, st2⟩ := want3 (.val (.int p1)) (.val (.long q2)) .second (.val (.int p3)) (.val (.int p4)) (.val (.int p5)) n (.val (.int b0)) (.val (.int b1)) (.val (.int b2)) b3 (.val (.int o0)) (.val (.int o1)) (.val (.int o2)) (.val (.int o3)) (.val (.int u0)) (.val (.int u1)) (.val (.int u2)) u3 pos (.val (.ref b)) (.val (.int r)) (-1 : Int32) .unset X1 hx hZ hw hby hml hown e1 n0 Z0 N1 N hN (fun j => pos < own_sel b0 b1 b2 b3 j ∧ own_sel u0 u1 u2 u3 j = 0) Iff.rfl (Or.inl ⟨rfl, fun j h1 h2 => absurd h2 (by omega)⟩)
  obtain ⟨T3, L3, w3, X3, N3, e3, hw3, st3⟩ := want2 (.val (.int p1)) (.val (.long q2)) .second (.val (.int p3)) (.val (.int p4)) (.val (.int p5)) n (.val (.int b0)) (.val (.int b1)) b2 (.val (.int b3)) (.val (.int o0)) (.val (.int o1)) (.val (.int o2)) (.val (.int o3)) (.val (.int u0)) (.val (.int u1)) u2 (.val (.int u3)) pos (.val (.ref b)) (.val (.int r)) w2 .unset X2 hx hZ hw hby hml hown e2 n0 Z0 N2 N hN (fun j => pos < own_sel b0 b1 b2 b3 j ∧ own_sel u0 u1 u2 u3 j = 0) Iff.rfl hw2
  obtain ⟨T4, L4, w4, X4, N4, e4, hw4, st4⟩ := want1 (.val (.int p1)) (.val (.long q2)) .second (.val (.int p3)) (.val (.int p4)) (.val (.int p5)) n (.val (.int b0)) b1 (.val (.int b2)) (.val (.int b3)) (.val (.int o0)) (.val (.int o1)) (.val (.int o2)) (.val (.int o3)) (.val (.int u0)) u1 (.val (.int u2)) (.val (.int u3)) pos (.val (.ref b)) (.val (.int r)) w3 .unset X3 hx hZ hw hby hml hown e3 n0 Z0 N3 N hN (fun j => pos < own_sel b0 b1 b2 b3 j ∧ own_sel u0 u1 u2 u3 j = 0) Iff.rfl hw3
  obtain ⟨T5, L5, w5, X5, N5, e5, hw5, st5⟩ := want0 (.val (.int p1)) (.val (.long q2)) .second (.val (.int p3)) (.val (.int p4)) (.val (.int p5)) n b0 (.val (.int b1)) (.val (.int b2)) (.val (.int b3)) (.val (.int o0)) (.val (.int o1)) (.val (.int o2)) (.val (.int o3)) u0 (.val (.int u1)) (.val (.int u2)) (.val (.int u3)) pos (.val (.ref b)) (.val (.int r)) w4 .unset X4 hx hZ hw hby hml hown e4 n0 Z0 N4 N hN (fun j => pos < own_sel b0 b1 b2 b3 j ∧ own_sel u0 u1 u2 u3 j = 0) Iff.rfl hw4
  have hrw : r = w5 := own_uniq (own_rescongr hres hP) hw5
  obtain ⟨T6, L6, X6, N6, e6, st6⟩ := tn0_503 (.val (.int p1)) (.val (.long q2)) .second (.val (.int p3)) (.val (.int p4)) (.val (.int p5)) (.val (.int n)) (.val (.int b0)) (.val (.int b1)) (.val (.int b2)) (.val (.int b3)) (.val (.int o0)) (.val (.int o1)) (.val (.int o2)) (.val (.int o3)) (.val (.int u0)) (.val (.int u1)) (.val (.int u2)) (.val (.int u3)) (.val (.int pos)) (.val (.ref b)) r w5 .unset X5 hx hZ hw hby hml hown e5 n0 Z0 N5 hrw
  exact ⟨T6, L6, r, w5, X6, N6, fun target h => (st1 _ (st2 _ (st3 _ (st4 _ (st5 _ (st6 _ h))))))⟩
def Q0 (Z : State) (p1 : Int32) (q2 : Int64) (p3 : Int32) (p4 : Int32) (p5 : Int32) (h0 : Heap) (n0 : Nat) (v : Option Value) (h : Heap) (L : List Loc) : Prop := v = some (.int (1 : Int32)) ∧ Fr n0 L
theorem pn_0 : plainName "com/example/umbel/umbel/query/OccurrencesFirstUnusedAfterPinLaw" = true := by first | (simp [plainName, overriddenIn]; done) | decide +kernel
theorem ef_0 (m : MethodId) (x0 : Int32) (x1 : Int64) (x2 : Int32) (x3 : Int32) (x4 : Int32) : entryFrame m #[(.int x0), (.long x1), (.int x2), (.int x3), (.int x4)] maxLocals = mkF m 0 #[.val (.int x0), .val (.long x1), .second, .val (.int x2), .val (.int x3), .val (.int x4), .unset, .unset, .unset, .unset, .unset, .unset, .unset, .unset, .unset, .unset, .unset, .unset, .unset, .unset, .unset, .unset, .unset, .unset] [] := by first | (simp [entryFrame, mkF, argsToLocals, Value.category, maxLocals]; done) | rfl
set_option maxRecDepth 65536 in
set_option maxHeartbeats 40000000 in
theorem rm0 (l : Launch) (Z : State) (a0 : Array Value) (hw : ∀ d ∈ tables_1, d.before a0 Z = true) (ws : List Jvm.Cond) (p1 : Int32) (q2 : Int64) (p3 : Int32) (p4 : Int32) (p5 : Int32) (h0 : Heap) (n0 : Nat) (Z0 : n0 ≤ h0.size) :
    MetFree l x (head1 (Jvm.Cond.code x code maxLocals ret :: ws) room_1) (fun a U => a = #[(.int p1), (.long q2), (.int p3), (.int p4), (.int p5)] ∧ Z.Warmed39 U.vm ∧ U.heap = h0) (fun _ _ _ _ _ => True) (fun _ U o U' => ∃ v L, o = .returned v ∧ Q0 Z p1 q2 p3 p4 p5 h0 n0 v U'.heap L ∧ FrameEnd U o U' L room_1.cells room_1.slots) := by
  refine MetFree.of_bodySF (plainFor_of_name pn_0) hisR ?_
  intro p e s m args below meth c s₁ Bd hml0 hP hK
  obtain ⟨rfl, hZ, hh⟩ := hP
  have hx := Bd.exec
  have hby := Bd.bytes
  have hml : c.maxLocals = 24 := hml0
  have hown : s.vm.findClass "com/example/umbel/umbel/query/OccurrencesFirstUnusedAfterPinLaw" = some m.cls := findClass_of_methodNamed Bd.named
  have hnm := (name_of_methodNamed Bd.named Bd.method).1
  have X0 : Stand p l e room_1 s m #[(.int p1), (.long q2), (.int p3), (.int p4), (.int p5)] below meth c s₁ [] 0 0 := Stand.of_body Bd
  have e0 : s₁.heap = h0 := by rw [← hh, Bd.state]; rfl
  have N0 := Fr.nil n0
  have pre0 : ∀ t, Steps p.tables e below (s₁.setTop (mkF m 0 #[.val (.int p1), .val (.long q2), .second, .val (.int p3), .val (.int p4), .val (.int p5), .unset, .unset, .unset, .unset, .unset, .unset, .unset, .unset, .unset, .unset, .unset, .unset, .unset, .unset, .unset, .unset, .unset, .unset] [])) t → Steps p.tables e below (s₁.setTop (entryFrame m #[(.int p1), (.long q2), (.int p3), (.int p4), (.int p5)] maxLocals)) t := fun t k => castTop (ef_0 m p1 q2 p3 p4 p5) k
  obtain ⟨T1, L1, n, b0, b1, b2, b3, o0, o1, o2, o3, u0, u1, u2, u3, X1, N1, e1, ⟨N, hN4, hN⟩, ⟨hb0, hb1, hb2, hb3⟩, ⟨ho0, ho1, ho2, ho3⟩, st1⟩ := join1 p1 q2 p3 p4 p5 X0 hx hZ hw hby hml hown e0 n0 Z0 N0
  obtain ⟨T2, L2, pos, s20, s21, s22, s23, X2, N2, e2, hp0, hp1, h20, h21, h22, st2⟩ := join2 p1 q2 p3 p4 p5 n b0 b1 b2 b3 o0 o1 o2 o3 u0 u1 u2 u3 X1 hx hZ hw hby hml hown e1 n0 Z0 N1
  obtain ⟨T3, h3, L3, b, ea, ua, sz, E, U, X3, N3, e3, O, hsz, hE, hU, st3⟩ := join3 p1 q2 p3 p4 p5 n b0 b1 b2 b3 o0 o1 o2 o3 u0 u1 u2 u3 pos s20 s21 s22 s23 X2 hx hZ hw hby hml hown e2 n0 Z0 N2 h20 N hN4 hN (by omega) (by omega) (by omega) (by omega) ho0 ho1 ho2 ho3
  have hB0 : ∀ j, 0 ≤ (own_sel b0 b1 b2 b3 j).toInt := fun j => match j with
    | 0 => by show 0 ≤ b0.toInt; omega
    | 1 => by show 0 ≤ b1.toInt; omega
    | 2 => by show 0 ≤ b2.toInt; omega
    | j + 3 => by show 0 ≤ b3.toInt; omega
  have hB1 : ∀ j, (own_sel b0 b1 b2 b3 j).toInt ≤ (own_sel b0 b1 b2 b3 (j + 1)).toInt := fun j => match j with
    | 0 => hb1
    | 1 => hb2
    | 2 => hb3
    | j + 3 => Int.le_refl _
  have hBm : ∀ i d, (own_sel b0 b1 b2 b3 i).toInt ≤ (own_sel b0 b1 b2 b3 (i + d)).toInt := fun i d => by
    induction d with
    | zero => exact Int.le_refl _
    | succ d ih => exact Int.le_trans ih (hB1 (i + d))
  have hlt : ∀ j, j < N → (E j < own_key pos ↔ ¬ pos < own_sel b0 b1 b2 b3 j) := fun j hj => by
    obtain ⟨r, hr, he⟩ := hE j hj
    rw [he]
    exact own_cmp (hB0 j) hr hp0 hp1
  have mono : ∀ i j, i ≤ j → j < N → E j < own_key pos → E i < own_key pos := fun i j hij hj h => by
    have h1 := (hlt j hj).mp h
    refine (hlt i (by omega)).mpr fun h2 => h1 ?_
    have h3 := hBm i (j - i)
    rw [Nat.add_sub_cancel' hij] at h3
    rw [own_lt] at h2 ⊢
    omega
  have hP : ∀ j, j < N → ((¬ E j < own_key pos ∧ U j = 0) ↔ (pos < own_sel b0 b1 b2 b3 j ∧ own_sel u0 u1 u2 u3 j = 0)) := fun j hj => by
    rw [hlt j hj, hU j hj, Decidable.not_not]
  obtain ⟨T4, L4, r, w, X4, N4, st4⟩ := join4 p1 q2 p3 p4 p5 n b0 b1 b2 b3 o0 o1 o2 o3 u0 u1 u2 u3 pos b s21 s22 s23 X3 hx hZ hw hby hml hown e3 n0 O.2.2.2.2.2.2.2.2 N3 h21 h22 N hN4 hN ea ua sz E U O hsz mono hP
  obtain ⟨fs, hr, hrun, hended, hW, hsame⟩ := X4.leave (v := some (.int (1 : Int32))) (fun h => by rw [Bd.returns] at h; cases h)
  refine ⟨_, _, pre0 _ ?_, hrun, hended, _, _, rfl, ?_, ⟨_, rfl⟩, hW, hsame.mono (by decide) (by decide)⟩
  · refine st1 _ (st2 _ (st3 _ (st4 _ ?_)))
    show Steps p.tables e below (T4.setTop (mkF m 515 #[.val (.int p1), .val (.long q2), .second, .val (.int p3), .val (.int p4), .val (.int p5), .val (.int n), .val (.int b0), .val (.int b1), .val (.int b2), .val (.int b3), .val (.int o0), .val (.int o1), .val (.int o2), .val (.int o3), .val (.int u0), .val (.int u1), .val (.int u2), .val (.int u3), .val (.int pos), .val (.ref b), .val (.int r), .val (.int w), .unset] [(.int (1 : Int32))])) _
    exact retN X4 hx (t := .boolean) Bd.returns (by simp) (hb hby at_515) hr
  · show Q0 Z p1 q2 p3 p4 p5 h0 n0 _ T4.heap _
    exact ⟨rfl, N4⟩
set_option maxRecDepth 65536 in
set_option maxHeartbeats 40000000 in
theorem comes_1 {Post : Tables → Env → Array Value → State → Outcome → State → Prop} (hpost : ∀ tb e args s v u, (limb_1_1.after args s (.returned v) u = true ∧ limb_1_2.after args s (.returned v) u = true ∧ True) → FrameEnd s (.returned v) u (Jvm.fieldLocs frame_1_writes args s ++ Jvm.arrayLocs frame_1_arrays args s ++ Jvm.staticLocs frame_1_statics s) 16 128 → Post tb e args s (.returned v) u) :
    ArmFor flags0 classFile x code maxLocals ret World_1 tables_1 room_1 Calls_1 rest_1 Pre_1 Post := by
  intro l hfl _ _ p e ha hc hk s m args below hf hA hF happ hP
  obtain ⟨hcalls, hrest, hpre⟩ := hP
  obtain ⟨-, -, -, hnamed, -, -, -, hat⟩ := (Spec.applies_iff hf).mp happ
  obtain ⟨hg, hn⟩ := and_e (Cond.before_iff.mp (show (Jvm.Cond.and given_1 narrow_1).before args s = true from hpre))
  obtain ⟨g14, g15⟩ := and_e hg
  obtain ⟨g16, g17⟩ := and_e g15
  obtain ⟨g18, g19⟩ := and_e g17
  obtain ⟨g20, g21⟩ := and_e g19
  obtain ⟨g22, g23⟩ := and_e g21
  obtain ⟨w0, w1, w2, w3, w4, rfl⟩ : ∃ w0 w1 w2 w3 w4 : Value, args = #[w0, w1, w2, w3, w4] := by
    have hs : args.size = 5 := by simpa [Cond.value, given_1] using g14
    obtain ⟨L⟩ := args
    match L, hs with
    | [w0, w1, w2, w3, w4], _ => exact ⟨w0, w1, w2, w3, w4, rfl⟩
  have hw := fun d (hd : d ∈ tables_1) => atoms_spec (ws := Jvm.Cond.code x code maxLocals ret :: tables_1) hat d (List.mem_cons_of_mem _ hd)
  have hfit : Fit s := fun {y c} hc i hi => by
    obtain ⟨ha, rfl⟩ := Array.getElem?_eq_some_iff.mp hc
    have q := List.all_eq_true.mp ((Array.all_eq_true_iff_forall_mem.mp hF) _ (Array.getElem_mem ha)) i (List.mem_range.mpr hi)
    simpa [Array.getElem?_eq_getElem hi] using q
  obtain ⟨i0, ei0⟩ := is_v g16
  obtain rfl : w0 = (.int i0) := Option.some.inj ei0
  obtain ⟨i1, ei1⟩ := isL_v g18
  obtain rfl : w1 = (.long i1) := Option.some.inj ei1
  obtain ⟨i2, ei2⟩ := is_v g20
  obtain rfl : w2 = (.int i2) := Option.some.inj ei2
  obtain ⟨i3, ei3⟩ := is_v g22
  obtain rfl : w3 = (.int i3) := Option.some.inj ei3
  obtain ⟨i4, ei4⟩ := is_v g23
  obtain rfl : w4 = (.int i4) := Option.some.inj ei4
  obtain ⟨n, o, h1, h2, h3, _, L, rfl, ⟨rfl, N⟩, hq⟩ := rm0 l s _ hw tables_1 i0 i1 i2 i3 i4 s.heap s.heap.size (Nat.le_refl _) p e ha hc hk s m _ below hf ((Spec.applies_iff_loose hf).mp happ).1 ⟨rfl, State.Warmed39.refl s, rfl⟩ trivial
  refine ⟨n, _, h1, h2, h3, hpost _ _ _ _ _ _ ⟨Cond.after_iff.mpr rfl, Cond.after_iff.mpr (eq_i res_at (Term.int_eval (1)) rfl), trivial⟩ ⟨hq.1, hq.2.1, (hq.2.2.sift fun y hy => Or.inr (N y hy)).mono (by decide) (by decide)⟩⟩
theorem main_1_1 : Claimed_1_1 := comes_1 fun _ _ _ _ _ _ h hF => ⟨h.1, hF⟩
theorem main_1_2 : Claimed_1_2 := comes_1 fun _ _ _ _ _ _ h hF => ⟨h.2.1, hF⟩
end Jvm.Pilot.@@N@@
namespace Jvm.Pilot.@@N@@
open Jvm Jvm.ClassFile Sem Op Lib Jvm.Free Jvm.Stand Jvm.Pilot.@@N@@.Jvm.D
/-! MADE BY PROGRAM (witnessworld.py) out of the Statement's table words and the real class files: 14 classes; the members and pool entries that the words name. The judged class is class 1, her method 1. -/
namespace start1
open Jvm.ClassFile
def u (s : String) : CpInfo := .utf8 (stringToUtf16 s)
/-- a pool by its gaps: so many unusable entries, then the entry; so many at the end -/
def gap : Nat → List CpInfo → List CpInfo
  | 0, r => r
  | n + 1, r => .unusable :: gap n r
def poolList (es : List (Nat × CpInfo)) (last : Nat) : List CpInfo := es.foldr (fun e r => gap e.1 (e.2 :: r)) (gap last [])
def pool (es : List (Nat × CpInfo)) (last : Nat) : Array CpInfo := ⟨poolList es last⟩
def fileOf (pool : Array CpInfo) (this : Nat) (attrs : Array Attribute := #[]) (ms : Array MethodInfo := #[]) (fl : Nat := 33) (sup : Nat := 0) (ifs : Array Nat := #[]) (fds : Array FieldInfo := #[]) : ClassFile where
  minorVersion := 0
  majorVersion := 65
  constantPool := pool
  accessFlags := fl
  thisClass := this
  superClass := sup
  interfaces := ifs
  fields := fds
  methods := ms
  attributes := attrs
def plain (name : String) (sup : Option ClassId) : Class where
  name := name
  kind := .ordinary
  loader := none
  accessFlags := 33
  super := sup
  interfaces := #[]
  cf := none
  fields := #[]
  methods := #[]
  instanceTypes := #[]
  staticTypes := #[]
  resolved := #[]
  callSites := []
  init := .initialized
  statics := none
  mirror := none

def pool0 : Array CpInfo := pool [(5, u "<init>"), (0, u "()V"), (1, .class_ 10), (1, u "java/lang/Object")] 113

def k0c0 : Code := { maxStack := 0, maxLocals := 1, code := object_method_1_code, exceptionTable := #[], attributes := #[] }
def k0m0 : Method := { name := "<init>", desc := "()V", sig := { parameters := [], returnType := none }, accessFlags := 1, code := some k0c0 }
/-- java/lang/Object -/
def k0 : Class := { plain "java/lang/Object" none with
  accessFlags := 33
  interfaces := #[]
  cf := some (fileOf pool0 8 #[] #[{ accessFlags := 1, nameIndex := 5, descriptorIndex := 6, attributes := #[] }] 33 0 #[] #[])
  fields := #[]
  methods := #[k0m0]
  instanceTypes := #[]
  staticTypes := #[]
  resolved := Array.replicate 124 none
  statics := none }

def pool1 : Array CpInfo := pool [(2, .class_ 4), (0, .nameAndType 5 6), (0, u "java/lang/Object"), (0, u "<init>"), (0, u "()V"), (0, .integer 2147483647), (0, .methodref 9 10), (0, .class_ 11), (0, .nameAndType 12 13), (0, u "java/lang/Math"), (0, u "max"), (0, u "(II)I"), (0, .methodref 15 16), (0, .class_ 17), (0, .nameAndType 18 19), (0, u "com/example/umbel/umbel/query/OccurrencesFirstUnusedAfterPinLaw"), (0, u "next"), (0, u "(IJI)I"), (2, .integer 2147483646), (0, .methodref 9 24), (0, .nameAndType 25 13), (0, u "min"), (0, .long 2147483646), (1, .methodref 9 29), (0, .nameAndType 25 30), (0, u "(JJ)J"), (0, .methodref 9 32), (0, .nameAndType 12 30), (0, .class_ 34), (0, u "com/example/umbel/umbel/query/Occurrences"), (0, .methodref 33 3), (0, .methodref 15 37), (0, .nameAndType 38 13), (0, u "end"), (0, .methodref 33 40), (0, .nameAndType 41 42), (0, u "add"), (0, u "(II)V"), (0, .methodref 33 44), (0, .nameAndType 45 46), (0, u "markUsed"), (0, u "(I)V"), (0, .methodref 33 48), (0, .nameAndType 49 50), (0, u "firstUnusedAfter"), (0, u "(I)I"), (0, .integer 2097151), (0, .long 2147483647), (3, u "law"), (0, u "(IJIII)Z")] 3

def k1m0 : Method := { name := "<init>", desc := "()V", sig := { parameters := [], returnType := none }, accessFlags := 1, code := none }
def k1c1 : Code := { maxStack := 6, maxLocals := 24, code := code, exceptionTable := #[], attributes := #[] }
def k1m1 : Method := { name := "law", desc := "(IJIII)Z", sig := { parameters := [.int, .long, .int, .int, .int], returnType := some .boolean }, accessFlags := 9, code := some k1c1 }
def k1c2 : Code := { maxStack := 4, maxLocals := 7, code := method_3_code, exceptionTable := #[], attributes := #[] }
def k1m2 : Method := { name := "next", desc := "(IJI)I", sig := { parameters := [.int, .long, .int], returnType := some .int }, accessFlags := 10, code := some k1c2 }
def k1c3 : Code := { maxStack := 4, maxLocals := 2, code := method_4_code, exceptionTable := #[], attributes := #[] }
def k1m3 : Method := { name := "end", desc := "(II)I", sig := { parameters := [.int, .int], returnType := some .int }, accessFlags := 10, code := some k1c3 }
/-- com/example/umbel/umbel/query/OccurrencesFirstUnusedAfterPinLaw -/
def k1 : Class := { plain "com/example/umbel/umbel/query/OccurrencesFirstUnusedAfterPinLaw" (some 0) with
  accessFlags := 49
  interfaces := #[]
  cf := some (fileOf pool1 15 #[] #[{ accessFlags := 1, nameIndex := 5, descriptorIndex := 6, attributes := #[] }, { accessFlags := 9, nameIndex := 56, descriptorIndex := 57, attributes := #[] }, { accessFlags := 10, nameIndex := 18, descriptorIndex := 19, attributes := #[] }, { accessFlags := 10, nameIndex := 38, descriptorIndex := 13, attributes := #[] }] 49 2 #[] #[])
  fields := #[]
  methods := #[k1m0, k1m1, k1m2, k1m3]
  instanceTypes := #[]
  staticTypes := #[]
  resolved := Array.replicate 61 none
  statics := none }

def pool2 : Array CpInfo := pool [(1, .class_ 2), (0, u "java/lang/Math"), (1, .class_ 6), (1, u "java/lang/Object"), (0, u "<init>"), (0, u "()V"), (89, .class_ 100), (1, u "java/lang/Math$RandomNumberGeneratorHolder"), (20, u "(JJ)J"), (50, u "negativeZeroFloatBits"), (0, u "J"), (2, u "negativeZeroDoubleBits"), (21, u "max"), (2, u "min"), (43, u "$assertionsDisabled"), (0, u "Z"), (88, u "(II)I"), (2, u "twoToTheDoubleScaleDown"), (0, u "D"), (4, u "twoToTheDoubleScaleUp"), (9, u "E"), (3, u "PI"), (2, u "TAU"), (2, u "DEGREES_TO_RADIANS"), (0, u "RADIANS_TO_DEGREES")] 94

def k2m0 : Method := { name := "<init>", desc := "()V", sig := { parameters := [], returnType := none }, accessFlags := 2, code := none }
def k2c1 : Code := { maxStack := 2, maxLocals := 2, code := jdk_29_method_65_code, exceptionTable := #[], attributes := #[] }
def k2m1 : Method := { name := "max", desc := "(II)I", sig := { parameters := [.int, .int], returnType := some .int }, accessFlags := 9, code := some k2c1 }
def k2c2 : Code := { maxStack := 4, maxLocals := 4, code := jdk_29_method_66_code, exceptionTable := #[], attributes := #[] }
def k2m2 : Method := { name := "max", desc := "(JJ)J", sig := { parameters := [.long, .long], returnType := some .long }, accessFlags := 9, code := some k2c2 }
def k2c3 : Code := { maxStack := 2, maxLocals := 2, code := jdk_29_method_69_code, exceptionTable := #[], attributes := #[] }
def k2m3 : Method := { name := "min", desc := "(II)I", sig := { parameters := [.int, .int], returnType := some .int }, accessFlags := 9, code := some k2c3 }
def k2c4 : Code := { maxStack := 4, maxLocals := 4, code := jdk_29_method_70_code, exceptionTable := #[], attributes := #[] }
def k2m4 : Method := { name := "min", desc := "(JJ)J", sig := { parameters := [.long, .long], returnType := some .long }, accessFlags := 9, code := some k2c4 }
/-- java/lang/Math -/
def k2 : Class := { plain "java/lang/Math" (some 0) with
  accessFlags := 49
  interfaces := #[]
  cf := some (fileOf pool2 1 #[.nestMembers #[98]] #[{ accessFlags := 2, nameIndex := 7, descriptorIndex := 8, attributes := #[] }, { accessFlags := 9, nameIndex := 198, descriptorIndex := 335, attributes := #[] }, { accessFlags := 9, nameIndex := 198, descriptorIndex := 121, attributes := #[] }, { accessFlags := 9, nameIndex := 201, descriptorIndex := 335, attributes := #[] }, { accessFlags := 9, nameIndex := 201, descriptorIndex := 121, attributes := #[] }] 49 4 #[] #[{ accessFlags := 25, nameIndex := 354, descriptorIndex := 339, attributes := #[] }, { accessFlags := 25, nameIndex := 358, descriptorIndex := 339, attributes := #[] }, { accessFlags := 25, nameIndex := 361, descriptorIndex := 339, attributes := #[] }, { accessFlags := 26, nameIndex := 364, descriptorIndex := 339, attributes := #[] }, { accessFlags := 26, nameIndex := 365, descriptorIndex := 339, attributes := #[] }, { accessFlags := 26, nameIndex := 172, descriptorIndex := 173, attributes := #[] }, { accessFlags := 26, nameIndex := 176, descriptorIndex := 173, attributes := #[] }, { accessFlags := 8, nameIndex := 344, descriptorIndex := 339, attributes := #[] }, { accessFlags := 8, nameIndex := 338, descriptorIndex := 339, attributes := #[] }, { accessFlags := 4120, nameIndex := 245, descriptorIndex := 246, attributes := #[] }])
  fields := #[{ name := "E", type := .double, accessFlags := 25, slot := 0, constantValue := 0 }, { name := "PI", type := .double, accessFlags := 25, slot := 1, constantValue := 0 }, { name := "TAU", type := .double, accessFlags := 25, slot := 2, constantValue := 0 }, { name := "DEGREES_TO_RADIANS", type := .double, accessFlags := 26, slot := 3, constantValue := 0 }, { name := "RADIANS_TO_DEGREES", type := .double, accessFlags := 26, slot := 4, constantValue := 0 }, { name := "negativeZeroFloatBits", type := .long, accessFlags := 26, slot := 5, constantValue := 0 }, { name := "negativeZeroDoubleBits", type := .long, accessFlags := 26, slot := 6, constantValue := 0 }, { name := "twoToTheDoubleScaleUp", type := .double, accessFlags := 8, slot := 7, constantValue := 0 }, { name := "twoToTheDoubleScaleDown", type := .double, accessFlags := 8, slot := 8, constantValue := 0 }, { name := "$assertionsDisabled", type := .boolean, accessFlags := 4120, slot := 9, constantValue := 0 }]
  methods := #[k2m0, k2m1, k2m2, k2m3, k2m4]
  instanceTypes := #[]
  staticTypes := #[.double, .double, .double, .double, .double, .long, .long, .double, .double, .boolean]
  resolved := Array.replicate 460 none
  statics := none }

def pool3 : Array CpInfo := pool [(1, .methodref 2 3), (0, .class_ 4), (0, .nameAndType 5 6), (0, u "java/lang/Object"), (0, u "<init>"), (0, u "()V"), (0, .fieldref 8 9), (0, .class_ 10), (0, .nameAndType 11 12), (0, u "com/example/umbel/umbel/query/Occurrences"), (0, u "extents"), (0, u "[J"), (0, .fieldref 8 14), (0, .nameAndType 15 16), (0, u "used"), (0, u "[Z"), (0, .fieldref 8 18), (0, .nameAndType 19 20), (0, u "size"), (0, u "I"), (13, .methodref 8 35), (0, .nameAndType 36 37), (0, u "extent"), (0, u "(II)J"), (9, u "(I)I"), (12, u "add"), (0, u "(II)V"), (3, u "markUsed"), (0, u "(I)V"), (0, u "firstUnusedAfter")] 2

def k3c0 : Code := { maxStack := 2, maxLocals := 1, code := prog_113_method_1_code, exceptionTable := #[], attributes := #[] }
def k3m0 : Method := { name := "<init>", desc := "()V", sig := { parameters := [], returnType := none }, accessFlags := 0, code := some k3c0 }
def k3c1 : Code := { maxStack := 4, maxLocals := 3, code := prog_113_method_3_code, exceptionTable := #[], attributes := #[] }
def k3m1 : Method := { name := "add", desc := "(II)V", sig := { parameters := [.int, .int], returnType := none }, accessFlags := 0, code := some k3c1 }
def k3c2 : Code := { maxStack := 3, maxLocals := 2, code := prog_113_method_9_code, exceptionTable := #[], attributes := #[] }
def k3m2 : Method := { name := "markUsed", desc := "(I)V", sig := { parameters := [.int], returnType := none }, accessFlags := 0, code := some k3c2 }
def k3c3 : Code := { maxStack := 4, maxLocals := 7, code := prog_113_method_10_code, exceptionTable := #[], attributes := #[] }
def k3m3 : Method := { name := "firstUnusedAfter", desc := "(I)I", sig := { parameters := [.int], returnType := some .int }, accessFlags := 0, code := some k3c3 }
def k3c4 : Code := { maxStack := 4, maxLocals := 2, code := prog_113_method_11_code, exceptionTable := #[], attributes := #[] }
def k3m4 : Method := { name := "extent", desc := "(II)J", sig := { parameters := [.int, .int], returnType := some .long }, accessFlags := 10, code := some k3c4 }
/-- com/example/umbel/umbel/query/Occurrences -/
def k3 : Class := { plain "com/example/umbel/umbel/query/Occurrences" (some 0) with
  accessFlags := 48
  interfaces := #[]
  cf := some (fileOf pool3 8 #[] #[{ accessFlags := 0, nameIndex := 5, descriptorIndex := 6, attributes := #[] }, { accessFlags := 0, nameIndex := 60, descriptorIndex := 61, attributes := #[] }, { accessFlags := 0, nameIndex := 65, descriptorIndex := 66, attributes := #[] }, { accessFlags := 0, nameIndex := 67, descriptorIndex := 47, attributes := #[] }, { accessFlags := 10, nameIndex := 36, descriptorIndex := 37, attributes := #[] }] 48 2 #[] #[{ accessFlags := 2, nameIndex := 11, descriptorIndex := 12, attributes := #[] }, { accessFlags := 2, nameIndex := 15, descriptorIndex := 16, attributes := #[] }, { accessFlags := 2, nameIndex := 19, descriptorIndex := 20, attributes := #[] }])
  fields := #[{ name := "extents", type := (.array .long), accessFlags := 2, slot := 0, constantValue := 0 }, { name := "used", type := (.array .boolean), accessFlags := 2, slot := 1, constantValue := 0 }, { name := "size", type := .int, accessFlags := 2, slot := 2, constantValue := 0 }]
  methods := #[k3m0, k3m1, k3m2, k3m3, k3m4]
  instanceTypes := #[(.array .long), (.array .boolean), .int]
  staticTypes := #[]
  resolved := Array.replicate 70 none
  statics := none }

def pool4 : Array CpInfo := pool [(1, u "java/lang/Cloneable"), (0, .class_ 1), (0, u "java/lang/Object"), (0, .class_ 3)] 3

/-- java/lang/Cloneable -/
def k4 : Class := { plain "java/lang/Cloneable" (some 0) with
  accessFlags := 1537
  interfaces := #[]
  cf := some (fileOf pool4 2 #[] #[] 1537 4 #[] #[])
  fields := #[]
  methods := #[]
  instanceTypes := #[]
  staticTypes := #[]
  resolved := Array.replicate 8 none
  statics := none }

def pool5 : Array CpInfo := pool [(1, u "java/io/Serializable"), (0, .class_ 1), (0, u "java/lang/Object"), (0, .class_ 3)] 3

/-- java/io/Serializable -/
def k5 : Class := { plain "java/io/Serializable" (some 0) with
  accessFlags := 1537
  interfaces := #[]
  cf := some (fileOf pool5 2 #[] #[] 1537 4 #[] #[])
  fields := #[]
  methods := #[]
  instanceTypes := #[]
  staticTypes := #[]
  resolved := Array.replicate 8 none
  statics := none }

/-- the primitive boolean -/
def k6 : Class := { plain "boolean" none with kind := .primitive 'Z', accessFlags := 0x411 }
/-- [Z -/
def k7 : Class := { plain "[Z" (some 0) with kind := .array 6 .boolean, interfaces := #[4, 5], accessFlags := 1041 }

/-- the primitive byte -/
def k8 : Class := { plain "byte" none with kind := .primitive 'B', accessFlags := 0x411 }
/-- [B -/
def k9 : Class := { plain "[B" (some 0) with kind := .array 8 .byte, interfaces := #[4, 5], accessFlags := 1041 }

/-- the primitive int -/
def k10 : Class := { plain "int" none with kind := .primitive 'I', accessFlags := 0x411 }
/-- [I -/
def k11 : Class := { plain "[I" (some 0) with kind := .array 10 .int, interfaces := #[4, 5], accessFlags := 1041 }

/-- the primitive long -/
def k12 : Class := { plain "long" none with kind := .primitive 'J', accessFlags := 0x411 }
/-- [J -/
def k13 : Class := { plain "[J" (some 0) with kind := .array 12 .long, interfaces := #[4, 5], accessFlags := 1041 }

def heap : Heap := #[]
def classes : Array Class := #[k0, k1, k2, k3, k4, k5, k6, k7, k8, k9, k10, k11, k12, k13]
def interned : List (Array UInt16 × Addr) := []
def slotsUsed : Nat := 0
def theMethod : MethodId := ⟨1, 1⟩
def args0 : Array Value := #[.int 10, .long 5, .int 3, .int 4, .int 5]
def aboutOver (below : List Frame) : State where
  vm := { classes := classes, interned := interned.toArray }
  heap := heap
  slotsUsed := slotsUsed
  threads := #[{ frames := .invoking theMethod args0 :: below }]
def below0 : List Frame := [.native { method := ⟨0, 0⟩, args := #[] }]
def about1 : State := aboutOver below0
def p0 : Program := .bare "" "" ""
def e0 : Env := launch0.env 0 0 0
theorem w_frames : about1.frames = Frame.invoking theMethod args0 :: below0 := rfl
set_option maxRecDepth 65536 in
theorem w_args : argsFit about1.vm theMethod args0 = true := by decide +kernel
set_option maxRecDepth 65536 in
theorem w_heap : heapFits about1 = true := by decide +kernel
set_option maxRecDepth 65536 in
theorem w_runnable : about1.curStatus? = some .runnable := by decide +kernel
set_option maxRecDepth 65536 in
theorem w_alone : about1.alone = true := by decide +kernel
set_option maxRecDepth 65536 in
theorem w_named : about1.methodNamed? x = some theMethod := by decide +kernel
set_option maxRecDepth 65536 in
theorem w_hears : about1.hears theMethod below0 = true := by decide +kernel
set_option maxRecDepth 65536 in
theorem w_ripe : about1.ripe theMethod args0 below0 = true := by decide +kernel
theorem w_running : about1.status = .running := rfl
set_option maxRecDepth 65536 in
theorem w_room : about1.hasRoom e0.platform room_1 = true :=
  launch0.hasRoom_least _ room_1 (by decide +kernel) (by decide +kernel) (by decide +kernel) (by decide +kernel) (by decide +kernel) (by decide +kernel)
theorem allAtoms_all (ts : List Jvm.Cond) (a : Array Jvm.Value) (st : Jvm.State) : (allAtoms ts).before a st = ts.all (fun c => c.before a st) := by
  induction ts with
  | nil => rfl
  | cons c t ih =>
    show (Jvm.Cond.and c (allAtoms t)).before a st = _
    rw [Jvm.Cond.before_and, ih, List.all_cons]
def words1 : List Jvm.Cond := Jvm.Cond.code x code maxLocals ret :: tables_1
/-- a 'code' word, met by the world's own term for the bytes: nothing is compared byte by byte -/
theorem code_word {y : MethodName} {bytes : ByteArray} {mx : Nat} {rt : Option FieldType} {a : Array Value} {s : State} {m : MethodId} {meth : Method} {c : Code} (h1 : s.methodNamed? y = some m) (h2 : s.vm.method? m = some meth) (h3 : meth.code = some c) (h4 : c.code = bytes)
    (h5 : (c.maxLocals == mx && c.exceptionTable.isEmpty && decide (c.maxStack ≤ mostOperands) && decide (meth.sig.returnType = rt) && !meth.locks && decide (parseMethodDescriptor y.desc = some meth.sig)) = true) : (Jvm.Cond.code y bytes mx rt).before a s = true := by
  simp only [Bool.and_eq_true, beq_iff_eq, Bool.not_eq_true', decide_eq_true_eq] at h5
  obtain ⟨⟨⟨⟨⟨g1, g2⟩, g3⟩, g4⟩, g5⟩, g6⟩ := h5
  simp [Cond.before, Cond.holds, Cond.value, h1, h2, h3, h4, g1, g2, g3, g4, g5, g6]
def isCode : Jvm.Cond → Bool
  | .code _ _ _ _ => true
  | _ => false
theorem all_split {L : List Jvm.Cond} {P : Jvm.Cond → Bool} (h1 : L.all (fun c => isCode c || P c) = true) (h2 : ∀ c ∈ L.filter isCode, P c = true) : L.all P = true := by
  refine List.all_eq_true.mpr fun c hc => ?_
  have h := List.all_eq_true.mp h1 c hc
  rcases Bool.eq_false_or_eq_true (isCode c) with hi | hi
  · exact h2 c (List.mem_filter.mpr ⟨hc, hi⟩)
  · simpa [hi] using h
set_option maxRecDepth 65536 in
theorem w_c0 : (Jvm.Cond.code x code maxLocals ret).before args0 about1 = true := code_word (m := ⟨1, 1⟩) (meth := k1m1) (c := k1c1) (by decide +kernel) rfl rfl rfl (by decide +kernel)
set_option maxRecDepth 65536 in
theorem w_c1 : (Jvm.Cond.code ({ cls := "java/lang/Math", name := "max", desc := "(II)I" } : Jvm.MethodName) jdk_29_method_65_code (2 : Nat) (Option.some Jvm.ClassFile.FieldType.int)).before args0 about1 = true := code_word (m := ⟨2, 1⟩) (meth := k2m1) (c := k2c1) (by decide +kernel) rfl rfl rfl (by decide +kernel)
set_option maxRecDepth 65536 in
theorem w_c2 : (Jvm.Cond.code ({ cls := "com/example/umbel/umbel/query/OccurrencesFirstUnusedAfterPinLaw", name := "next", desc := "(IJI)I" } : Jvm.MethodName) method_3_code (7 : Nat) (Option.some Jvm.ClassFile.FieldType.int)).before args0 about1 = true := code_word (m := ⟨1, 2⟩) (meth := k1m2) (c := k1c2) (by decide +kernel) rfl rfl rfl (by decide +kernel)
set_option maxRecDepth 65536 in
theorem w_c3 : (Jvm.Cond.code ({ cls := "java/lang/Math", name := "min", desc := "(JJ)J" } : Jvm.MethodName) jdk_29_method_70_code (4 : Nat) (Option.some Jvm.ClassFile.FieldType.long)).before args0 about1 = true := code_word (m := ⟨2, 4⟩) (meth := k2m4) (c := k2c4) (by decide +kernel) rfl rfl rfl (by decide +kernel)
set_option maxRecDepth 65536 in
theorem w_c4 : (Jvm.Cond.code ({ cls := "java/lang/Math", name := "min", desc := "(II)I" } : Jvm.MethodName) jdk_29_method_69_code (2 : Nat) (Option.some Jvm.ClassFile.FieldType.int)).before args0 about1 = true := code_word (m := ⟨2, 3⟩) (meth := k2m3) (c := k2c3) (by decide +kernel) rfl rfl rfl (by decide +kernel)
set_option maxRecDepth 65536 in
theorem w_c5 : (Jvm.Cond.code ({ cls := "com/example/umbel/umbel/query/Occurrences", name := "<init>", desc := "()V" } : Jvm.MethodName) prog_113_method_1_code (1 : Nat) (Option.none : Option Jvm.ClassFile.FieldType)).before args0 about1 = true := code_word (m := ⟨3, 0⟩) (meth := k3m0) (c := k3c0) (by decide +kernel) rfl rfl rfl (by decide +kernel)
set_option maxRecDepth 65536 in
theorem w_c6 : (Jvm.Cond.code ({ cls := "java/lang/Object", name := "<init>", desc := "()V" } : Jvm.MethodName) object_method_1_code (1 : Nat) (Option.none : Option Jvm.ClassFile.FieldType)).before args0 about1 = true := code_word (m := ⟨0, 0⟩) (meth := k0m0) (c := k0c0) (by decide +kernel) rfl rfl rfl (by decide +kernel)
set_option maxRecDepth 65536 in
theorem w_c7 : (Jvm.Cond.code ({ cls := "com/example/umbel/umbel/query/OccurrencesFirstUnusedAfterPinLaw", name := "end", desc := "(II)I" } : Jvm.MethodName) method_4_code (2 : Nat) (Option.some Jvm.ClassFile.FieldType.int)).before args0 about1 = true := code_word (m := ⟨1, 3⟩) (meth := k1m3) (c := k1c3) (by decide +kernel) rfl rfl rfl (by decide +kernel)
set_option maxRecDepth 65536 in
theorem w_c8 : (Jvm.Cond.code ({ cls := "com/example/umbel/umbel/query/Occurrences", name := "add", desc := "(II)V" } : Jvm.MethodName) prog_113_method_3_code (3 : Nat) (Option.none : Option Jvm.ClassFile.FieldType)).before args0 about1 = true := code_word (m := ⟨3, 1⟩) (meth := k3m1) (c := k3c1) (by decide +kernel) rfl rfl rfl (by decide +kernel)
set_option maxRecDepth 65536 in
theorem w_c9 : (Jvm.Cond.code ({ cls := "com/example/umbel/umbel/query/Occurrences", name := "extent", desc := "(II)J" } : Jvm.MethodName) prog_113_method_11_code (2 : Nat) (Option.some Jvm.ClassFile.FieldType.long)).before args0 about1 = true := code_word (m := ⟨3, 4⟩) (meth := k3m4) (c := k3c4) (by decide +kernel) rfl rfl rfl (by decide +kernel)
set_option maxRecDepth 65536 in
theorem w_c10 : (Jvm.Cond.code ({ cls := "com/example/umbel/umbel/query/Occurrences", name := "firstUnusedAfter", desc := "(I)I" } : Jvm.MethodName) prog_113_method_10_code (7 : Nat) (Option.some Jvm.ClassFile.FieldType.int)).before args0 about1 = true := code_word (m := ⟨3, 3⟩) (meth := k3m3) (c := k3c3) (by decide +kernel) rfl rfl rfl (by decide +kernel)
set_option maxRecDepth 65536 in
theorem w_c11 : (Jvm.Cond.code ({ cls := "java/lang/Math", name := "max", desc := "(JJ)J" } : Jvm.MethodName) jdk_29_method_66_code (4 : Nat) (Option.some Jvm.ClassFile.FieldType.long)).before args0 about1 = true := code_word (m := ⟨2, 2⟩) (meth := k2m2) (c := k2c2) (by decide +kernel) rfl rfl rfl (by decide +kernel)
set_option maxRecDepth 65536 in
theorem w_c12 : (Jvm.Cond.code ({ cls := "com/example/umbel/umbel/query/Occurrences", name := "markUsed", desc := "(I)V" } : Jvm.MethodName) prog_113_method_9_code (2 : Nat) (Option.none : Option Jvm.ClassFile.FieldType)).before args0 about1 = true := code_word (m := ⟨3, 2⟩) (meth := k3m2) (c := k3c2) (by decide +kernel) rfl rfl rfl (by decide +kernel)
def codes1 : List Jvm.Cond := [Jvm.Cond.code x code maxLocals ret, Jvm.Cond.code ({ cls := "java/lang/Math", name := "max", desc := "(II)I" } : Jvm.MethodName) jdk_29_method_65_code (2 : Nat) (Option.some Jvm.ClassFile.FieldType.int), Jvm.Cond.code ({ cls := "com/example/umbel/umbel/query/OccurrencesFirstUnusedAfterPinLaw", name := "next", desc := "(IJI)I" } : Jvm.MethodName) method_3_code (7 : Nat) (Option.some Jvm.ClassFile.FieldType.int), Jvm.Cond.code ({ cls := "java/lang/Math", name := "min", desc := "(JJ)J" } : Jvm.MethodName) jdk_29_method_70_code (4 : Nat) (Option.some Jvm.ClassFile.FieldType.long), Jvm.Cond.code ({ cls := "java/lang/Math", name := "min", desc := "(II)I" } : Jvm.MethodName) jdk_29_method_69_code (2 : Nat) (Option.some Jvm.ClassFile.FieldType.int), Jvm.Cond.code ({ cls := "com/example/umbel/umbel/query/Occurrences", name := "<init>", desc := "()V" } : Jvm.MethodName) prog_113_method_1_code (1 : Nat) (Option.none : Option Jvm.ClassFile.FieldType), Jvm.Cond.code ({ cls := "java/lang/Object", name := "<init>", desc := "()V" } : Jvm.MethodName) object_method_1_code (1 : Nat) (Option.none : Option Jvm.ClassFile.FieldType), Jvm.Cond.code ({ cls := "com/example/umbel/umbel/query/OccurrencesFirstUnusedAfterPinLaw", name := "end", desc := "(II)I" } : Jvm.MethodName) method_4_code (2 : Nat) (Option.some Jvm.ClassFile.FieldType.int), Jvm.Cond.code ({ cls := "com/example/umbel/umbel/query/Occurrences", name := "add", desc := "(II)V" } : Jvm.MethodName) prog_113_method_3_code (3 : Nat) (Option.none : Option Jvm.ClassFile.FieldType), Jvm.Cond.code ({ cls := "com/example/umbel/umbel/query/Occurrences", name := "extent", desc := "(II)J" } : Jvm.MethodName) prog_113_method_11_code (2 : Nat) (Option.some Jvm.ClassFile.FieldType.long), Jvm.Cond.code ({ cls := "com/example/umbel/umbel/query/Occurrences", name := "firstUnusedAfter", desc := "(I)I" } : Jvm.MethodName) prog_113_method_10_code (7 : Nat) (Option.some Jvm.ClassFile.FieldType.int), Jvm.Cond.code ({ cls := "java/lang/Math", name := "max", desc := "(JJ)J" } : Jvm.MethodName) jdk_29_method_66_code (4 : Nat) (Option.some Jvm.ClassFile.FieldType.long), Jvm.Cond.code ({ cls := "com/example/umbel/umbel/query/Occurrences", name := "markUsed", desc := "(I)V" } : Jvm.MethodName) prog_113_method_9_code (2 : Nat) (Option.none : Option Jvm.ClassFile.FieldType)]
set_option maxRecDepth 65536 in
theorem codes_eq : words1.filter isCode = codes1 := rfl
theorem w_codes : ∀ c ∈ words1.filter isCode, c.before args0 about1 = true := by
  rw [codes_eq]
  intro c hc
  simp only [codes1, List.mem_cons, List.not_mem_nil, or_false] at hc
  rcases hc with rfl | rfl | rfl | rfl | rfl | rfl | rfl | rfl | rfl | rfl | rfl | rfl | rfl
  · exact w_c0
  · exact w_c1
  · exact w_c2
  · exact w_c3
  · exact w_c4
  · exact w_c5
  · exact w_c6
  · exact w_c7
  · exact w_c8
  · exact w_c9
  · exact w_c10
  · exact w_c11
  · exact w_c12
set_option maxRecDepth 65536 in
theorem w_t1 : (words1.take 24).all (fun c => isCode c || c.before args0 about1) = true := by decide +kernel
set_option maxRecDepth 65536 in
theorem w_t2 : ((words1.drop 24).take 24).all (fun c => isCode c || c.before args0 about1) = true := by decide +kernel
set_option maxRecDepth 65536 in
theorem w_t3 : ((words1.drop 24).drop 24).all (fun c => isCode c || c.before args0 about1) = true := by decide +kernel
theorem w_tables : (allAtoms (Jvm.Cond.code x code maxLocals ret :: tables_1)).before args0 about1 = true := by
  rw [allAtoms_all]
  show words1.all (fun c => c.before args0 about1) = true
  refine all_split ?_ w_codes
  rw [← List.take_append_drop 24 words1, List.all_append, w_t1, ← List.take_append_drop 24 (words1.drop 24), List.all_append, w_t2, w_t3]
  rfl
set_option maxRecDepth 65536 in
theorem w_case : (Jvm.Cond.and given_1 narrow_1).before args0 about1 = true := by decide +kernel
theorem w_applies : (headSpec (Jvm.Cond.code x code maxLocals ret :: tables_1) room_1).applies x e0.platform about1 = true :=
  (Spec.applies_iff w_frames).mpr ⟨w_running, w_runnable, w_alone, w_named, w_hears, w_ripe, w_room, w_tables⟩
theorem atStart : AtStart classFile x code maxLocals ret World_1 tables_1 room_1 Calls_1 rest_1 Pre_1 launch0 p0 e0 about1 theMethod args0 below0 :=
  ⟨lists_1, trivial, launch0.admits_env _ _ _, launch0.least_env, fairChoices_fair.cas, fairChoices_fair.clock, w_frames, w_args, w_heap, w_applies, trivial, trivial, w_case⟩
end start1
theorem witness_1 : WitnessClaimed_1 := ⟨start1.p0, start1.e0, start1.about1, start1.theMethod, start1.args0, start1.below0, start1.atStart⟩
end Jvm.Pilot.@@N@@
