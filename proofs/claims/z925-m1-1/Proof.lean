import JvmDerived
import JvmDerived.Pilot.@@N@@Statement
import JvmDerived.Pilot.@@N@@Code
set_option linter.unusedVariables false
set_option linter.unusedSimpArgs false

namespace Jvm.RoadKit
open Sem ClassFile Op Lib Jvm.Stand Jvm.Free Jvm.LawKit
section New
variable {p : Program} {l : Launch} {e : Env} {R : Room} {s : State} {m : MethodId} {args : Array Value} {below : List Frame} {meth : Method} {c : Code} {T : State} {locs : List Loc} {cells slots : Nat}
theorem retI (X : Stand p l e R s m args below meth c T locs cells slots) (hx : p.tables.exec = Jvm.exec) {pc : Nat} {Ls : Array Slot} {z : Int32} {rest : List Value} (hret : meth.sig.returnType = some .int) (hd : decode c.code pc = .ok (.ireturn, 1)) {fs : List Frame}
    (hl : ∀ (f : JFrame) (acts : List Action), f.method = m → f.locked = none → f.entered = [] → (doReturn e (T.setTop f) acts (some (.int z))).1 = T.setFrames fs) : Steps p.tables e below (T.setTop (mkF m pc Ls (.int z :: rest))) (T.setFrames fs) := by
  have hm' : T.vm.method? m = some meth := X.method'
  have hn : narrow .int (.int z) = .int z := rfl
  show Steps p.tables e below (T.setTop { method := m, pc := pc, locals := Ls, stack := _ :: rest, locked := none }) _
  jvm_step X.here [X.here.top, hx, hd, hm', hret, hn]
  first | (intro acts; rw [hl _ acts rfl rfl rfl]) | rw [hl _ _ rfl rfl rfl]
  exact Steps.refl _
end New
end Jvm.RoadKit
namespace Jvm.Pilot.@@N@@
open Jvm Jvm.ClassFile Sem Op Lib Jvm.Free Jvm.Stand Jvm.LawKit Jvm.RoadKit Bundle Jvm.Pilot.@@N@@.Jvm.D
/-- from A the run comes to B -/
abbrev Wy (tb : Tables) (e : Env) (below : List Frame) (A B : State) : Prop := ∀ t, Steps tb e below B t → Steps tb e below A t
theorem own_nat {c : Int32} (h : 0 ≤ c.toInt) : c = Int32.ofNat c.toInt.toNat := by
  apply Int32.toInt_inj.mp
  have h1 := c.toInt_lt
  rw [Int32.toInt_ofNat_of_lt (by omega)]
  omega
theorem own_lt {a b : Int32} : a < b ↔ a.toInt < b.toInt := Int32.lt_iff_toInt_lt
theorem own_ltF (k : Nat) (c : Int32) (h0 : 0 ≤ c.toInt) (h1 : c.toInt < k) : ∃ n : Fin k, c = Int32.ofNat n.val :=
  ⟨⟨c.toInt.toNat, by omega⟩, own_nat h0⟩
theorem own_rem (x y : Int32) (hx : 0 ≤ x.toInt) (hy : 0 < y.toInt) : (x - (x / y) * y).toInt = x.toInt % y.toInt := by
  have h1 := (c_idiv x y y.toInt rfl (by intro h; rw [h] at hy; exact absurd hy (by decide))).1 hx
  have h2 := c_imul (x / y) y
  have h3 := c_isub x ((x / y) * y)
  have r1 := rng32 ((x / y) * y)
  have r2 := rng32 (x - (x / y) * y)
  have r3 := rng32 x
  have r4 := rng32 y
  have e : x.toInt / y.toInt * y.toInt = x.toInt - x.toInt % y.toInt := by
    have := Int.emod_def x.toInt y.toInt
    rw [Int.mul_comm] at this
    omega
  rw [h1, e] at h2
  have b1 := Int.emod_nonneg x.toInt (show y.toInt ≠ 0 by omega)
  have b2 := Int.emod_lt_of_pos x.toInt hy
  have b3 : x.toInt % y.toInt ≤ x.toInt := by
    by_cases q : x.toInt < y.toInt
    · rw [Int.emod_eq_of_lt hx q]; omega
    · omega
  omega
theorem own_nm {a b : Addr} (h : a ≠ b) : a ∉ [b] := by simpa using h
theorem own_nm2 {a b c : Addr} (h : a ≠ b) (h2 : a ≠ c) : a ∉ [b, c] := by simp [h, h2]

/-- a function turned at one place -/
def own_upd {α : Type} (f : Nat → α) (k : Nat) (v : α) : Nat → α := fun j => if j = k then v else f j
/-- the array at ad holds mk (f 0) .. mk (f (n - 1)) -/
def own_Ar {α : Type} (mk : α → Value) (ty : FieldType) (Z : State) (h : Heap) (ad : Addr) (n : Nat) (f : Nat → α) : Prop :=
  ∃ cl : Cell, Arr Z h ad cl ty ∧ cl.slots.size = n ∧ ∀ k, k < n → cl.slots[k]? = some (mk (f k))
theorem own_Ar.ext {α : Type} {mk : α → Value} {ty : FieldType} {Z : State} {h h' : Heap} {ad : Addr} {n : Nat} {f : Nat → α} (I : own_Ar mk ty Z h ad n f) (E : Ext h h') : own_Ar mk ty Z h' ad n f := by
  obtain ⟨cl, A, r⟩ := I; exact ⟨cl, A.ext E, r⟩
theorem own_Ar.other {α : Type} {mk : α → Value} {ty : FieldType} {Z : State} {h h' : Heap} {ad b : Addr} {sl : Nat} {v : Value} {n : Nat} {f : Nat → α} (I : own_Ar mk ty Z h ad n f) (W : Wr h h' b sl v) (q : ad ≠ b) : own_Ar mk ty Z h' ad n f := by
  obtain ⟨cl, A, r⟩ := I; exact ⟨cl, A.other W q, r⟩
theorem own_Ar.keep {α : Type} {mk : α → Value} {ty : FieldType} {Z : State} {h h' : Heap} {ad : Addr} {ws : List Addr} {n : Nat} {f : Nat → α} (I : own_Ar mk ty Z h ad n f) (K : Keep h h' ws) (q : ad ∉ ws) : own_Ar mk ty Z h' ad n f := by
  obtain ⟨cl, A, r⟩ := I; exact ⟨cl, ⟨K.2.1 ad cl A.1 q, A.2⟩, r⟩
theorem own_Ar.lt {α : Type} {mk : α → Value} {ty : FieldType} {Z : State} {h : Heap} {ad : Addr} {n : Nat} {f : Nat → α} (I : own_Ar mk ty Z h ad n f) : ad < h.size := by
  obtain ⟨cl, A, r⟩ := I; exact A.lt
theorem own_Ar.same {α : Type} {mk : α → Value} {ty : FieldType} {Z : State} {h : Heap} {ad : Addr} {n : Nat} {f g : Nat → α} (I : own_Ar mk ty Z h ad n f) (e : ∀ k, k < n → f k = g k) : own_Ar mk ty Z h ad n g := by
  obtain ⟨cl, A, s, r⟩ := I; exact ⟨cl, A, s, fun k hk => by rw [r k hk, e k hk]⟩
theorem own_ofN {n : Nat} (h : n < 2147483648) : (Int32.ofNat n).toInt = n := Int32.toInt_ofNat_of_lt h
theorem own_ofC {n : Nat} (h : n < 2147483648) : (Int32.ofNat n).toNatClampNeg = n := Int32.toNatClampNeg_ofNat_of_lt h
theorem own_one (i : Nat) : Int32.ofNat i + (1 : Int32) = Int32.ofNat (i + 1) := (Int32.ofNat_add i 1).symm
theorem own_ltN {i t : Nat} (hi : i < 2147483648) (ht : t < 2147483648) : Int32.ofNat i < Int32.ofNat t ↔ i < t := by
  rw [Int32.lt_iff_toInt_lt, own_ofN hi, own_ofN ht]; omega
theorem own_Ar.at {α : Type} {mk : α → Value} {ty : FieldType} {Z : State} {h : Heap} {ad : Addr} {n : Nat} {f : Nat → α} (I : own_Ar mk ty Z h ad n f) {j : Int32} {k : Nat} (hj : j = Int32.ofNat k) (hk : k < n) (hn : n < 2147483648) :
    ∃ cl : Cell, Arr Z h ad cl ty ∧ (¬ (j < 0 ∨ cl.slots.size ≤ j.toNatClampNeg)) ∧ cl.slots[j.toNatClampNeg]? = some (mk (f k)) ∧ ∀ (h' : Heap) (v : α), Wr h h' ad j.toNatClampNeg (mk v) → own_Ar mk ty Z h' ad n (own_upd f k v) := by
  obtain ⟨cl, A, s, r⟩ := I
  have e : j.toNatClampNeg = k := by rw [hj]; exact own_ofC (by omega)
  have z : (0 : Int32).toInt = 0 := rfl
  refine ⟨cl, A, ?_, by rw [e]; exact r k hk, fun h' v W => ⟨_, A.same W, by rw [sz_set]; exact s, fun i hi => ?_⟩⟩
  · rw [e, s, Int32.lt_iff_toInt_lt, hj, own_ofN (by omega)]; omega
  · show (cl.slots.setIfInBounds j.toNatClampNeg (mk v))[i]? = some (mk (if i = k then v else f i))
    rw [e]
    by_cases q : i = k
    · subst q
      rw [if_pos rfl, Array.getElem?_setIfInBounds_self_of_lt (by omega)]
    · rw [if_neg q, Array.getElem?_setIfInBounds_ne (by omega)]
      exact r i hi
theorem own_Ar.ofInt {Z : State} {h : Heap} {a : Addr} {k : ClassId} {z : Int32} {n : Nat} (V : Arv Z h a k .int z [] (.int 0)) (hz : z.toNatClampNeg = n) : own_Ar Value.int .int Z h a n (fun _ => (0 : Int32)) := by
  obtain ⟨cl, A, -, S, -, H, -⟩ := V
  exact ⟨cl, A, by rw [S, hz], fun k hk => by rw [H k (by rw [S, hz]; exact hk)]; rfl⟩
theorem own_Ar.ofLong {Z : State} {h : Heap} {a : Addr} {k : ClassId} {z : Int32} {n : Nat} (V : Arv Z h a k .long z [] (.long 0)) (hz : z.toNatClampNeg = n) : own_Ar Value.long .long Z h a n (fun _ => (0 : Int64)) := by
  obtain ⟨cl, A, -, S, -, H, -⟩ := V
  exact ⟨cl, A, by rw [S, hz], fun k hk => by rw [H k (by rw [S, hz]; exact hk)]; rfl⟩

/-- a long as an unsigned number -/
def own_u (x : Int64) : Nat := x.toBitVec.toNat
theorem own_ult (x : Int64) : own_u x < 18446744073709551616 := x.toBitVec.isLt
theorem own_nn (x : Int64) : x.toInt % 18446744073709551616 = (own_u x : Int) := by
  have h : x.toInt = x.toBitVec.toInt := rfl
  have q := BitVec.toInt_eq_toNat_cond (x := x.toBitVec)
  have b := x.toBitVec.isLt
  unfold own_u
  rw [h, q]
  split <;> omega
theorem own_uadd (x y : Int64) : own_u (x + y) = (own_u x + own_u y) % 18446744073709551616 := by
  have a := own_nn x
  have b := own_nn y
  have c := own_nn (x + y)
  have d := c_ladd x y
  omega
theorem own_usub (x y : Int64) : own_u (x - y) = (own_u x + 18446744073709551616 - own_u y) % 18446744073709551616 := by
  have a := own_nn x
  have b := own_nn y
  have c := own_nn (x - y)
  have d := c_lsub x y
  have e := own_ult y
  omega
/-- the five words as one number -/
def own_K (k : Nat → Int64) : Nat := own_u (k 0) + own_u (k 1) * 18446744073709551616 + own_u (k 2) * 340282366920938463463374607431768211456 + own_u (k 3) * 6277101735386680763835789423207666416102355444464034512896 + own_u (k 4) * 115792089237316195423570985008687907853269984665640564039457584007913129639936
/-- the place's worth -/
def own_P : Nat → Nat
  | 0 => 1
  | 1 => 18446744073709551616
  | 2 => 340282366920938463463374607431768211456
  | 3 => 6277101735386680763835789423207666416102355444464034512896
  | 4 => 115792089237316195423570985008687907853269984665640564039457584007913129639936
  | _ => 2135987035920910082395021706169552114602704522356652769947041607822219725780640550022962086936576
theorem own_PP (w : Nat) (h : w < 5) : own_P (w + 1) = own_P w * 18446744073709551616 := by
  match w, h with
  | 0, _ => rfl
  | 1, _ => rfl
  | 2, _ => rfl
  | 3, _ => rfl
  | 4, _ => rfl
theorem own_Kupd (k : Nat → Int64) (w : Nat) (v : Int64) (h : w < 5) : own_K (own_upd k w v) + own_u (k w) * own_P w = own_K k + own_u v * own_P w := by
  match w, h with
  | 0, _ => simp only [own_K, own_upd, own_P, if_true, reduceIte, Nat.reduceEqDiff]; omega
  | 1, _ => simp only [own_K, own_upd, own_P, if_true, reduceIte, Nat.reduceEqDiff]; omega
  | 2, _ => simp only [own_K, own_upd, own_P, if_true, reduceIte, Nat.reduceEqDiff]; omega
  | 3, _ => simp only [own_K, own_upd, own_P, if_true, reduceIte, Nat.reduceEqDiff]; omega
  | 4, _ => simp only [own_K, own_upd, own_P, if_true, reduceIte, Nat.reduceEqDiff]; omega
theorem own_Klt (k : Nat → Int64) : own_K k < own_P 5 := by
  have a := own_ult (k 0)
  have b := own_ult (k 1)
  have c := own_ult (k 2)
  have d := own_ult (k 3)
  have e := own_ult (k 4)
  simp only [own_K, own_P]
  omega
theorem own_Kis (k : Nat → Int64) : own_K k = 2 ^ 255 ↔ k 3 = (-9223372036854775808 : Int64) ∧ (((k 0 ||| k 1) ||| k 2) ||| k 4) = 0 := by
  have a := own_ult (k 0)
  have b := own_ult (k 1)
  have c := own_ult (k 2)
  have d := own_ult (k 3)
  have e := own_ult (k 4)
  have z (x : Int64) : x = 0 ↔ own_u x = 0 := by
    rw [← Int64.toBitVec_inj, ← BitVec.toNat_inj]; rfl
  have m (x : Int64) : x = (-9223372036854775808 : Int64) ↔ own_u x = 9223372036854775808 := by
    rw [← Int64.toBitVec_inj, ← BitVec.toNat_inj]; rfl
  have o (x y : Int64) : own_u (x ||| y) = 0 ↔ own_u x = 0 ∧ own_u y = 0 := by
    unfold own_u
    rw [Int64.toBitVec_or, BitVec.toNat_or, Nat.or_eq_zero_iff]
  rw [m, z, o, o, o]
  simp only [own_K]
  rw [show (2 ^ 255 : Nat) = 57896044618658097711785492504343953926634992332820282019728792003956564819968 from rfl]
  omega

def Flen (ax : Int32) : Int32 := (if (ax &&& (512 : Int32)) = (0 : Int32) then (((ax &&& (2147483647 : Int32)) - ((ax &&& (2147483647 : Int32)) / (257 : Int32)) * (257 : Int32)) - (1 : Int32)) else ((ax &&& (7 : Int32)) - (1 : Int32)))
theorem d1_0 : decode method_3_code 0 = .ok (.iload_n 0, 1) := by decide +kernel
theorem d1_1 : decode method_3_code 1 = .ok (.sipush 512, 3) := by decide +kernel
theorem d1_4 : decode method_3_code 4 = .ok (.iand, 1) := by decide +kernel
theorem d1_5 : decode method_3_code 5 = .ok (.ifCond .eq 10, 3) := by decide +kernel
theorem d1_8 : decode method_3_code 8 = .ok (.iload_n 0, 1) := by decide +kernel
theorem d1_9 : decode method_3_code 9 = .ok (.bipush 7, 2) := by decide +kernel
theorem d1_11 : decode method_3_code 11 = .ok (.iand, 1) := by decide +kernel
theorem d1_12 : decode method_3_code 12 = .ok (.iconst 1, 1) := by decide +kernel
theorem d1_13 : decode method_3_code 13 = .ok (.isub, 1) := by decide +kernel
theorem d1_14 : decode method_3_code 14 = .ok (.ireturn, 1) := by decide +kernel
theorem d1_15 : decode method_3_code 15 = .ok (.iload_n 0, 1) := by decide +kernel
theorem d1_16 : decode method_3_code 16 = .ok (.ldc 30, 2) := by decide +kernel
theorem d1_18 : decode method_3_code 18 = .ok (.iand, 1) := by decide +kernel
theorem d1_19 : decode method_3_code 19 = .ok (.sipush 257, 3) := by decide +kernel
theorem d1_22 : decode method_3_code 22 = .ok (.irem, 1) := by decide +kernel
theorem d1_23 : decode method_3_code 23 = .ok (.iconst 1, 1) := by decide +kernel
theorem d1_24 : decode method_3_code 24 = .ok (.isub, 1) := by decide +kernel
theorem d1_25 : decode method_3_code 25 = .ok (.ireturn, 1) := by decide +kernel
theorem pn_com_example_leafpack_leafpack_CodeTableIsCodePinLaw : plainName "com/example/leafpack/leafpack/CodeTableIsCodePinLaw" = true := by first | (simp [plainName, overriddenIn]; done) | decide +kernel
theorem ef_rm1 (m : MethodId) (ax : Int32)  : entryFrame m #[(.int ax)] 1 = (mkF m 0 #[.val (.int ax)] []) := by first | (simp [entryFrame, mkF, argsToLocals, Value.category]; done) | rfl
def Q1 (Z : State) (ax : Int32) (h0 : Heap) (n0 : Nat) (v : Option Value) (h : Heap) (L : List Loc) : Prop := v = some (.int (Flen ax)) ∧ Fr n0 L ∧ h = h0
set_option maxRecDepth 65536 in
set_option maxHeartbeats 40000000 in
theorem rm1 (l : Launch) (Z : State) (a0 : Array Value) (hw : ∀ d ∈ tables_1, d.before a0 Z = true) (ws : List Jvm.Cond) (ax : Int32) (h0 : Heap) (n0 : Nat) (Z0 : n0 ≤ h0.size)  :
    MetFree l (⟨"com/example/leafpack/leafpack/CodeTableIsCodePinLaw", "len", "(I)I"⟩ : MethodName) (head1 (Jvm.Cond.code (⟨"com/example/leafpack/leafpack/CodeTableIsCodePinLaw", "len", "(I)I"⟩ : MethodName) method_3_code 1 (some .int) :: ws) ({ frames := 0, cells := 0, slots := 0, locals := 0 } : Room)) (fun a U => a = #[(.int ax)] ∧ Z.Warmed39 U.vm ∧ U.heap = h0) (fun _ _ _ _ _ => True) (fun _ U o U' => ∃ v L, o = .returned v ∧ Q1 Z ax h0 n0 v U'.heap L ∧ FrameEnd U o U' L ({ frames := 0, cells := 0, slots := 0, locals := 0 } : Room).cells ({ frames := 0, cells := 0, slots := 0, locals := 0 } : Room).slots) := by
  refine MetFree.of_bodySF (plainFor_of_name pn_com_example_leafpack_leafpack_CodeTableIsCodePinLaw) hisR ?_
  intro p e s m args below meth c s₁ Bd hml0 hP hK
  obtain ⟨rfl, hZ, hh⟩ := hP
  have hx := Bd.exec
  have hby := Bd.bytes
  have hml : c.maxLocals = 1 := hml0
  have hown : s.vm.findClass "com/example/leafpack/leafpack/CodeTableIsCodePinLaw" = some m.cls := by have q := findClass_of_methodNamed Bd.named; exact q
  have hnm := (name_of_methodNamed Bd.named Bd.method).1
  have X0 : Stand p l e ({ frames := 0, cells := 0, slots := 0, locals := 0 } : Room) s m #[(.int ax)] below meth c s₁ [] 0 0 := Stand.of_body Bd
  have e0 : s₁.heap = h0 := by rw [← hh, Bd.state]; rfl
  have N0 := Fr.nil n0
  have P0 : Wy p.tables e below (s₁.setTop (entryFrame m #[(.int ax)] 1)) (s₁.setTop (mkF m 0 #[.val (.int ax)] [])) := fun t k => castTop (ef_rm1 m ax) k
  have P1 : Wy p.tables e below (s₁.setTop (entryFrame m #[(.int ax)] 1)) (s₁.setTop (mkF m 5 #[.val (.int ax)] [(.int (ax &&& (512 : Int32)))])) := fun t k => P0 t (by
    show Steps p.tables e below (s₁.setTop (mkF m 0 #[.val (.int ax)] [])) _
    refine XS.iloadN X0.here hx rfl (hb hby d1_0) rfl  ?_
    show Steps p.tables e below (s₁.setTop (mkF m 1 #[.val (.int ax)] [(.int ax)])) _
    refine XS.sipush X0.here hx rfl (hb hby d1_1) ?_
    show Steps p.tables e below (s₁.setTop (mkF m 4 #[.val (.int ax)] [(.int (512 : Int32)), (.int ax)])) _
    refine XS.iand X0.here hx rfl (hb hby d1_4) rfl ?_
    exact k)
  by_cases hc5_2 : (ax &&& (512 : Int32)) = (0 : Int32)
  · have P3 : Wy p.tables e below (s₁.setTop (entryFrame m #[(.int ax)] 1)) (s₁.setTop (mkF m 25 #[.val (.int ax)] [(.int (((ax &&& (2147483647 : Int32)) - ((ax &&& (2147483647 : Int32)) / (257 : Int32)) * (257 : Int32)) - (1 : Int32)))])) := fun t k => P1 t (by
      show Steps p.tables e below (s₁.setTop (mkF m 5 #[.val (.int ax)] [(.int (ax &&& (512 : Int32)))])) _
      refine XS.ifYes X0.here hx rfl (pc0 := 5) (pc' := 15) rfl (hb hby d1_5) rfl ((if0 _ _).trans (teq hc5_2).1) (by decide) (by decide) ?_
      show Steps p.tables e below (s₁.setTop (mkF m 15 #[.val (.int ax)] [])) _
      refine XS.iloadN X0.here hx rfl (hb hby d1_15) rfl  ?_
      show Steps p.tables e below (s₁.setTop (mkF m 16 #[.val (.int ax)] [(.int ax)])) _
      refine X0.ldcInt hx hown (mvT hZ (hw _ (List.mem_of_getElem? (i := 4) rfl))) (g := (mkF m 16 #[.val (.int ax)] [(.int ax)])) rfl (hb hby d1_16) _ ?_
      show Steps p.tables e below (s₁.setTop (mkF m 18 #[.val (.int ax)] [(.int (2147483647 : Int32)), (.int ax)])) _
      refine XS.iand X0.here hx rfl (hb hby d1_18) rfl ?_
      show Steps p.tables e below (s₁.setTop (mkF m 19 #[.val (.int ax)] [(.int (ax &&& (2147483647 : Int32)))])) _
      refine XS.sipush X0.here hx rfl (hb hby d1_19) ?_
      show Steps p.tables e below (s₁.setTop (mkF m 22 #[.val (.int ax)] [(.int (257 : Int32)), (.int (ax &&& (2147483647 : Int32)))])) _
      refine XS.irem X0.here hx rfl (hb hby d1_22) rfl (by decide) ?_
      show Steps p.tables e below (s₁.setTop (mkF m 23 #[.val (.int ax)] [(.int ((ax &&& (2147483647 : Int32)) - ((ax &&& (2147483647 : Int32)) / (257 : Int32)) * (257 : Int32)))])) _
      refine XS.iconst X0.here hx rfl (hb hby d1_23) ?_
      show Steps p.tables e below (s₁.setTop (mkF m 24 #[.val (.int ax)] [(.int (1 : Int32)), (.int ((ax &&& (2147483647 : Int32)) - ((ax &&& (2147483647 : Int32)) / (257 : Int32)) * (257 : Int32)))])) _
      refine XS.isub X0.here hx rfl (hb hby d1_24) rfl ?_
      exact k)
    obtain ⟨fs, hr, hrun, hended, hW, hsame⟩ := X0.leave (v := some (.int (((ax &&& (2147483647 : Int32)) - ((ax &&& (2147483647 : Int32)) / (257 : Int32)) * (257 : Int32)) - (1 : Int32)))) (fun h => by rw [Bd.returns] at h; cases h)
    refine ⟨_, _, P3 _ ?_, hrun, hended, _, _, rfl, ?_, ⟨_, rfl⟩, hW, hsame.mono (by decide) (by decide)⟩
    · show Steps p.tables e below (s₁.setTop (mkF m 25 #[.val (.int ax)] [(.int (((ax &&& (2147483647 : Int32)) - ((ax &&& (2147483647 : Int32)) / (257 : Int32)) * (257 : Int32)) - (1 : Int32)))])) _
      exact retI X0 hx Bd.returns (hb hby d1_25) hr
    · show Q1 Z ax h0 n0 _ s₁.heap _
      rw [e0]
      exact ⟨congrArg (fun z => some (Value.int z)) (show _ = Flen ax from by simp only [Flen, if_pos hc5_2]; try rfl), N0, rfl⟩
  · have P4 : Wy p.tables e below (s₁.setTop (entryFrame m #[(.int ax)] 1)) (s₁.setTop (mkF m 14 #[.val (.int ax)] [(.int ((ax &&& (7 : Int32)) - (1 : Int32)))])) := fun t k => P1 t (by
      show Steps p.tables e below (s₁.setTop (mkF m 5 #[.val (.int ax)] [(.int (ax &&& (512 : Int32)))])) _
      refine XS.ifNo X0.here hx rfl (hb hby d1_5) rfl ((if0 _ _).trans (feq hc5_2).1) ?_
      show Steps p.tables e below (s₁.setTop (mkF m 8 #[.val (.int ax)] [])) _
      refine XS.iloadN X0.here hx rfl (hb hby d1_8) rfl  ?_
      show Steps p.tables e below (s₁.setTop (mkF m 9 #[.val (.int ax)] [(.int ax)])) _
      refine XS.bipush X0.here hx rfl (hb hby d1_9) ?_
      show Steps p.tables e below (s₁.setTop (mkF m 11 #[.val (.int ax)] [(.int (7 : Int32)), (.int ax)])) _
      refine XS.iand X0.here hx rfl (hb hby d1_11) rfl ?_
      show Steps p.tables e below (s₁.setTop (mkF m 12 #[.val (.int ax)] [(.int (ax &&& (7 : Int32)))])) _
      refine XS.iconst X0.here hx rfl (hb hby d1_12) ?_
      show Steps p.tables e below (s₁.setTop (mkF m 13 #[.val (.int ax)] [(.int (1 : Int32)), (.int (ax &&& (7 : Int32)))])) _
      refine XS.isub X0.here hx rfl (hb hby d1_13) rfl ?_
      exact k)
    obtain ⟨fs, hr, hrun, hended, hW, hsame⟩ := X0.leave (v := some (.int ((ax &&& (7 : Int32)) - (1 : Int32)))) (fun h => by rw [Bd.returns] at h; cases h)
    refine ⟨_, _, P4 _ ?_, hrun, hended, _, _, rfl, ?_, ⟨_, rfl⟩, hW, hsame.mono (by decide) (by decide)⟩
    · show Steps p.tables e below (s₁.setTop (mkF m 14 #[.val (.int ax)] [(.int ((ax &&& (7 : Int32)) - (1 : Int32)))])) _
      exact retI X0 hx Bd.returns (hb hby d1_14) hr
    · show Q1 Z ax h0 n0 _ s₁.heap _
      rw [e0]
      exact ⟨congrArg (fun z => some (Value.int z)) (show _ = Flen ax from by simp only [Flen, if_neg hc5_2]; try rfl), N0, rfl⟩
def Fterm (ax : Int32) : Int64 := (if ax < (0 : Int32) then (0 : Int64) else (if (60 : Int32) < ax then (0 : Int64) else ((1 : Int64) <<< (((60 : Int32) - ax) &&& 0x3f).toInt64)))
theorem d11_0 : decode method_4_code 0 = .ok (.iload_n 0, 1) := by decide +kernel
theorem d11_1 : decode method_4_code 1 = .ok (.ifCond .lt 9, 3) := by decide +kernel
theorem d11_4 : decode method_4_code 4 = .ok (.iload_n 0, 1) := by decide +kernel
theorem d11_5 : decode method_4_code 5 = .ok (.bipush 60, 2) := by decide +kernel
theorem d11_7 : decode method_4_code 7 = .ok (.if_icmp .le 5, 3) := by decide +kernel
theorem d11_10 : decode method_4_code 10 = .ok (.lconst 0, 1) := by decide +kernel
theorem d11_11 : decode method_4_code 11 = .ok (.lreturn, 1) := by decide +kernel
theorem d11_12 : decode method_4_code 12 = .ok (.lconst 1, 1) := by decide +kernel
theorem d11_13 : decode method_4_code 13 = .ok (.bipush 60, 2) := by decide +kernel
theorem d11_15 : decode method_4_code 15 = .ok (.iload_n 0, 1) := by decide +kernel
theorem d11_16 : decode method_4_code 16 = .ok (.isub, 1) := by decide +kernel
theorem d11_17 : decode method_4_code 17 = .ok (.lshl, 1) := by decide +kernel
theorem d11_18 : decode method_4_code 18 = .ok (.lreturn, 1) := by decide +kernel
theorem ef_rm11 (m : MethodId) (ax : Int32)  : entryFrame m #[(.int ax)] 1 = (mkF m 0 #[.val (.int ax)] []) := by first | (simp [entryFrame, mkF, argsToLocals, Value.category]; done) | rfl
def Q11 (Z : State) (ax : Int32) (h0 : Heap) (n0 : Nat) (v : Option Value) (h : Heap) (L : List Loc) : Prop := v = some (.long (Fterm ax)) ∧ Fr n0 L ∧ h = h0
set_option maxRecDepth 65536 in
set_option maxHeartbeats 40000000 in
theorem rm11 (l : Launch) (Z : State) (a0 : Array Value) (hw : ∀ d ∈ tables_1, d.before a0 Z = true) (ws : List Jvm.Cond) (ax : Int32) (h0 : Heap) (n0 : Nat) (Z0 : n0 ≤ h0.size)  :
    MetFree l (⟨"com/example/leafpack/leafpack/CodeTableIsCodePinLaw", "term", "(I)J"⟩ : MethodName) (head1 (Jvm.Cond.code (⟨"com/example/leafpack/leafpack/CodeTableIsCodePinLaw", "term", "(I)J"⟩ : MethodName) method_4_code 1 (some .long) :: ws) ({ frames := 0, cells := 0, slots := 0, locals := 0 } : Room)) (fun a U => a = #[(.int ax)] ∧ Z.Warmed39 U.vm ∧ U.heap = h0) (fun _ _ _ _ _ => True) (fun _ U o U' => ∃ v L, o = .returned v ∧ Q11 Z ax h0 n0 v U'.heap L ∧ FrameEnd U o U' L ({ frames := 0, cells := 0, slots := 0, locals := 0 } : Room).cells ({ frames := 0, cells := 0, slots := 0, locals := 0 } : Room).slots) := by
  refine MetFree.of_bodySF (plainFor_of_name pn_com_example_leafpack_leafpack_CodeTableIsCodePinLaw) hisR ?_
  intro p e s m args below meth c s₁ Bd hml0 hP hK
  obtain ⟨rfl, hZ, hh⟩ := hP
  have hx := Bd.exec
  have hby := Bd.bytes
  have hml : c.maxLocals = 1 := hml0
  have hown : s.vm.findClass "com/example/leafpack/leafpack/CodeTableIsCodePinLaw" = some m.cls := by have q := findClass_of_methodNamed Bd.named; exact q
  have hnm := (name_of_methodNamed Bd.named Bd.method).1
  have X0 : Stand p l e ({ frames := 0, cells := 0, slots := 0, locals := 0 } : Room) s m #[(.int ax)] below meth c s₁ [] 0 0 := Stand.of_body Bd
  have e0 : s₁.heap = h0 := by rw [← hh, Bd.state]; rfl
  have N0 := Fr.nil n0
  have P0 : Wy p.tables e below (s₁.setTop (entryFrame m #[(.int ax)] 1)) (s₁.setTop (mkF m 0 #[.val (.int ax)] [])) := fun t k => castTop (ef_rm11 m ax) k
  have P1 : Wy p.tables e below (s₁.setTop (entryFrame m #[(.int ax)] 1)) (s₁.setTop (mkF m 1 #[.val (.int ax)] [(.int ax)])) := fun t k => P0 t (by
    show Steps p.tables e below (s₁.setTop (mkF m 0 #[.val (.int ax)] [])) _
    refine XS.iloadN X0.here hx rfl (hb hby d11_0) rfl  ?_
    exact k)
  by_cases hc1_2 : ax < (0 : Int32)
  · have P3 : Wy p.tables e below (s₁.setTop (entryFrame m #[(.int ax)] 1)) (s₁.setTop (mkF m 11 #[.val (.int ax)] [(.long (0 : Int64))])) := fun t k => P1 t (by
      show Steps p.tables e below (s₁.setTop (mkF m 1 #[.val (.int ax)] [(.int ax)])) _
      refine XS.ifYes X0.here hx rfl (pc0 := 1) (pc' := 10) rfl (hb hby d11_1) rfl ((if0 _ _).trans (tlt hc1_2).1) (by decide) (by decide) ?_
      show Steps p.tables e below (s₁.setTop (mkF m 10 #[.val (.int ax)] [])) _
      refine XS.lconst X0.here hx rfl (hb hby d11_10) ?_
      exact k)
    obtain ⟨fs, hr, hrun, hended, hW, hsame⟩ := X0.leave (v := some (.long (0 : Int64))) (fun h => by rw [Bd.returns] at h; cases h)
    refine ⟨_, _, P3 _ ?_, hrun, hended, _, _, rfl, ?_, ⟨_, rfl⟩, hW, hsame.mono (by decide) (by decide)⟩
    · show Steps p.tables e below (s₁.setTop (mkF m 11 #[.val (.int ax)] [(.long (0 : Int64))])) _
      exact X0.lreturnOut hx Bd.returns (hb hby d11_11) hr
    · show Q11 Z ax h0 n0 _ s₁.heap _
      rw [e0]
      exact ⟨congrArg (fun z => some (Value.long z)) (show _ = Fterm ax from by simp only [Fterm, if_pos hc1_2]; try rfl), N0, rfl⟩
  · have P4 : Wy p.tables e below (s₁.setTop (entryFrame m #[(.int ax)] 1)) (s₁.setTop (mkF m 7 #[.val (.int ax)] [(.int (60 : Int32)), (.int ax)])) := fun t k => P1 t (by
      show Steps p.tables e below (s₁.setTop (mkF m 1 #[.val (.int ax)] [(.int ax)])) _
      refine XS.ifNo X0.here hx rfl (hb hby d11_1) rfl ((if0 _ _).trans (flt hc1_2).1) ?_
      show Steps p.tables e below (s₁.setTop (mkF m 4 #[.val (.int ax)] [])) _
      refine XS.iloadN X0.here hx rfl (hb hby d11_4) rfl  ?_
      show Steps p.tables e below (s₁.setTop (mkF m 5 #[.val (.int ax)] [(.int ax)])) _
      refine XS.bipush X0.here hx rfl (hb hby d11_5) ?_
      exact k)
    by_cases hc7_5 : (60 : Int32) < ax
    · have P6 : Wy p.tables e below (s₁.setTop (entryFrame m #[(.int ax)] 1)) (s₁.setTop (mkF m 11 #[.val (.int ax)] [(.long (0 : Int64))])) := fun t k => P4 t (by
        show Steps p.tables e below (s₁.setTop (mkF m 7 #[.val (.int ax)] [(.int (60 : Int32)), (.int ax)])) _
        refine XS.icmpNo X0.here hx rfl (hb hby d11_7) rfl (tlt hc7_5).2.2.2 ?_
        show Steps p.tables e below (s₁.setTop (mkF m 10 #[.val (.int ax)] [])) _
        refine XS.lconst X0.here hx rfl (hb hby d11_10) ?_
        exact k)
      obtain ⟨fs, hr, hrun, hended, hW, hsame⟩ := X0.leave (v := some (.long (0 : Int64))) (fun h => by rw [Bd.returns] at h; cases h)
      refine ⟨_, _, P6 _ ?_, hrun, hended, _, _, rfl, ?_, ⟨_, rfl⟩, hW, hsame.mono (by decide) (by decide)⟩
      · show Steps p.tables e below (s₁.setTop (mkF m 11 #[.val (.int ax)] [(.long (0 : Int64))])) _
        exact X0.lreturnOut hx Bd.returns (hb hby d11_11) hr
      · show Q11 Z ax h0 n0 _ s₁.heap _
        rw [e0]
        exact ⟨congrArg (fun z => some (Value.long z)) (show _ = Fterm ax from by simp only [Fterm, if_neg hc1_2, if_pos hc7_5]; try rfl), N0, rfl⟩
    · have P7 : Wy p.tables e below (s₁.setTop (entryFrame m #[(.int ax)] 1)) (s₁.setTop (mkF m 18 #[.val (.int ax)] [(.long ((1 : Int64) <<< (((60 : Int32) - ax) &&& 0x3f).toInt64))])) := fun t k => P4 t (by
        show Steps p.tables e below (s₁.setTop (mkF m 7 #[.val (.int ax)] [(.int (60 : Int32)), (.int ax)])) _
        refine XS.icmpYes X0.here hx rfl (pc0 := 7) (pc' := 12) rfl (hb hby d11_7) rfl (flt hc7_5).2.2.2 (by decide) (by decide) ?_
        show Steps p.tables e below (s₁.setTop (mkF m 12 #[.val (.int ax)] [])) _
        refine XS.lconst X0.here hx rfl (hb hby d11_12) ?_
        show Steps p.tables e below (s₁.setTop (mkF m 13 #[.val (.int ax)] [(.long (1 : Int64))])) _
        refine XS.bipush X0.here hx rfl (hb hby d11_13) ?_
        show Steps p.tables e below (s₁.setTop (mkF m 15 #[.val (.int ax)] [(.int (60 : Int32)), (.long (1 : Int64))])) _
        refine XS.iloadN X0.here hx rfl (hb hby d11_15) rfl  ?_
        show Steps p.tables e below (s₁.setTop (mkF m 16 #[.val (.int ax)] [(.int ax), (.int (60 : Int32)), (.long (1 : Int64))])) _
        refine XS.isub X0.here hx rfl (hb hby d11_16) rfl ?_
        show Steps p.tables e below (s₁.setTop (mkF m 17 #[.val (.int ax)] [(.int ((60 : Int32) - ax)), (.long (1 : Int64))])) _
        refine XS.lshl X0.here hx rfl (hb hby d11_17) rfl ?_
        exact k)
      obtain ⟨fs, hr, hrun, hended, hW, hsame⟩ := X0.leave (v := some (.long ((1 : Int64) <<< (((60 : Int32) - ax) &&& 0x3f).toInt64))) (fun h => by rw [Bd.returns] at h; cases h)
      refine ⟨_, _, P7 _ ?_, hrun, hended, _, _, rfl, ?_, ⟨_, rfl⟩, hW, hsame.mono (by decide) (by decide)⟩
      · show Steps p.tables e below (s₁.setTop (mkF m 18 #[.val (.int ax)] [(.long ((1 : Int64) <<< (((60 : Int32) - ax) &&& 0x3f).toInt64))])) _
        exact X0.lreturnOut hx Bd.returns (hb hby d11_18) hr
      · show Q11 Z ax h0 n0 _ s₁.heap _
        rw [e0]
        exact ⟨congrArg (fun z => some (Value.long z)) (show _ = Fterm ax from by simp only [Fterm, if_neg hc1_2, if_neg hc7_5]; try rfl), N0, rfl⟩
def Fcmp (ax : Int64) (bx : Int64) : Int32 := (if (lcmpW ax bx) < (0 : Int32) then (-1 : Int32) else (if (lcmpW ax bx) = (0 : Int32) then (0 : Int32) else (1 : Int32)))
theorem d8_0 : decode jdk_35_method_42_code 0 = .ok (.lload_n 0, 1) := by decide +kernel
theorem d8_1 : decode jdk_35_method_42_code 1 = .ok (.lload_n 2, 1) := by decide +kernel
theorem d8_2 : decode jdk_35_method_42_code 2 = .ok (.lcmp, 1) := by decide +kernel
theorem d8_3 : decode jdk_35_method_42_code 3 = .ok (.ifCond .ge 7, 3) := by decide +kernel
theorem d8_6 : decode jdk_35_method_42_code 6 = .ok (.iconst (-1), 1) := by decide +kernel
theorem d8_7 : decode jdk_35_method_42_code 7 = .ok (.goto 14, 3) := by decide +kernel
theorem d8_10 : decode jdk_35_method_42_code 10 = .ok (.lload_n 0, 1) := by decide +kernel
theorem d8_11 : decode jdk_35_method_42_code 11 = .ok (.lload_n 2, 1) := by decide +kernel
theorem d8_12 : decode jdk_35_method_42_code 12 = .ok (.lcmp, 1) := by decide +kernel
theorem d8_13 : decode jdk_35_method_42_code 13 = .ok (.ifCond .ne 7, 3) := by decide +kernel
theorem d8_16 : decode jdk_35_method_42_code 16 = .ok (.iconst 0, 1) := by decide +kernel
theorem d8_17 : decode jdk_35_method_42_code 17 = .ok (.goto 4, 3) := by decide +kernel
theorem d8_20 : decode jdk_35_method_42_code 20 = .ok (.iconst 1, 1) := by decide +kernel
theorem d8_21 : decode jdk_35_method_42_code 21 = .ok (.ireturn, 1) := by decide +kernel
theorem pn_java_lang_Long : plainName "java/lang/Long" = true := by first | (simp [plainName, overriddenIn]; done) | decide +kernel
theorem ef_rm8 (m : MethodId) (ax : Int64) (bx : Int64)  : entryFrame m #[(.long ax), (.long bx)] 4 = (mkF m 0 #[.val (.long ax), .second, .val (.long bx), .second] []) := by first | (simp [entryFrame, mkF, argsToLocals, Value.category]; done) | rfl
def Q8 (Z : State) (ax : Int64) (bx : Int64) (h0 : Heap) (n0 : Nat) (v : Option Value) (h : Heap) (L : List Loc) : Prop := v = some (.int (Fcmp ax bx)) ∧ Fr n0 L ∧ h = h0
set_option maxRecDepth 65536 in
set_option maxHeartbeats 40000000 in
theorem rm8 (l : Launch) (Z : State) (a0 : Array Value) (hw : ∀ d ∈ tables_1, d.before a0 Z = true) (ws : List Jvm.Cond) (ax : Int64) (bx : Int64) (h0 : Heap) (n0 : Nat) (Z0 : n0 ≤ h0.size)  :
    MetFree l (⟨"java/lang/Long", "compare", "(JJ)I"⟩ : MethodName) (head1 (Jvm.Cond.code (⟨"java/lang/Long", "compare", "(JJ)I"⟩ : MethodName) jdk_35_method_42_code 4 (some .int) :: ws) ({ frames := 0, cells := 0, slots := 0, locals := 0 } : Room)) (fun a U => a = #[(.long ax), (.long bx)] ∧ Z.Warmed39 U.vm ∧ U.heap = h0) (fun _ _ _ _ _ => True) (fun _ U o U' => ∃ v L, o = .returned v ∧ Q8 Z ax bx h0 n0 v U'.heap L ∧ FrameEnd U o U' L ({ frames := 0, cells := 0, slots := 0, locals := 0 } : Room).cells ({ frames := 0, cells := 0, slots := 0, locals := 0 } : Room).slots) := by
  refine MetFree.of_bodySF (plainFor_of_name pn_java_lang_Long) hisR ?_
  intro p e s m args below meth c s₁ Bd hml0 hP hK
  obtain ⟨rfl, hZ, hh⟩ := hP
  have hx := Bd.exec
  have hby := Bd.bytes
  have hml : c.maxLocals = 4 := hml0
  have hown : s.vm.findClass "java/lang/Long" = some m.cls := by have q := findClass_of_methodNamed Bd.named; exact q
  have hnm := (name_of_methodNamed Bd.named Bd.method).1
  have X0 : Stand p l e ({ frames := 0, cells := 0, slots := 0, locals := 0 } : Room) s m #[(.long ax), (.long bx)] below meth c s₁ [] 0 0 := Stand.of_body Bd
  have e0 : s₁.heap = h0 := by rw [← hh, Bd.state]; rfl
  have N0 := Fr.nil n0
  have P0 : Wy p.tables e below (s₁.setTop (entryFrame m #[(.long ax), (.long bx)] 4)) (s₁.setTop (mkF m 0 #[.val (.long ax), .second, .val (.long bx), .second] [])) := fun t k => castTop (ef_rm8 m ax bx) k
  have P1 : Wy p.tables e below (s₁.setTop (entryFrame m #[(.long ax), (.long bx)] 4)) (s₁.setTop (mkF m 3 #[.val (.long ax), .second, .val (.long bx), .second] [(.int (lcmpW ax bx))])) := fun t k => P0 t (by
    show Steps p.tables e below (s₁.setTop (mkF m 0 #[.val (.long ax), .second, .val (.long bx), .second] [])) _
    refine XS.lloadN X0.here hx rfl (hb hby d8_0) rfl  ?_
    show Steps p.tables e below (s₁.setTop (mkF m 1 #[.val (.long ax), .second, .val (.long bx), .second] [(.long ax)])) _
    refine XS.lloadN X0.here hx rfl (hb hby d8_1) rfl  ?_
    show Steps p.tables e below (s₁.setTop (mkF m 2 #[.val (.long ax), .second, .val (.long bx), .second] [(.long bx), (.long ax)])) _
    refine XS.lcmp X0.here hx rfl (hb hby d8_2) rfl ?_
    exact k)
  by_cases hc3_2 : (lcmpW ax bx) < (0 : Int32)
  · have P3 : Wy p.tables e below (s₁.setTop (entryFrame m #[(.long ax), (.long bx)] 4)) (s₁.setTop (mkF m 21 #[.val (.long ax), .second, .val (.long bx), .second] [(.int (-1 : Int32))])) := fun t k => P1 t (by
      show Steps p.tables e below (s₁.setTop (mkF m 3 #[.val (.long ax), .second, .val (.long bx), .second] [(.int (lcmpW ax bx))])) _
      refine XS.ifNo X0.here hx rfl (hb hby d8_3) rfl ((if0 _ _).trans (tlt hc3_2).2.1) ?_
      show Steps p.tables e below (s₁.setTop (mkF m 6 #[.val (.long ax), .second, .val (.long bx), .second] [])) _
      refine XS.iconst X0.here hx rfl (hb hby d8_6) ?_
      show Steps p.tables e below (s₁.setTop (mkF m 7 #[.val (.long ax), .second, .val (.long bx), .second] [(.int (-1 : Int32))])) _
      refine XS.goto X0.here hx rfl (pc0 := 7) (pc' := 21) rfl (hb hby d8_7) (by decide) (by decide) ?_
      exact k)
    obtain ⟨fs, hr, hrun, hended, hW, hsame⟩ := X0.leave (v := some (.int (-1 : Int32))) (fun h => by rw [Bd.returns] at h; cases h)
    refine ⟨_, _, P3 _ ?_, hrun, hended, _, _, rfl, ?_, ⟨_, rfl⟩, hW, hsame.mono (by decide) (by decide)⟩
    · show Steps p.tables e below (s₁.setTop (mkF m 21 #[.val (.long ax), .second, .val (.long bx), .second] [(.int (-1 : Int32))])) _
      exact retI X0 hx Bd.returns (hb hby d8_21) hr
    · show Q8 Z ax bx h0 n0 _ s₁.heap _
      rw [e0]
      exact ⟨congrArg (fun z => some (Value.int z)) (show _ = Fcmp ax bx from by simp only [Fcmp, if_pos hc3_2]; try rfl), N0, rfl⟩
  · have P4 : Wy p.tables e below (s₁.setTop (entryFrame m #[(.long ax), (.long bx)] 4)) (s₁.setTop (mkF m 13 #[.val (.long ax), .second, .val (.long bx), .second] [(.int (lcmpW ax bx))])) := fun t k => P1 t (by
      show Steps p.tables e below (s₁.setTop (mkF m 3 #[.val (.long ax), .second, .val (.long bx), .second] [(.int (lcmpW ax bx))])) _
      refine XS.ifYes X0.here hx rfl (pc0 := 3) (pc' := 10) rfl (hb hby d8_3) rfl ((if0 _ _).trans (flt hc3_2).2.1) (by decide) (by decide) ?_
      show Steps p.tables e below (s₁.setTop (mkF m 10 #[.val (.long ax), .second, .val (.long bx), .second] [])) _
      refine XS.lloadN X0.here hx rfl (hb hby d8_10) rfl  ?_
      show Steps p.tables e below (s₁.setTop (mkF m 11 #[.val (.long ax), .second, .val (.long bx), .second] [(.long ax)])) _
      refine XS.lloadN X0.here hx rfl (hb hby d8_11) rfl  ?_
      show Steps p.tables e below (s₁.setTop (mkF m 12 #[.val (.long ax), .second, .val (.long bx), .second] [(.long bx), (.long ax)])) _
      refine XS.lcmp X0.here hx rfl (hb hby d8_12) rfl ?_
      exact k)
    by_cases hc13_5 : (lcmpW ax bx) = (0 : Int32)
    · have P6 : Wy p.tables e below (s₁.setTop (entryFrame m #[(.long ax), (.long bx)] 4)) (s₁.setTop (mkF m 21 #[.val (.long ax), .second, .val (.long bx), .second] [(.int (0 : Int32))])) := fun t k => P4 t (by
        show Steps p.tables e below (s₁.setTop (mkF m 13 #[.val (.long ax), .second, .val (.long bx), .second] [(.int (lcmpW ax bx))])) _
        refine XS.ifNo X0.here hx rfl (hb hby d8_13) rfl ((if0 _ _).trans (teq hc13_5).2) ?_
        show Steps p.tables e below (s₁.setTop (mkF m 16 #[.val (.long ax), .second, .val (.long bx), .second] [])) _
        refine XS.iconst X0.here hx rfl (hb hby d8_16) ?_
        show Steps p.tables e below (s₁.setTop (mkF m 17 #[.val (.long ax), .second, .val (.long bx), .second] [(.int (0 : Int32))])) _
        refine XS.goto X0.here hx rfl (pc0 := 17) (pc' := 21) rfl (hb hby d8_17) (by decide) (by decide) ?_
        exact k)
      obtain ⟨fs, hr, hrun, hended, hW, hsame⟩ := X0.leave (v := some (.int (0 : Int32))) (fun h => by rw [Bd.returns] at h; cases h)
      refine ⟨_, _, P6 _ ?_, hrun, hended, _, _, rfl, ?_, ⟨_, rfl⟩, hW, hsame.mono (by decide) (by decide)⟩
      · show Steps p.tables e below (s₁.setTop (mkF m 21 #[.val (.long ax), .second, .val (.long bx), .second] [(.int (0 : Int32))])) _
        exact retI X0 hx Bd.returns (hb hby d8_21) hr
      · show Q8 Z ax bx h0 n0 _ s₁.heap _
        rw [e0]
        exact ⟨congrArg (fun z => some (Value.int z)) (show _ = Fcmp ax bx from by simp only [Fcmp, if_neg hc3_2, if_pos hc13_5]; try rfl), N0, rfl⟩
    · have P7 : Wy p.tables e below (s₁.setTop (entryFrame m #[(.long ax), (.long bx)] 4)) (s₁.setTop (mkF m 21 #[.val (.long ax), .second, .val (.long bx), .second] [(.int (1 : Int32))])) := fun t k => P4 t (by
        show Steps p.tables e below (s₁.setTop (mkF m 13 #[.val (.long ax), .second, .val (.long bx), .second] [(.int (lcmpW ax bx))])) _
        refine XS.ifYes X0.here hx rfl (pc0 := 13) (pc' := 20) rfl (hb hby d8_13) rfl ((if0 _ _).trans (feq hc13_5).2) (by decide) (by decide) ?_
        show Steps p.tables e below (s₁.setTop (mkF m 20 #[.val (.long ax), .second, .val (.long bx), .second] [])) _
        refine XS.iconst X0.here hx rfl (hb hby d8_20) ?_
        exact k)
      obtain ⟨fs, hr, hrun, hended, hW, hsame⟩ := X0.leave (v := some (.int (1 : Int32))) (fun h => by rw [Bd.returns] at h; cases h)
      refine ⟨_, _, P7 _ ?_, hrun, hended, _, _, rfl, ?_, ⟨_, rfl⟩, hW, hsame.mono (by decide) (by decide)⟩
      · show Steps p.tables e below (s₁.setTop (mkF m 21 #[.val (.long ax), .second, .val (.long bx), .second] [(.int (1 : Int32))])) _
        exact retI X0 hx Bd.returns (hb hby d8_21) hr
      · show Q8 Z ax bx h0 n0 _ s₁.heap _
        rw [e0]
        exact ⟨congrArg (fun z => some (Value.int z)) (show _ = Fcmp ax bx from by simp only [Fcmp, if_neg hc3_2, if_neg hc13_5]; try rfl), N0, rfl⟩
def Fcu (ax : Int64) (bx : Int64) : Int32 := (Fcmp (ax + (-9223372036854775808 : Int64)) (bx + (-9223372036854775808 : Int64)))
theorem d7_0 : decode jdk_35_method_43_code 0 = .ok (.lload_n 0, 1) := by decide +kernel
theorem d7_1 : decode jdk_35_method_43_code 1 = .ok (.ldc2_w 168, 3) := by decide +kernel
theorem d7_4 : decode jdk_35_method_43_code 4 = .ok (.ladd, 1) := by decide +kernel
theorem d7_5 : decode jdk_35_method_43_code 5 = .ok (.lload_n 2, 1) := by decide +kernel
theorem d7_6 : decode jdk_35_method_43_code 6 = .ok (.ldc2_w 168, 3) := by decide +kernel
theorem d7_9 : decode jdk_35_method_43_code 9 = .ok (.ladd, 1) := by decide +kernel
theorem d7_10 : decode jdk_35_method_43_code 10 = .ok (.invokestatic 302, 3) := by decide +kernel
theorem d7_13 : decode jdk_35_method_43_code 13 = .ok (.ireturn, 1) := by decide +kernel
theorem pd_lJJrI : parseMethodDescriptor "(JJ)I" = some ⟨[.long, .long], some .int⟩ := by decide +kernel
theorem ef_rm7 (m : MethodId) (ax : Int64) (bx : Int64)  : entryFrame m #[(.long ax), (.long bx)] 4 = (mkF m 0 #[.val (.long ax), .second, .val (.long bx), .second] []) := by first | (simp [entryFrame, mkF, argsToLocals, Value.category]; done) | rfl
def Q7 (Z : State) (ax : Int64) (bx : Int64) (h0 : Heap) (n0 : Nat) (v : Option Value) (h : Heap) (L : List Loc) : Prop := v = some (.int (Fcu ax bx)) ∧ Fr n0 L ∧ h = h0
set_option maxRecDepth 65536 in
set_option maxHeartbeats 40000000 in
theorem rm7 (l : Launch) (Z : State) (a0 : Array Value) (hw : ∀ d ∈ tables_1, d.before a0 Z = true) (ws : List Jvm.Cond) (ax : Int64) (bx : Int64) (h0 : Heap) (n0 : Nat) (Z0 : n0 ≤ h0.size)  :
    MetFree l (⟨"java/lang/Long", "compareUnsigned", "(JJ)I"⟩ : MethodName) (head1 (Jvm.Cond.code (⟨"java/lang/Long", "compareUnsigned", "(JJ)I"⟩ : MethodName) jdk_35_method_43_code 4 (some .int) :: ws) ({ frames := 1, cells := 0, slots := 0, locals := 15 } : Room)) (fun a U => a = #[(.long ax), (.long bx)] ∧ Z.Warmed39 U.vm ∧ U.heap = h0) (fun _ _ _ _ _ => True) (fun _ U o U' => ∃ v L, o = .returned v ∧ Q7 Z ax bx h0 n0 v U'.heap L ∧ FrameEnd U o U' L ({ frames := 1, cells := 0, slots := 0, locals := 15 } : Room).cells ({ frames := 1, cells := 0, slots := 0, locals := 15 } : Room).slots) := by
  refine MetFree.of_bodySF (plainFor_of_name pn_java_lang_Long) hisR ?_
  intro p e s m args below meth c s₁ Bd hml0 hP hK
  obtain ⟨rfl, hZ, hh⟩ := hP
  have hx := Bd.exec
  have hby := Bd.bytes
  have hml : c.maxLocals = 4 := hml0
  have hown : s.vm.findClass "java/lang/Long" = some m.cls := by have q := findClass_of_methodNamed Bd.named; exact q
  have hnm := (name_of_methodNamed Bd.named Bd.method).1
  have X0 : Stand p l e ({ frames := 1, cells := 0, slots := 0, locals := 15 } : Room) s m #[(.long ax), (.long bx)] below meth c s₁ [] 0 0 := Stand.of_body Bd
  have e0 : s₁.heap = h0 := by rw [← hh, Bd.state]; rfl
  have N0 := Fr.nil n0
  have P0 : Wy p.tables e below (s₁.setTop (entryFrame m #[(.long ax), (.long bx)] 4)) (s₁.setTop (mkF m 0 #[.val (.long ax), .second, .val (.long bx), .second] [])) := fun t k => castTop (ef_rm7 m ax bx) k
  have P1 : Wy p.tables e below (s₁.setTop (entryFrame m #[(.long ax), (.long bx)] 4)) (s₁.setTop (mkF m 10 #[.val (.long ax), .second, .val (.long bx), .second] [(.long (bx + (-9223372036854775808 : Int64))), (.long (ax + (-9223372036854775808 : Int64)))])) := fun t k => P0 t (by
    show Steps p.tables e below (s₁.setTop (mkF m 0 #[.val (.long ax), .second, .val (.long bx), .second] [])) _
    refine XS.lloadN X0.here hx rfl (hb hby d7_0) rfl  ?_
    show Steps p.tables e below (s₁.setTop (mkF m 1 #[.val (.long ax), .second, .val (.long bx), .second] [(.long ax)])) _
    refine X0.ldc2Long hx hown (mvT hZ (hw _ (List.mem_of_getElem? (i := 41) rfl))) (g := (mkF m 1 #[.val (.long ax), .second, .val (.long bx), .second] [(.long ax)])) rfl (hb hby d7_1) _ ?_
    show Steps p.tables e below (s₁.setTop (mkF m 4 #[.val (.long ax), .second, .val (.long bx), .second] [(.long (-9223372036854775808 : Int64)), (.long ax)])) _
    refine XS.ladd X0.here hx rfl (hb hby d7_4) rfl ?_
    show Steps p.tables e below (s₁.setTop (mkF m 5 #[.val (.long ax), .second, .val (.long bx), .second] [(.long (ax + (-9223372036854775808 : Int64)))])) _
    refine XS.lloadN X0.here hx rfl (hb hby d7_5) rfl  ?_
    show Steps p.tables e below (s₁.setTop (mkF m 6 #[.val (.long ax), .second, .val (.long bx), .second] [(.long bx), (.long (ax + (-9223372036854775808 : Int64)))])) _
    refine X0.ldc2Long hx hown (mvT hZ (hw _ (List.mem_of_getElem? (i := 41) rfl))) (g := (mkF m 6 #[.val (.long ax), .second, .val (.long bx), .second] [(.long bx), (.long (ax + (-9223372036854775808 : Int64)))])) rfl (hb hby d7_6) _ ?_
    show Steps p.tables e below (s₁.setTop (mkF m 9 #[.val (.long ax), .second, .val (.long bx), .second] [(.long (-9223372036854775808 : Int64)), (.long bx), (.long (ax + (-9223372036854775808 : Int64)))])) _
    refine XS.ladd X0.here hx rfl (hb hby d7_9) rfl ?_
    exact k)
  obtain ⟨_, _, ⟨T2, L2, k2, n2⟩, -, X2, ⟨Lc2, hQ2, l2, y2, z2⟩, st2⟩ := Jvm.LawKit.callS X0 hx (y := (⟨"java/lang/Long", "compare", "(JJ)I"⟩ : MethodName)) hown (mvT hZ (hw _ (List.mem_of_getElem? (i := 42) rfl))) (mvT hZ (hw _ (List.mem_of_getElem? (i := 43) rfl))) (mvT hZ (hw _ (List.mem_of_getElem? (i := 39) rfl))) (mvT hZ (hw _ (List.mem_of_getElem? (i := 44) rfl))) (by decide) (backOf (W := 0) (rm8 l Z a0 hw [] (ax + (-9223372036854775808 : Int64)) (bx + (-9223372036854775808 : Int64)) h0 n0 Z0 ) hZ (hw _ (List.mem_of_getElem? (i := 44) rfl)) (hw _ (List.mem_of_getElem? (i := 39) rfl)) (by decide) (by decide)) (g := (mkF m 10 #[.val (.long ax), .second, .val (.long bx), .second] [(.long (bx + (-9223372036854775808 : Int64))), (.long (ax + (-9223372036854775808 : Int64)))])) rfl (by rw [hml]; rfl) (argsL := [(.long (ax + (-9223372036854775808 : Int64))), (.long (bx + (-9223372036854775808 : Int64)))]) (rest := []) (lenOf pd_lJJrI rfl) rfl (by show 2 * 0 + _ ≤ _; exact Nat.le_of_eq rfl) (hb hby d7_10) (fun _ _ => ⟨rfl, e0, (by decide : 0 + 0 ≤ _), (by decide : 0 + 0 ≤ _)⟩)
  dsimp only [Pt.U, Pt.locs, Pt.cells, Pt.slots] at X2 l2 y2 z2 st2 hQ2
  subst l2 y2 z2
  obtain ⟨rfl, N2q, e2⟩ := hQ2
  have N2 := Fr.app N0 N2q
  have P3 : Wy p.tables e below (s₁.setTop (entryFrame m #[(.long ax), (.long bx)] 4)) (T2.setTop (mkF m 13 #[.val (.long ax), .second, .val (.long bx), .second] [(.int (Fcmp (ax + (-9223372036854775808 : Int64)) (bx + (-9223372036854775808 : Int64))))])) := fun t k => P1 t (st2 _ k)
  obtain ⟨fs, hr, hrun, hended, hW, hsame⟩ := X2.leave (v := some (.int (Fcmp (ax + (-9223372036854775808 : Int64)) (bx + (-9223372036854775808 : Int64))))) (fun h => by rw [Bd.returns] at h; cases h)
  refine ⟨_, _, P3 _ ?_, hrun, hended, _, _, rfl, ?_, ⟨_, rfl⟩, hW, hsame.mono (by decide) (by decide)⟩
  · show Steps p.tables e below (T2.setTop (mkF m 13 #[.val (.long ax), .second, .val (.long bx), .second] [(.int (Fcmp (ax + (-9223372036854775808 : Int64)) (bx + (-9223372036854775808 : Int64))))])) _
    exact retI X2 hx Bd.returns (hb hby d7_13) hr
  · show Q7 Z ax bx h0 n0 _ T2.heap _
    rw [e2]
    exact ⟨congrArg (fun z => some (Value.int z)) (show _ = Fcu ax bx from by rfl), N2, rfl⟩
theorem own_flip (x : Int64) : (x + (-9223372036854775808 : Int64)).toInt = (own_u x : Int) - 9223372036854775808 := by
  have a := own_nn x
  have d := c_ladd x (-9223372036854775808)
  have r := rng64 (x + (-9223372036854775808 : Int64))
  have b := own_ult x
  rw [show (-9223372036854775808 : Int64).toInt = -9223372036854775808 from rfl] at d
  omega
theorem own_cu (x y : Int64) : ((0 : Int32) < Fcu x y ↔ own_u y < own_u x) ∧ (Fcu x y < (0 : Int32) ↔ own_u x < own_u y) := by
  unfold Fcu Fcmp
  have a := own_flip x
  have b := own_flip y
  have l := Int64.lt_iff_toInt_lt (x := x + (-9223372036854775808 : Int64)) (y := y + (-9223372036854775808 : Int64))
  have e := Int64.toInt_inj (x := x + (-9223372036854775808 : Int64)) (y := y + (-9223372036854775808 : Int64))
  simp only [lw_lt, lw_eq]
  by_cases h1 : x + (-9223372036854775808 : Int64) < y + (-9223372036854775808 : Int64)
  · rw [if_pos h1]
    rw [l] at h1
    exact ⟨⟨fun q => absurd q (by decide), fun q => by omega⟩, ⟨fun _ => by omega, fun _ => by decide⟩⟩
  · rw [if_neg h1]
    rw [l] at h1
    by_cases h2 : x + (-9223372036854775808 : Int64) = y + (-9223372036854775808 : Int64)
    · rw [if_pos h2]
      rw [← e] at h2
      exact ⟨⟨fun q => absurd q (by decide), fun q => by omega⟩, ⟨fun q => absurd q (by decide), fun q => by omega⟩⟩
    · rw [if_neg h2]
      rw [← e] at h2
      exact ⟨⟨fun _ => by omega, fun _ => by decide⟩, ⟨fun q => absurd q (by decide), fun q => by omega⟩⟩
/-- what one turn of the adding loop does to the number -/
theorem own_addT (k : Nat → Int64) (w : Nat) (a : Int64) (h : w < 5) (ha : own_u a ≠ 0) :
    ((0 : Int32) < Fcu ((own_upd k w (k w + a)) w) (k w) → own_K (own_upd k w (k w + a)) = own_K k + own_u a * own_P w) ∧
    (¬ (0 : Int32) < Fcu ((own_upd k w (k w + a)) w) (k w) → own_K (own_upd k w (k w + a)) + own_u (1 : Int64) * own_P (w + 1) = own_K k + own_u a * own_P w) := by
  have e : (own_upd k w (k w + a)) w = k w + a := if_pos rfl
  rw [e, (own_cu _ _).1]
  have q := own_Kupd k w (k w + a) h
  have s := own_uadd (k w) a
  have b1 := own_ult (k w)
  have b2 := own_ult a
  rw [own_PP w h, show own_u (1 : Int64) = 1 from rfl]
  refine ⟨fun g => ?_, fun g => ?_⟩
  · rw [show own_u (k w + a) = own_u (k w) + own_u a by omega, Nat.add_mul] at q
    omega
  · have t : own_u (k w) + own_u a = own_u (k w + a) + 18446744073709551616 := by omega
    have u := congrArg (· * own_P w) t
    simp only [Nat.add_mul] at u
    rw [Nat.mul_comm (own_P w)]
    omega
/-- what one turn of the taking loop does to the number -/
theorem own_subT (k : Nat → Int64) (w : Nat) (a : Int64) (h : w < 5) :
    (¬ Fcu (k w) a < (0 : Int32) → own_K k = own_K (own_upd k w (k w - a)) + own_u a * own_P w) ∧
    (Fcu (k w) a < (0 : Int32) → own_K k + own_u (1 : Int64) * own_P (w + 1) = own_K (own_upd k w (k w - a)) + own_u a * own_P w) := by
  rw [(own_cu _ _).2]
  have q := own_Kupd k w (k w - a) h
  have s := own_usub (k w) a
  have b1 := own_ult (k w)
  have b2 := own_ult a
  rw [own_PP w h, show own_u (1 : Int64) = 1 from rfl]
  refine ⟨fun g => ?_, fun g => ?_⟩
  · have t : own_u (k w) = own_u (k w - a) + own_u a := by omega
    have u := congrArg (· * own_P w) t
    simp only [Nat.add_mul] at u
    omega
  · have t : own_u (k w) + 18446744073709551616 = own_u (k w - a) + own_u a := by omega
    have u := congrArg (· * own_P w) t
    simp only [Nat.add_mul] at u
    rw [Nat.mul_comm (own_P w)]
    omega
theorem own_bitT : ∀ n : Fin 256, own_u ((1 : Int64) <<< ((Int32.ofNat n.val) &&& 0x3f).toInt64) = 2 ^ (n.val % 64) ∧ (Int32.ofNat n.val) / (64 : Int32) = Int32.ofNat (n.val / 64) ∧ 2 ^ (n.val % 64) * own_P (n.val / 64) = 2 ^ n.val := by decide +kernel
theorem own_bit {lx bt : Int32} {ln : Nat} (hl : lx = Int32.ofNat ln) (h : ln ≤ 255) (hb : bt = (255 : Int32) - lx) : bt = Int32.ofNat (255 - ln) := by
  apply Int32.toInt_inj.mp
  have a := c_isub 255 lx
  have r := rng32 ((255 : Int32) - lx)
  rw [hl, own_ofN (by omega), show (255 : Int32).toInt = 255 from rfl] at a
  rw [hb, hl, own_ofN (by omega)]
  rw [hl] at r
  omega
/-- no word, or one of 0 to 255 -/
def own_ok (x : Int32) : Prop := x = (-1 : Int32) ∨ ∃ n : Nat, n ≤ 255 ∧ x = Int32.ofNat n
def own_wt (x : Int32) : Nat := if x = (-1 : Int32) then 0 else 2 ^ (255 - x.toNatClampNeg)
theorem own_wtN {x : Int32} {n : Nat} (hx : x = Int32.ofNat n) (hn : n ≤ 255) : own_wt x = 2 ^ (255 - n) := by
  unfold own_wt
  rw [if_neg, hx, own_ofC (by omega)]
  intro q
  rw [hx] at q
  have := congrArg Int32.toInt q
  rw [own_ofN (by omega), show (-1 : Int32).toInt = -1 from rfl] at this
  omega
theorem own_okn {x : Int32} (h : own_ok x) (k : ¬ x = (-1 : Int32)) : ∃ n : Nat, n ≤ 255 ∧ x = Int32.ofNat n := h.resolve_left k
theorem own_ok1 {x : Int32} (h : own_ok x) : ¬ x < (-1 : Int32) := by
  rcases h with rfl | ⟨n, hn, rfl⟩
  · decide
  · rw [own_lt, own_ofN (by omega), show (-1 : Int32).toInt = -1 from rfl]; omega
theorem own_ok2 {x : Int32} (h : own_ok x) : ¬ (255 : Int32) < x := by
  rcases h with rfl | ⟨n, hn, rfl⟩
  · decide
  · rw [own_lt, own_ofN (by omega), show (255 : Int32).toInt = 255 from rfl]; omega
theorem own_wtle {x : Int32} (h : own_ok x) : own_wt x ≤ 2 ^ 255 := by
  rcases h with rfl | ⟨n, hn, hx⟩
  · exact Nat.zero_le _
  · rw [own_wtN hx hn]; exact Nat.pow_le_pow_right (by decide) (by omega)
theorem own_div {vx : Int32} {vn : Nat} (hv : vx = Int32.ofNat vn) (h : vn < 256) : vx / (64 : Int32) = Int32.ofNat (vn / 64) := by
  rw [hv]; exact (own_bitT ⟨vn, h⟩).2.1
theorem own_ix {x vx : Int32} {n vn : Nat} (hx : x = Int32.ofNat n) (hn : n ≤ 255) (hv : vx = Int32.ofNat vn) (h : vn < 256) : (x * (4 : Int32)) + (vx / (64 : Int32)) = Int32.ofNat (n * 4 + vn / 64) := by
  rw [own_div hv h, hx, show (4 : Int32) = Int32.ofNat 4 from rfl, ← Int32.ofNat_mul, ← Int32.ofNat_add]
theorem own_ixl {n vn : Nat} (hn : n ≤ 255) (h : vn < 256) : n * 4 + vn / 64 < 1024 := by omega
theorem own_wtm1 : own_wt (-1 : Int32) = 0 := rfl

theorem d4_5 : decode jdk_65_method_103_code 5 = .ok (.iload_n 2, 1) := by decide +kernel
theorem d4_6 : decode jdk_65_method_103_code 6 = .ok (.iload_n 3, 1) := by decide +kernel
theorem d4_7 : decode jdk_65_method_103_code 7 = .ok (.if_icmp .ge 13, 3) := by decide +kernel
theorem d4_10 : decode jdk_65_method_103_code 10 = .ok (.aload_n 0, 1) := by decide +kernel
theorem d4_11 : decode jdk_65_method_103_code 11 = .ok (.iload_n 2, 1) := by decide +kernel
theorem d4_12 : decode jdk_65_method_103_code 12 = .ok (.iload_n 1, 1) := by decide +kernel
set_option maxRecDepth 65536 in
set_option maxHeartbeats 40000000 in
theorem sf_in {p : Program} {l : Launch} {e : Env} {R : Room} {s : State} {m : MethodId} {args : Array Value} {below : List Frame} {meth : Method} {c : Code} {T0 : State} {locs : List Loc} {cells slots : Nat} {Z : State} {a0 : Array Value} {h0 : Heap} (ad : Addr) (vx ii nn : Int32) (X0 : Stand p l e R s m args below meth c T0 locs cells slots) (hx : p.tables.exec = Jvm.exec) (hZ : Z.Warmed39 s.vm) (hw : ∀ d ∈ tables_1, d.before a0 Z = true) (hby : c.code = jdk_65_method_103_code) (hml : c.maxLocals = 4) (hown : s.vm.findClass "java/util/Arrays" = some m.cls) (e0 : T0.heap = h0) (hc : ii < nn) :
    Wy p.tables e below (T0.setTop (mkF m 5 #[.val (.ref ad), .val (.int vx), .val (.int ii), .val (.int nn)] [])) (T0.setTop (mkF m 13 #[.val (.ref ad), .val (.int vx), .val (.int ii), .val (.int nn)] [(.int vx), (.int ii), (.ref ad)])) := by
  have P0 : Wy p.tables e below (T0.setTop (mkF m 5 #[.val (.ref ad), .val (.int vx), .val (.int ii), .val (.int nn)] [])) (T0.setTop (mkF m 5 #[.val (.ref ad), .val (.int vx), .val (.int ii), .val (.int nn)] [])) := fun t k => k
  have P1 : Wy p.tables e below (T0.setTop (mkF m 5 #[.val (.ref ad), .val (.int vx), .val (.int ii), .val (.int nn)] [])) (T0.setTop (mkF m 13 #[.val (.ref ad), .val (.int vx), .val (.int ii), .val (.int nn)] [(.int vx), (.int ii), (.ref ad)])) := fun t k => P0 t (by
    show Steps p.tables e below (T0.setTop (mkF m 5 #[.val (.ref ad), .val (.int vx), .val (.int ii), .val (.int nn)] [])) _
    refine XS.iloadN X0.here hx rfl (hb hby d4_5) rfl  ?_
    show Steps p.tables e below (T0.setTop (mkF m 6 #[.val (.ref ad), .val (.int vx), .val (.int ii), .val (.int nn)] [(.int ii)])) _
    refine XS.iloadN X0.here hx rfl (hb hby d4_6) rfl  ?_
    show Steps p.tables e below (T0.setTop (mkF m 7 #[.val (.ref ad), .val (.int vx), .val (.int ii), .val (.int nn)] [(.int nn), (.int ii)])) _
    refine XS.icmpNo X0.here hx rfl (hb hby d4_7) rfl (tlt (hc : ii < nn)).2.1 ?_
    show Steps p.tables e below (T0.setTop (mkF m 10 #[.val (.ref ad), .val (.int vx), .val (.int ii), .val (.int nn)] [])) _
    refine XS.aloadN X0.here hx rfl (hb hby d4_10) rfl rfl  ?_
    show Steps p.tables e below (T0.setTop (mkF m 11 #[.val (.ref ad), .val (.int vx), .val (.int ii), .val (.int nn)] [(.ref ad)])) _
    refine XS.iloadN X0.here hx rfl (hb hby d4_11) rfl  ?_
    show Steps p.tables e below (T0.setTop (mkF m 12 #[.val (.ref ad), .val (.int vx), .val (.int ii), .val (.int nn)] [(.int ii), (.ref ad)])) _
    refine XS.iloadN X0.here hx rfl (hb hby d4_12) rfl  ?_
    exact k)
  exact P1
theorem d4_14 : decode jdk_65_method_103_code 14 = .ok (.iinc 2 1, 3) := by decide +kernel
theorem d4_17 : decode jdk_65_method_103_code 17 = .ok (.goto (-12), 3) := by decide +kernel
set_option maxRecDepth 65536 in
set_option maxHeartbeats 40000000 in
theorem sf_back {p : Program} {l : Launch} {e : Env} {R : Room} {s : State} {m : MethodId} {args : Array Value} {below : List Frame} {meth : Method} {c : Code} {T0 : State} {locs : List Loc} {cells slots : Nat} {Z : State} {a0 : Array Value} {h0 : Heap} (ad : Addr) (vx ii nn : Int32) (X0 : Stand p l e R s m args below meth c T0 locs cells slots) (hx : p.tables.exec = Jvm.exec) (hZ : Z.Warmed39 s.vm) (hw : ∀ d ∈ tables_1, d.before a0 Z = true) (hby : c.code = jdk_65_method_103_code) (hml : c.maxLocals = 4) (hown : s.vm.findClass "java/util/Arrays" = some m.cls) (e0 : T0.heap = h0)  :
    Wy p.tables e below (T0.setTop (mkF m 14 #[.val (.ref ad), .val (.int vx), .val (.int ii), .val (.int nn)] [])) (T0.setTop (mkF m 5 #[.val (.ref ad), .val (.int vx), .val (.int (ii + (1 : Int32))), .val (.int nn)] [])) := by
  have P0 : Wy p.tables e below (T0.setTop (mkF m 14 #[.val (.ref ad), .val (.int vx), .val (.int ii), .val (.int nn)] [])) (T0.setTop (mkF m 14 #[.val (.ref ad), .val (.int vx), .val (.int ii), .val (.int nn)] [])) := fun t k => k
  have P1 : Wy p.tables e below (T0.setTop (mkF m 14 #[.val (.ref ad), .val (.int vx), .val (.int ii), .val (.int nn)] [])) (T0.setTop (mkF m 5 #[.val (.ref ad), .val (.int vx), .val (.int (ii + (1 : Int32))), .val (.int nn)] [])) := fun t k => P0 t (by
    show Steps p.tables e below (T0.setTop (mkF m 14 #[.val (.ref ad), .val (.int vx), .val (.int ii), .val (.int nn)] [])) _
    refine XS.iinc X0.here hx rfl (hb hby d4_14) rfl (l' := #[.val (.ref ad), .val (.int vx), .val (.int (ii + (1 : Int32))), .val (.int nn)]) rfl ?_
    show Steps p.tables e below (T0.setTop (mkF m 17 #[.val (.ref ad), .val (.int vx), .val (.int (ii + (1 : Int32))), .val (.int nn)] [])) _
    refine XS.goto X0.here hx rfl (pc0 := 17) (pc' := 5) rfl (hb hby d4_17) (by decide) (by decide) ?_
    exact k)
  exact P1
set_option maxRecDepth 65536 in
set_option maxHeartbeats 40000000 in
theorem sf_out {p : Program} {l : Launch} {e : Env} {R : Room} {s : State} {m : MethodId} {args : Array Value} {below : List Frame} {meth : Method} {c : Code} {T0 : State} {locs : List Loc} {cells slots : Nat} {Z : State} {a0 : Array Value} {h0 : Heap} (ad : Addr) (vx ii nn : Int32) (X0 : Stand p l e R s m args below meth c T0 locs cells slots) (hx : p.tables.exec = Jvm.exec) (hZ : Z.Warmed39 s.vm) (hw : ∀ d ∈ tables_1, d.before a0 Z = true) (hby : c.code = jdk_65_method_103_code) (hml : c.maxLocals = 4) (hown : s.vm.findClass "java/util/Arrays" = some m.cls) (e0 : T0.heap = h0) (hc : ¬ (ii < nn)) :
    Wy p.tables e below (T0.setTop (mkF m 5 #[.val (.ref ad), .val (.int vx), .val (.int ii), .val (.int nn)] [])) (T0.setTop (mkF m 20 #[.val (.ref ad), .val (.int vx), .val (.int ii), .val (.int nn)] [])) := by
  have P0 : Wy p.tables e below (T0.setTop (mkF m 5 #[.val (.ref ad), .val (.int vx), .val (.int ii), .val (.int nn)] [])) (T0.setTop (mkF m 5 #[.val (.ref ad), .val (.int vx), .val (.int ii), .val (.int nn)] [])) := fun t k => k
  have P1 : Wy p.tables e below (T0.setTop (mkF m 5 #[.val (.ref ad), .val (.int vx), .val (.int ii), .val (.int nn)] [])) (T0.setTop (mkF m 20 #[.val (.ref ad), .val (.int vx), .val (.int ii), .val (.int nn)] [])) := fun t k => P0 t (by
    show Steps p.tables e below (T0.setTop (mkF m 5 #[.val (.ref ad), .val (.int vx), .val (.int ii), .val (.int nn)] [])) _
    refine XS.iloadN X0.here hx rfl (hb hby d4_5) rfl  ?_
    show Steps p.tables e below (T0.setTop (mkF m 6 #[.val (.ref ad), .val (.int vx), .val (.int ii), .val (.int nn)] [(.int ii)])) _
    refine XS.iloadN X0.here hx rfl (hb hby d4_6) rfl  ?_
    show Steps p.tables e below (T0.setTop (mkF m 7 #[.val (.ref ad), .val (.int vx), .val (.int ii), .val (.int nn)] [(.int nn), (.int ii)])) _
    refine XS.icmpYes X0.here hx rfl (pc0 := 7) (pc' := 20) rfl (hb hby d4_7) rfl (flt (hc : ¬ (ii < nn))).2.1 (by decide) (by decide) ?_
    exact k)
  exact P1
theorem d4_13 : decode jdk_65_method_103_code 13 = .ok (.iastore, 1) := by decide +kernel
theorem own_fill {p : Program} {l : Launch} {e : Env} {R : Room} {s : State} {m : MethodId} {args : Array Value} {below : List Frame} {meth : Method} {c : Code} {cells slots : Nat} {Z : State} {a0 : Array Value} (ad : Addr) (vx : Int32) (n n0 : Nat) (hn : n < 2147483648) (g_ad : n0 ≤ ad) (hx : p.tables.exec = Jvm.exec) (hZ : Z.Warmed39 s.vm) (hw : ∀ d ∈ tables_1, d.before a0 Z = true) (hby : c.code = jdk_65_method_103_code) (hml : c.maxLocals = 4) (hown : s.vm.findClass "java/util/Arrays" = some m.cls) : ∀ (k i : Nat) (f : Nat → Int32) (T0 : State) (h0 : Heap) (locs : List Loc), i + k = n → Stand p l e R s m args below meth c T0 locs cells slots → T0.heap = h0 → Fr n0 locs → own_Ar Value.int .int Z h0 ad n f →
    ∃ (T' : State) (h' : Heap) (locs' : List Loc), Stand p l e R s m args below meth c T' locs' cells slots ∧ T'.heap = h' ∧ Fr n0 locs' ∧ Keep h0 h' [ad] ∧ own_Ar Value.int .int Z h' ad n (fun j => if i ≤ j then vx else f j) ∧ Wy p.tables e below (T0.setTop (mkF m 5 #[.val (.ref ad), .val (.int vx), .val (.int (Int32.ofNat i)), .val (.int (Int32.ofNat n))] [])) (T'.setTop (mkF m 20 #[.val (.ref ad), .val (.int vx), .val (.int (Int32.ofNat n)), .val (.int (Int32.ofNat n))] [])) := by
  intro k
  induction k with
  | zero =>
    intro i f T0 h0 locs hi X0 e0 N I
    obtain rfl : i = n := by omega
    exact ⟨T0, h0, locs, X0, e0, N, Keep.refl _ _, I.same fun k hk => by rw [if_neg (by omega)], sf_out ad vx (Int32.ofNat i) (Int32.ofNat i) X0 hx hZ hw hby hml hown e0 Int32.lt_irrefl⟩
  | succ k ih =>
    intro i f T0 h0 locs hi X0 e0 N I
    have st1 := sf_in ad vx (Int32.ofNat i) (Int32.ofNat n) X0 hx hZ hw hby hml hown e0 ((own_ltN (by omega) hn).mpr (by omega))
    obtain ⟨cl, Ar, hin, -, up⟩ := I.at (j := Int32.ofNat i) rfl (show i < n by omega) hn
    obtain ⟨T1, h1, X1, e1, W1, st2⟩ := stI X0 hx hZ e0 Ar (j := Int32.ofNat i) hin (g := (mkF m 13 #[.val (.ref ad), .val (.int vx), .val (.int (Int32.ofNat i)), .val (.int (Int32.ofNat n))] [(.int vx), (.int (Int32.ofNat i)), (.ref ad)])) rfl rfl (hb hby d4_13)
    have I1 := up _ _ W1
    have st3 := sf_back ad vx (Int32.ofNat i) (Int32.ofNat n) X1 hx hZ hw hby hml hown e1
    rw [own_one] at st3
    obtain ⟨T', h', L', X', e', N', K', I', st4⟩ := ih (i + 1) _ T1 h1 _ (by omega) X1 e1 (Fr.snoc X1 N g_ad) I1
    refine ⟨T', h', L', X', e', N', (Keep.of_wr W1).trans K' (fun y hy => Or.inl hy), I'.same fun j hj => ?_, fun t h => st1 t (st2 _ (st3 t (st4 t h)))⟩
    simp only [own_upd]
    by_cases q : i + 1 ≤ j
    · rw [if_pos q, if_pos (by omega)]
    · rw [if_neg q]
      by_cases r : j = i
      · rw [if_pos r, if_pos (by omega)]
      · rw [if_neg r, if_neg (by omega)]
theorem d4_0 : decode jdk_65_method_103_code 0 = .ok (.iconst 0, 1) := by decide +kernel
theorem d4_1 : decode jdk_65_method_103_code 1 = .ok (.istore_n 2, 1) := by decide +kernel
theorem d4_2 : decode jdk_65_method_103_code 2 = .ok (.aload_n 0, 1) := by decide +kernel
theorem d4_3 : decode jdk_65_method_103_code 3 = .ok (.arraylength, 1) := by decide +kernel
theorem d4_4 : decode jdk_65_method_103_code 4 = .ok (.istore_n 3, 1) := by decide +kernel
theorem d4_20 : decode jdk_65_method_103_code 20 = .ok (.return_, 1) := by decide +kernel
theorem pn_java_util_Arrays : plainName "java/util/Arrays" = true := by first | (simp [plainName, overriddenIn]; done) | decide +kernel
theorem ef_rm4 (m : MethodId) (ad : Addr) (vx : Int32)  : entryFrame m #[(.ref ad), (.int vx)] 4 = (mkF m 0 #[.val (.ref ad), .val (.int vx), .unset, .unset] []) := by first | (simp [entryFrame, mkF, argsToLocals, Value.category]; done) | rfl
def Q4 (Z : State) (ad : Addr) (vx : Int32) (n : Nat) (f : Nat → Int32) (h0 : Heap) (n0 : Nat) (v : Option Value) (h : Heap) (L : List Loc) : Prop := v = none ∧ Fr n0 L ∧ Keep h0 h [ad] ∧ own_Ar Value.int .int Z h ad n (fun _ => vx)
set_option maxRecDepth 65536 in
set_option maxHeartbeats 40000000 in
theorem rm4 (l : Launch) (Z : State) (a0 : Array Value) (hw : ∀ d ∈ tables_1, d.before a0 Z = true) (ws : List Jvm.Cond) (ad : Addr) (vx : Int32) (n : Nat) (f : Nat → Int32) (h0 : Heap) (n0 : Nat) (Z0 : n0 ≤ h0.size) (I : own_Ar Value.int .int Z h0 ad n f) (hn : n < 2147483648) (g_ad : n0 ≤ ad) :
    MetFree l (⟨"java/util/Arrays", "fill", "([II)V"⟩ : MethodName) (head1 (Jvm.Cond.code (⟨"java/util/Arrays", "fill", "([II)V"⟩ : MethodName) jdk_65_method_103_code 4 none :: ws) ({ frames := 0, cells := 0, slots := 0, locals := 0 } : Room)) (fun a U => a = #[(.ref ad), (.int vx)] ∧ Z.Warmed39 U.vm ∧ U.heap = h0) (fun _ _ _ _ _ => True) (fun _ U o U' => ∃ v L, o = .returned v ∧ Q4 Z ad vx n f h0 n0 v U'.heap L ∧ FrameEnd U o U' L ({ frames := 0, cells := 0, slots := 0, locals := 0 } : Room).cells ({ frames := 0, cells := 0, slots := 0, locals := 0 } : Room).slots) := by
  refine MetFree.of_bodySF (plainFor_of_name pn_java_util_Arrays) hisR ?_
  intro p e s m args below meth c s₁ Bd hml0 hP hK
  obtain ⟨rfl, hZ, hh⟩ := hP
  have hx := Bd.exec
  have hby := Bd.bytes
  have hml : c.maxLocals = 4 := hml0
  have hown : s.vm.findClass "java/util/Arrays" = some m.cls := by have q := findClass_of_methodNamed Bd.named; exact q
  have hnm := (name_of_methodNamed Bd.named Bd.method).1
  have X0 : Stand p l e ({ frames := 0, cells := 0, slots := 0, locals := 0 } : Room) s m #[(.ref ad), (.int vx)] below meth c s₁ [] 0 0 := Stand.of_body Bd
  have e0 : s₁.heap = h0 := by rw [← hh, Bd.state]; rfl
  have N0 := Fr.nil n0
  have P0 : Wy p.tables e below (s₁.setTop (entryFrame m #[(.ref ad), (.int vx)] 4)) (s₁.setTop (mkF m 0 #[.val (.ref ad), .val (.int vx), .unset, .unset] [])) := fun t k => castTop (ef_rm4 m ad vx) k
  have P1 : Wy p.tables e below (s₁.setTop (entryFrame m #[(.ref ad), (.int vx)] 4)) (s₁.setTop (mkF m 3 #[.val (.ref ad), .val (.int vx), .val (.int (0 : Int32)), .unset] [(.ref ad)])) := fun t k => P0 t (by
    show Steps p.tables e below (s₁.setTop (mkF m 0 #[.val (.ref ad), .val (.int vx), .unset, .unset] [])) _
    refine XS.iconst X0.here hx rfl (hb hby d4_0) ?_
    show Steps p.tables e below (s₁.setTop (mkF m 1 #[.val (.ref ad), .val (.int vx), .unset, .unset] [(.int (0 : Int32))])) _
    refine XS.istoreN X0.here hx rfl (hb hby d4_1) rfl (l' := #[.val (.ref ad), .val (.int vx), .val (.int (0 : Int32)), .unset]) rfl ?_
    show Steps p.tables e below (s₁.setTop (mkF m 2 #[.val (.ref ad), .val (.int vx), .val (.int (0 : Int32)), .unset] [])) _
    refine XS.aloadN X0.here hx rfl (hb hby d4_2) rfl rfl  ?_
    exact k)
  obtain ⟨cl2, Ar2, Sz2, -⟩ := id I
  have P3 : Wy p.tables e below (s₁.setTop (entryFrame m #[(.ref ad), (.int vx)] 4)) (s₁.setTop (mkF m 4 #[.val (.ref ad), .val (.int vx), .val (.int (0 : Int32)), .unset] [(.int (Int32.ofNat n))])) := fun t k => P1 t (X0.arraylength hx (by rw [e0]; exact Ar2.1) (State.isArrayOf_alike hZ.alike Ar2.2.1) (g := (mkF m 3 #[.val (.ref ad), .val (.int vx), .val (.int (0 : Int32)), .unset] [(.ref ad)])) rfl rfl (hb hby d4_3) _ (by rw [Sz2]; exact k))
  have P4 : Wy p.tables e below (s₁.setTop (entryFrame m #[(.ref ad), (.int vx)] 4)) (s₁.setTop (mkF m 5 #[.val (.ref ad), .val (.int vx), .val (.int (0 : Int32)), .val (.int (Int32.ofNat n))] [])) := fun t k => P3 t (by
    show Steps p.tables e below (s₁.setTop (mkF m 4 #[.val (.ref ad), .val (.int vx), .val (.int (0 : Int32)), .unset] [(.int (Int32.ofNat n))])) _
    refine XS.istoreN X0.here hx rfl (hb hby d4_4) rfl (l' := #[.val (.ref ad), .val (.int vx), .val (.int (0 : Int32)), .val (.int (Int32.ofNat n))]) rfl ?_
    exact k)
  obtain ⟨T1, h1, L1, X1, e1, N1, K1, I1, st1⟩ := own_fill ad vx n n0 hn g_ad hx hZ hw hby hml hown n 0 f s₁ h0 [] (by omega) X0 e0 N0 I
  have Pf5 : Wy p.tables e below (s₁.setTop (entryFrame m #[(.ref ad), (.int vx)] 4)) (T1.setTop (mkF m 20 #[.val (.ref ad), .val (.int vx), .val (.int (Int32.ofNat n)), .val (.int (Int32.ofNat n))] [])) := fun t k => P4 t (st1 t k)
  obtain ⟨fs, hr, hrun, hended, hW, hsame⟩ := X1.leave (v := none) (fun _ => rfl)
  refine ⟨_, _, Pf5 _ ?_, hrun, hended, _, _, rfl, ?_, ⟨_, rfl⟩, hW, hsame.mono (by decide) (by decide)⟩
  · show Steps p.tables e below (T1.setTop (mkF m 20 #[.val (.ref ad), .val (.int vx), .val (.int (Int32.ofNat n)), .val (.int (Int32.ofNat n))] [])) _
    exact X1.returnOut hx Bd.returns (hb hby d4_20) hr
  · show Q4 Z ad vx n f h0 n0 _ T1.heap _
    rw [e1]
    exact ⟨rfl, N1, K1, I1.same fun k _ => if_pos (Nat.zero_le k)⟩
theorem own_s67 {ob : Addr} {lx bt : Int32} {ad : Int64} {wd : Int32} {s6 s7 : Slot} {x : Int64} (h : (s6 = .unset ∧ s7 = .unset) ∨ ∃ b : Int64, s6 = .val (.long b) ∧ s7 = .second) :
    storeLocals #[.val (.ref ob), .val (.int lx), .val (.int bt), .val (.long ad), .second, .val (.int wd), s6, s7] 6 (.long x) = some #[.val (.ref ob), .val (.int lx), .val (.int bt), .val (.long ad), .second, .val (.int wd), .val (.long x), .second] := by
  rcases h with ⟨rfl, rfl⟩ | ⟨b, rfl, rfl⟩ <;> rfl
theorem d6_16 : decode prog_23_method_5_code 16 = .ok (.aload_n 0, 1) := by decide +kernel
theorem d6_17 : decode prog_23_method_5_code 17 = .ok (.getfield 24, 3) := by decide +kernel
theorem d6_20 : decode prog_23_method_5_code 20 = .ok (.iload 5, 2) := by decide +kernel
theorem d6_22 : decode prog_23_method_5_code 22 = .ok (.laload, 1) := by decide +kernel
theorem d6_23 : decode prog_23_method_5_code 23 = .ok (.lstore 6, 2) := by decide +kernel
theorem d6_25 : decode prog_23_method_5_code 25 = .ok (.aload_n 0, 1) := by decide +kernel
theorem d6_26 : decode prog_23_method_5_code 26 = .ok (.getfield 24, 3) := by decide +kernel
theorem d6_29 : decode prog_23_method_5_code 29 = .ok (.iload 5, 2) := by decide +kernel
theorem d6_31 : decode prog_23_method_5_code 31 = .ok (.dup2, 1) := by decide +kernel
theorem d6_32 : decode prog_23_method_5_code 32 = .ok (.laload, 1) := by decide +kernel
theorem d6_33 : decode prog_23_method_5_code 33 = .ok (.lload_n 3, 1) := by decide +kernel
theorem d6_34 : decode prog_23_method_5_code 34 = .ok (.ladd, 1) := by decide +kernel
theorem d6_35 : decode prog_23_method_5_code 35 = .ok (.lastore, 1) := by decide +kernel
theorem d6_36 : decode prog_23_method_5_code 36 = .ok (.aload_n 0, 1) := by decide +kernel
theorem d6_37 : decode prog_23_method_5_code 37 = .ok (.getfield 24, 3) := by decide +kernel
theorem d6_40 : decode prog_23_method_5_code 40 = .ok (.iload 5, 2) := by decide +kernel
theorem d6_42 : decode prog_23_method_5_code 42 = .ok (.laload, 1) := by decide +kernel
theorem d6_43 : decode prog_23_method_5_code 43 = .ok (.lload 6, 2) := by decide +kernel
theorem d6_45 : decode prog_23_method_5_code 45 = .ok (.invokestatic 68, 3) := by decide +kernel
set_option maxRecDepth 65536 in
set_option maxHeartbeats 40000000 in
theorem tk_addKraft {p : Program} {l : Launch} {e : Env} {s : State} {m : MethodId} {args : Array Value} {below : List Frame} {meth : Method} {c : Code} {T0 : State} {locs : List Loc} {Z : State} {a0 : Array Value} {h0 : Heap} (ob : Addr) (lx bt wd : Int32) (ad : Int64) (s6 s7 : Slot) (a4 : Addr) (kr : Nat → Int64) (wn : Nat) (n0 : Nat) (X0 : Stand p l e ({ frames := 2, cells := 0, slots := 0, locals := 30 } : Room) s m args below meth c T0 locs 0 0) (hx : p.tables.exec = Jvm.exec) (hZ : Z.Warmed39 s.vm) (hw : ∀ d ∈ tables_1, d.before a0 Z = true) (hby : c.code = prog_23_method_5_code) (hml : c.maxLocals = 8) (hown : s.vm.findClass "com/example/leafpack/leafpack/CodeTable" = some m.cls) (e0 : T0.heap = h0) (N0 : Fr n0 locs) (Z0 : n0 ≤ h0.size) (F_kraft : Fld Z h0 ob "com/example/leafpack/leafpack/CodeTable" "kraft" "[J" (.ref a4)) (I4 : own_Ar Value.long .long Z h0 a4 5 kr) (g_a4 : n0 ≤ a4) (ne_ob : ob ≠ a4) (hwd : wd = Int32.ofNat wn) (hwn : wn < 5) (h67 : (s6 = .unset ∧ s7 = .unset) ∨ ∃ b : Int64, s6 = .val (.long b) ∧ s7 = .second) :
    ∃ (T' : State) (h' : Heap) (locs' : List Loc), Stand p l e ({ frames := 2, cells := 0, slots := 0, locals := 30 } : Room) s m args below meth c T' locs' 0 0 ∧ T'.heap = h' ∧ Fr n0 locs' ∧ n0 ≤ h'.size ∧ Keep h0 h' [a4] ∧ own_Ar Value.long .long Z h' a4 5 (own_upd kr wn (kr wn + ad)) ∧ Fld Z h' ob "com/example/leafpack/leafpack/CodeTable" "kraft" "[J" (.ref a4) ∧ Wy p.tables e below (T0.setTop (mkF m 16 #[.val (.ref ob), .val (.int lx), .val (.int bt), .val (.long ad), .second, .val (.int wd), s6, s7] [])) (T'.setTop (mkF m 48 #[.val (.ref ob), .val (.int lx), .val (.int bt), .val (.long ad), .second, .val (.int wd), .val (.long (kr wn)), .second] [(.int (Fcu ((own_upd kr wn ((kr wn) + ad)) wn) (kr wn)))])) := by
  have P0 : Wy p.tables e below (T0.setTop (mkF m 16 #[.val (.ref ob), .val (.int lx), .val (.int bt), .val (.long ad), .second, .val (.int wd), s6, s7] [])) (T0.setTop (mkF m 16 #[.val (.ref ob), .val (.int lx), .val (.int bt), .val (.long ad), .second, .val (.int wd), s6, s7] [])) := fun t k => k
  have P1 : Wy p.tables e below (T0.setTop (mkF m 16 #[.val (.ref ob), .val (.int lx), .val (.int bt), .val (.long ad), .second, .val (.int wd), s6, s7] [])) (T0.setTop (mkF m 17 #[.val (.ref ob), .val (.int lx), .val (.int bt), .val (.long ad), .second, .val (.int wd), s6, s7] [(.ref ob)])) := fun t k => P0 t (by
    show Steps p.tables e below (T0.setTop (mkF m 16 #[.val (.ref ob), .val (.int lx), .val (.int bt), .val (.long ad), .second, .val (.int wd), s6, s7] [])) _
    refine XS.aloadN X0.here hx rfl (hb hby d6_16) rfl rfl  ?_
    exact k)
  obtain ⟨T2, X2, e2, st2⟩ := getF X0 hx hZ hown (host := "") (Or.inl (hw _ (List.mem_of_getElem? (i := 22) rfl))) Via.refl e0 F_kraft (g := (mkF m 17 #[.val (.ref ob), .val (.int lx), .val (.int bt), .val (.long ad), .second, .val (.int wd), s6, s7] [(.ref ob)])) rfl rfl (hb hby d6_17)
  have P3 : Wy p.tables e below (T0.setTop (mkF m 16 #[.val (.ref ob), .val (.int lx), .val (.int bt), .val (.long ad), .second, .val (.int wd), s6, s7] [])) (T2.setTop (mkF m 20 #[.val (.ref ob), .val (.int lx), .val (.int bt), .val (.long ad), .second, .val (.int wd), s6, s7] [(.ref a4)])) := fun t k => P1 t (st2 _ k)
  have P4 : Wy p.tables e below (T0.setTop (mkF m 16 #[.val (.ref ob), .val (.int lx), .val (.int bt), .val (.long ad), .second, .val (.int wd), s6, s7] [])) (T2.setTop (mkF m 22 #[.val (.ref ob), .val (.int lx), .val (.int bt), .val (.long ad), .second, .val (.int wd), s6, s7] [(.int wd), (.ref a4)])) := fun t k => P3 t (by
    show Steps p.tables e below (T2.setTop (mkF m 20 #[.val (.ref ob), .val (.int lx), .val (.int bt), .val (.long ad), .second, .val (.int wd), s6, s7] [(.ref a4)])) _
    refine XS.iload X2.here hx rfl (hb hby d6_20) rfl  ?_
    exact k)
  obtain ⟨cl5, Ar5, hi5, ha5, -⟩ := I4.at (j := wd) (k := wn) hwd hwn (by decide)
  have P6 : Wy p.tables e below (T0.setTop (mkF m 16 #[.val (.ref ob), .val (.int lx), .val (.int bt), .val (.long ad), .second, .val (.int wd), s6, s7] [])) (T2.setTop (mkF m 23 #[.val (.ref ob), .val (.int lx), .val (.int bt), .val (.long ad), .second, .val (.int wd), s6, s7] [(.long (kr wn))])) := fun t k => P4 t (X2.laload hx (j := wd) (v := (.long (kr wn))) (by rw [e2]; exact Ar5.1) (State.isArrayOf_alike hZ.alike Ar5.2.1) Ar5.2.2 hi5 ha5 (g := (mkF m 22 #[.val (.ref ob), .val (.int lx), .val (.int bt), .val (.long ad), .second, .val (.int wd), s6, s7] [(.int wd), (.ref a4)])) rfl rfl (hb hby d6_22) _ k)
  have P7 : Wy p.tables e below (T0.setTop (mkF m 16 #[.val (.ref ob), .val (.int lx), .val (.int bt), .val (.long ad), .second, .val (.int wd), s6, s7] [])) (T2.setTop (mkF m 26 #[.val (.ref ob), .val (.int lx), .val (.int bt), .val (.long ad), .second, .val (.int wd), .val (.long (kr wn)), .second] [(.ref ob)])) := fun t k => P6 t (by
    show Steps p.tables e below (T2.setTop (mkF m 23 #[.val (.ref ob), .val (.int lx), .val (.int bt), .val (.long ad), .second, .val (.int wd), s6, s7] [(.long (kr wn))])) _
    refine XS.lstore X2.here hx rfl (hb hby d6_23) rfl (l' := #[.val (.ref ob), .val (.int lx), .val (.int bt), .val (.long ad), .second, .val (.int wd), .val (.long (kr wn)), .second]) (own_s67 h67) ?_
    show Steps p.tables e below (T2.setTop (mkF m 25 #[.val (.ref ob), .val (.int lx), .val (.int bt), .val (.long ad), .second, .val (.int wd), .val (.long (kr wn)), .second] [])) _
    refine XS.aloadN X2.here hx rfl (hb hby d6_25) rfl rfl  ?_
    exact k)
  obtain ⟨T8, X8, e8, st8⟩ := getF X2 hx hZ hown (host := "") (Or.inl (hw _ (List.mem_of_getElem? (i := 22) rfl))) Via.refl e2 F_kraft (g := (mkF m 26 #[.val (.ref ob), .val (.int lx), .val (.int bt), .val (.long ad), .second, .val (.int wd), .val (.long (kr wn)), .second] [(.ref ob)])) rfl rfl (hb hby d6_26)
  have P9 : Wy p.tables e below (T0.setTop (mkF m 16 #[.val (.ref ob), .val (.int lx), .val (.int bt), .val (.long ad), .second, .val (.int wd), s6, s7] [])) (T8.setTop (mkF m 29 #[.val (.ref ob), .val (.int lx), .val (.int bt), .val (.long ad), .second, .val (.int wd), .val (.long (kr wn)), .second] [(.ref a4)])) := fun t k => P7 t (st8 _ k)
  have P10 : Wy p.tables e below (T0.setTop (mkF m 16 #[.val (.ref ob), .val (.int lx), .val (.int bt), .val (.long ad), .second, .val (.int wd), s6, s7] [])) (T8.setTop (mkF m 32 #[.val (.ref ob), .val (.int lx), .val (.int bt), .val (.long ad), .second, .val (.int wd), .val (.long (kr wn)), .second] [(.int wd), (.ref a4), (.int wd), (.ref a4)])) := fun t k => P9 t (by
    show Steps p.tables e below (T8.setTop (mkF m 29 #[.val (.ref ob), .val (.int lx), .val (.int bt), .val (.long ad), .second, .val (.int wd), .val (.long (kr wn)), .second] [(.ref a4)])) _
    refine XS.iload X8.here hx rfl (hb hby d6_29) rfl  ?_
    show Steps p.tables e below (T8.setTop (mkF m 31 #[.val (.ref ob), .val (.int lx), .val (.int bt), .val (.long ad), .second, .val (.int wd), .val (.long (kr wn)), .second] [(.int wd), (.ref a4)])) _
    refine XT.dup2 X8.here hx rfl (hb hby d6_31) rfl rfl rfl ?_
    exact k)
  obtain ⟨cl11, Ar11, hi11, ha11, -⟩ := I4.at (j := wd) (k := wn) hwd hwn (by decide)
  have P12 : Wy p.tables e below (T0.setTop (mkF m 16 #[.val (.ref ob), .val (.int lx), .val (.int bt), .val (.long ad), .second, .val (.int wd), s6, s7] [])) (T8.setTop (mkF m 33 #[.val (.ref ob), .val (.int lx), .val (.int bt), .val (.long ad), .second, .val (.int wd), .val (.long (kr wn)), .second] [(.long (kr wn)), (.int wd), (.ref a4)])) := fun t k => P10 t (X8.laload hx (j := wd) (v := (.long (kr wn))) (by rw [e8]; exact Ar11.1) (State.isArrayOf_alike hZ.alike Ar11.2.1) Ar11.2.2 hi11 ha11 (g := (mkF m 32 #[.val (.ref ob), .val (.int lx), .val (.int bt), .val (.long ad), .second, .val (.int wd), .val (.long (kr wn)), .second] [(.int wd), (.ref a4), (.int wd), (.ref a4)])) rfl rfl (hb hby d6_32) _ k)
  have P13 : Wy p.tables e below (T0.setTop (mkF m 16 #[.val (.ref ob), .val (.int lx), .val (.int bt), .val (.long ad), .second, .val (.int wd), s6, s7] [])) (T8.setTop (mkF m 35 #[.val (.ref ob), .val (.int lx), .val (.int bt), .val (.long ad), .second, .val (.int wd), .val (.long (kr wn)), .second] [(.long ((kr wn) + ad)), (.int wd), (.ref a4)])) := fun t k => P12 t (by
    show Steps p.tables e below (T8.setTop (mkF m 33 #[.val (.ref ob), .val (.int lx), .val (.int bt), .val (.long ad), .second, .val (.int wd), .val (.long (kr wn)), .second] [(.long (kr wn)), (.int wd), (.ref a4)])) _
    refine XS.lloadN X8.here hx rfl (hb hby d6_33) rfl  ?_
    show Steps p.tables e below (T8.setTop (mkF m 34 #[.val (.ref ob), .val (.int lx), .val (.int bt), .val (.long ad), .second, .val (.int wd), .val (.long (kr wn)), .second] [(.long ad), (.long (kr wn)), (.int wd), (.ref a4)])) _
    refine XS.ladd X8.here hx rfl (hb hby d6_34) rfl ?_
    exact k)
  obtain ⟨cl14, Ar14, hi14, -, up14⟩ := I4.at (j := wd) (k := wn) hwd hwn (by decide)
  obtain ⟨T14, h14, X14, e14, W14, st14⟩ := stJ X8 hx hZ e8 Ar14 (j := wd) hi14 (g := (mkF m 35 #[.val (.ref ob), .val (.int lx), .val (.int bt), .val (.long ad), .second, .val (.int wd), .val (.long (kr wn)), .second] [(.long ((kr wn) + ad)), (.int wd), (.ref a4)])) rfl rfl (hb hby d6_35)
  have I14 := up14 _ _ W14
  have N14 := Fr.snoc X14 N0 g_a4
  have z14 : n0 ≤ h14.size := Nat.le_trans Z0 (Keep.of_wr W14).1
  have K14 : Keep h0 h14 [a4] := (Keep.refl h0 [a4]).wr W14 (Or.inl (List.mem_of_getElem? (i := 0) rfl))
  have F14_ob_kraft := F_kraft.other W14 (Or.inl ne_ob)
  have P15 : Wy p.tables e below (T0.setTop (mkF m 16 #[.val (.ref ob), .val (.int lx), .val (.int bt), .val (.long ad), .second, .val (.int wd), s6, s7] [])) (T14.setTop (mkF m 36 #[.val (.ref ob), .val (.int lx), .val (.int bt), .val (.long ad), .second, .val (.int wd), .val (.long (kr wn)), .second] [])) := fun t k => P13 t (st14 _ k)
  have P16 : Wy p.tables e below (T0.setTop (mkF m 16 #[.val (.ref ob), .val (.int lx), .val (.int bt), .val (.long ad), .second, .val (.int wd), s6, s7] [])) (T14.setTop (mkF m 37 #[.val (.ref ob), .val (.int lx), .val (.int bt), .val (.long ad), .second, .val (.int wd), .val (.long (kr wn)), .second] [(.ref ob)])) := fun t k => P15 t (by
    show Steps p.tables e below (T14.setTop (mkF m 36 #[.val (.ref ob), .val (.int lx), .val (.int bt), .val (.long ad), .second, .val (.int wd), .val (.long (kr wn)), .second] [])) _
    refine XS.aloadN X14.here hx rfl (hb hby d6_36) rfl rfl  ?_
    exact k)
  obtain ⟨T17, X17, e17, st17⟩ := getF X14 hx hZ hown (host := "") (Or.inl (hw _ (List.mem_of_getElem? (i := 22) rfl))) Via.refl e14 F14_ob_kraft (g := (mkF m 37 #[.val (.ref ob), .val (.int lx), .val (.int bt), .val (.long ad), .second, .val (.int wd), .val (.long (kr wn)), .second] [(.ref ob)])) rfl rfl (hb hby d6_37)
  have P18 : Wy p.tables e below (T0.setTop (mkF m 16 #[.val (.ref ob), .val (.int lx), .val (.int bt), .val (.long ad), .second, .val (.int wd), s6, s7] [])) (T17.setTop (mkF m 40 #[.val (.ref ob), .val (.int lx), .val (.int bt), .val (.long ad), .second, .val (.int wd), .val (.long (kr wn)), .second] [(.ref a4)])) := fun t k => P16 t (st17 _ k)
  have P19 : Wy p.tables e below (T0.setTop (mkF m 16 #[.val (.ref ob), .val (.int lx), .val (.int bt), .val (.long ad), .second, .val (.int wd), s6, s7] [])) (T17.setTop (mkF m 42 #[.val (.ref ob), .val (.int lx), .val (.int bt), .val (.long ad), .second, .val (.int wd), .val (.long (kr wn)), .second] [(.int wd), (.ref a4)])) := fun t k => P18 t (by
    show Steps p.tables e below (T17.setTop (mkF m 40 #[.val (.ref ob), .val (.int lx), .val (.int bt), .val (.long ad), .second, .val (.int wd), .val (.long (kr wn)), .second] [(.ref a4)])) _
    refine XS.iload X17.here hx rfl (hb hby d6_40) rfl  ?_
    exact k)
  obtain ⟨cl20, Ar20, hi20, ha20, -⟩ := I14.at (j := wd) (k := wn) hwd hwn (by decide)
  have P21 : Wy p.tables e below (T0.setTop (mkF m 16 #[.val (.ref ob), .val (.int lx), .val (.int bt), .val (.long ad), .second, .val (.int wd), s6, s7] [])) (T17.setTop (mkF m 43 #[.val (.ref ob), .val (.int lx), .val (.int bt), .val (.long ad), .second, .val (.int wd), .val (.long (kr wn)), .second] [(.long ((own_upd kr wn ((kr wn) + ad)) wn))])) := fun t k => P19 t (X17.laload hx (j := wd) (v := (.long ((own_upd kr wn ((kr wn) + ad)) wn))) (by rw [e17]; exact Ar20.1) (State.isArrayOf_alike hZ.alike Ar20.2.1) Ar20.2.2 hi20 ha20 (g := (mkF m 42 #[.val (.ref ob), .val (.int lx), .val (.int bt), .val (.long ad), .second, .val (.int wd), .val (.long (kr wn)), .second] [(.int wd), (.ref a4)])) rfl rfl (hb hby d6_42) _ k)
  have P22 : Wy p.tables e below (T0.setTop (mkF m 16 #[.val (.ref ob), .val (.int lx), .val (.int bt), .val (.long ad), .second, .val (.int wd), s6, s7] [])) (T17.setTop (mkF m 45 #[.val (.ref ob), .val (.int lx), .val (.int bt), .val (.long ad), .second, .val (.int wd), .val (.long (kr wn)), .second] [(.long (kr wn)), (.long ((own_upd kr wn ((kr wn) + ad)) wn))])) := fun t k => P21 t (by
    show Steps p.tables e below (T17.setTop (mkF m 43 #[.val (.ref ob), .val (.int lx), .val (.int bt), .val (.long ad), .second, .val (.int wd), .val (.long (kr wn)), .second] [(.long ((own_upd kr wn ((kr wn) + ad)) wn))])) _
    refine XS.lload X17.here hx rfl (hb hby d6_43) rfl  ?_
    exact k)
  obtain ⟨_, _, ⟨T23, L23, k23, n23⟩, -, X23, ⟨Lc23, hQ23, l23, y23, z23⟩, st23⟩ := Jvm.LawKit.callS X17 hx (y := (⟨"java/lang/Long", "compareUnsigned", "(JJ)I"⟩ : MethodName)) hown (mvT hZ (hw _ (List.mem_of_getElem? (i := 37) rfl))) (mvT hZ (hw _ (List.mem_of_getElem? (i := 38) rfl))) (mvT hZ (hw _ (List.mem_of_getElem? (i := 39) rfl))) (mvT hZ (hw _ (List.mem_of_getElem? (i := 40) rfl))) (by decide) (backOf (W := 0) (rm7 l Z a0 hw [] ((own_upd kr wn ((kr wn) + ad)) wn) (kr wn) h14 n0 z14 ) hZ (hw _ (List.mem_of_getElem? (i := 40) rfl)) (hw _ (List.mem_of_getElem? (i := 39) rfl)) (by decide) (by decide)) (g := (mkF m 45 #[.val (.ref ob), .val (.int lx), .val (.int bt), .val (.long ad), .second, .val (.int wd), .val (.long (kr wn)), .second] [(.long (kr wn)), (.long ((own_upd kr wn ((kr wn) + ad)) wn))])) rfl (by rw [hml]; rfl) (argsL := [(.long ((own_upd kr wn ((kr wn) + ad)) wn)), (.long (kr wn))]) (rest := []) (lenOf pd_lJJrI rfl) rfl (by show 2 * 0 + _ ≤ _; exact Nat.le_of_eq rfl) (hb hby d6_45) (fun _ _ => ⟨rfl, e17, (by decide : 0 + 0 ≤ _), (by decide : 0 + 0 ≤ _)⟩)
  dsimp only [Pt.U, Pt.locs, Pt.cells, Pt.slots] at X23 l23 y23 z23 st23 hQ23
  subst l23 y23 z23
  obtain ⟨rfl, N23q, e23⟩ := hQ23
  have N23 := Fr.app N14 N23q
  have P24 : Wy p.tables e below (T0.setTop (mkF m 16 #[.val (.ref ob), .val (.int lx), .val (.int bt), .val (.long ad), .second, .val (.int wd), s6, s7] [])) (T23.setTop (mkF m 48 #[.val (.ref ob), .val (.int lx), .val (.int bt), .val (.long ad), .second, .val (.int wd), .val (.long (kr wn)), .second] [(.int (Fcu ((own_upd kr wn ((kr wn) + ad)) wn) (kr wn)))])) := fun t k => P22 t (st23 _ k)
  exact ⟨T23, h14, _, X23, e23, N23, z14, K14, I14, F14_ob_kraft, P24⟩
theorem d6_52 : decode prog_23_method_5_code 52 = .ok (.lconst 1, 1) := by decide +kernel
theorem d6_53 : decode prog_23_method_5_code 53 = .ok (.lstore_n 3, 1) := by decide +kernel
theorem d6_54 : decode prog_23_method_5_code 54 = .ok (.iinc 5 1, 3) := by decide +kernel
theorem d6_57 : decode prog_23_method_5_code 57 = .ok (.goto (-41), 3) := by decide +kernel
set_option maxRecDepth 65536 in
set_option maxHeartbeats 40000000 in
theorem sb_addKraft {p : Program} {l : Launch} {e : Env} {R : Room} {s : State} {m : MethodId} {args : Array Value} {below : List Frame} {meth : Method} {c : Code} {T0 : State} {locs : List Loc} {cells slots : Nat} {Z : State} {a0 : Array Value} {h0 : Heap} (ob : Addr) (lx bt wd : Int32) (ad bf : Int64) (X0 : Stand p l e R s m args below meth c T0 locs cells slots) (hx : p.tables.exec = Jvm.exec) (hZ : Z.Warmed39 s.vm) (hw : ∀ d ∈ tables_1, d.before a0 Z = true) (hby : c.code = prog_23_method_5_code) (hml : c.maxLocals = 8) (hown : s.vm.findClass "com/example/leafpack/leafpack/CodeTable" = some m.cls) (e0 : T0.heap = h0)  :
    Wy p.tables e below (T0.setTop (mkF m 52 #[.val (.ref ob), .val (.int lx), .val (.int bt), .val (.long ad), .second, .val (.int wd), .val (.long bf), .second] [])) (T0.setTop (mkF m 16 #[.val (.ref ob), .val (.int lx), .val (.int bt), .val (.long (1 : Int64)), .second, .val (.int (wd + (1 : Int32))), .val (.long bf), .second] [])) := by
  have P0 : Wy p.tables e below (T0.setTop (mkF m 52 #[.val (.ref ob), .val (.int lx), .val (.int bt), .val (.long ad), .second, .val (.int wd), .val (.long bf), .second] [])) (T0.setTop (mkF m 52 #[.val (.ref ob), .val (.int lx), .val (.int bt), .val (.long ad), .second, .val (.int wd), .val (.long bf), .second] [])) := fun t k => k
  have P1 : Wy p.tables e below (T0.setTop (mkF m 52 #[.val (.ref ob), .val (.int lx), .val (.int bt), .val (.long ad), .second, .val (.int wd), .val (.long bf), .second] [])) (T0.setTop (mkF m 16 #[.val (.ref ob), .val (.int lx), .val (.int bt), .val (.long (1 : Int64)), .second, .val (.int (wd + (1 : Int32))), .val (.long bf), .second] [])) := fun t k => P0 t (by
    show Steps p.tables e below (T0.setTop (mkF m 52 #[.val (.ref ob), .val (.int lx), .val (.int bt), .val (.long ad), .second, .val (.int wd), .val (.long bf), .second] [])) _
    refine XS.lconst X0.here hx rfl (hb hby d6_52) ?_
    show Steps p.tables e below (T0.setTop (mkF m 53 #[.val (.ref ob), .val (.int lx), .val (.int bt), .val (.long ad), .second, .val (.int wd), .val (.long bf), .second] [(.long (1 : Int64))])) _
    refine XS.lstoreN X0.here hx rfl (hb hby d6_53) rfl (l' := #[.val (.ref ob), .val (.int lx), .val (.int bt), .val (.long (1 : Int64)), .second, .val (.int wd), .val (.long bf), .second]) rfl ?_
    show Steps p.tables e below (T0.setTop (mkF m 54 #[.val (.ref ob), .val (.int lx), .val (.int bt), .val (.long (1 : Int64)), .second, .val (.int wd), .val (.long bf), .second] [])) _
    refine XS.iinc X0.here hx rfl (hb hby d6_54) rfl (l' := #[.val (.ref ob), .val (.int lx), .val (.int bt), .val (.long (1 : Int64)), .second, .val (.int (wd + (1 : Int32))), .val (.long bf), .second]) rfl ?_
    show Steps p.tables e below (T0.setTop (mkF m 57 #[.val (.ref ob), .val (.int lx), .val (.int bt), .val (.long (1 : Int64)), .second, .val (.int (wd + (1 : Int32))), .val (.long bf), .second] [])) _
    refine XS.goto X0.here hx rfl (pc0 := 57) (pc' := 16) rfl (hb hby d6_57) (by decide) (by decide) ?_
    exact k)
  exact P1
theorem d6_48 : decode prog_23_method_5_code 48 = .ok (.ifCond .le 4, 3) := by decide +kernel
set_option maxRecDepth 65536 in
set_option maxHeartbeats 40000000 in
theorem sr_addKraft {p : Program} {l : Launch} {e : Env} {R : Room} {s : State} {m : MethodId} {args : Array Value} {below : List Frame} {meth : Method} {c : Code} {T0 : State} {locs : List Loc} {cells slots : Nat} {Z : State} {a0 : Array Value} {h0 : Heap} (ob : Addr) (lx bt wd : Int32) (ad bf : Int64) (cx : Int32) (X0 : Stand p l e R s m args below meth c T0 locs cells slots) (hx : p.tables.exec = Jvm.exec) (hZ : Z.Warmed39 s.vm) (hw : ∀ d ∈ tables_1, d.before a0 Z = true) (hby : c.code = prog_23_method_5_code) (hml : c.maxLocals = 8) (hown : s.vm.findClass "com/example/leafpack/leafpack/CodeTable" = some m.cls) (e0 : T0.heap = h0) (hc : (0 : Int32) < cx) :
    Wy p.tables e below (T0.setTop (mkF m 48 #[.val (.ref ob), .val (.int lx), .val (.int bt), .val (.long ad), .second, .val (.int wd), .val (.long bf), .second] [(.int cx)])) (T0.setTop (mkF m 51 #[.val (.ref ob), .val (.int lx), .val (.int bt), .val (.long ad), .second, .val (.int wd), .val (.long bf), .second] [])) := by
  have P0 : Wy p.tables e below (T0.setTop (mkF m 48 #[.val (.ref ob), .val (.int lx), .val (.int bt), .val (.long ad), .second, .val (.int wd), .val (.long bf), .second] [(.int cx)])) (T0.setTop (mkF m 48 #[.val (.ref ob), .val (.int lx), .val (.int bt), .val (.long ad), .second, .val (.int wd), .val (.long bf), .second] [(.int cx)])) := fun t k => k
  have P1 : Wy p.tables e below (T0.setTop (mkF m 48 #[.val (.ref ob), .val (.int lx), .val (.int bt), .val (.long ad), .second, .val (.int wd), .val (.long bf), .second] [(.int cx)])) (T0.setTop (mkF m 51 #[.val (.ref ob), .val (.int lx), .val (.int bt), .val (.long ad), .second, .val (.int wd), .val (.long bf), .second] [])) := fun t k => P0 t (by
    show Steps p.tables e below (T0.setTop (mkF m 48 #[.val (.ref ob), .val (.int lx), .val (.int bt), .val (.long ad), .second, .val (.int wd), .val (.long bf), .second] [(.int cx)])) _
    refine XS.ifNo X0.here hx rfl (hb hby d6_48) rfl ((if0 _ _).trans (tlt (hc : (0 : Int32) < cx)).2.2.2) ?_
    exact k)
  exact P1
set_option maxRecDepth 65536 in
set_option maxHeartbeats 40000000 in
theorem sn_addKraft {p : Program} {l : Launch} {e : Env} {R : Room} {s : State} {m : MethodId} {args : Array Value} {below : List Frame} {meth : Method} {c : Code} {T0 : State} {locs : List Loc} {cells slots : Nat} {Z : State} {a0 : Array Value} {h0 : Heap} (ob : Addr) (lx bt wd : Int32) (ad bf : Int64) (cx : Int32) (X0 : Stand p l e R s m args below meth c T0 locs cells slots) (hx : p.tables.exec = Jvm.exec) (hZ : Z.Warmed39 s.vm) (hw : ∀ d ∈ tables_1, d.before a0 Z = true) (hby : c.code = prog_23_method_5_code) (hml : c.maxLocals = 8) (hown : s.vm.findClass "com/example/leafpack/leafpack/CodeTable" = some m.cls) (e0 : T0.heap = h0) (hc : ¬ ((0 : Int32) < cx)) :
    Wy p.tables e below (T0.setTop (mkF m 48 #[.val (.ref ob), .val (.int lx), .val (.int bt), .val (.long ad), .second, .val (.int wd), .val (.long bf), .second] [(.int cx)])) (T0.setTop (mkF m 52 #[.val (.ref ob), .val (.int lx), .val (.int bt), .val (.long ad), .second, .val (.int wd), .val (.long bf), .second] [])) := by
  have P0 : Wy p.tables e below (T0.setTop (mkF m 48 #[.val (.ref ob), .val (.int lx), .val (.int bt), .val (.long ad), .second, .val (.int wd), .val (.long bf), .second] [(.int cx)])) (T0.setTop (mkF m 48 #[.val (.ref ob), .val (.int lx), .val (.int bt), .val (.long ad), .second, .val (.int wd), .val (.long bf), .second] [(.int cx)])) := fun t k => k
  have P1 : Wy p.tables e below (T0.setTop (mkF m 48 #[.val (.ref ob), .val (.int lx), .val (.int bt), .val (.long ad), .second, .val (.int wd), .val (.long bf), .second] [(.int cx)])) (T0.setTop (mkF m 52 #[.val (.ref ob), .val (.int lx), .val (.int bt), .val (.long ad), .second, .val (.int wd), .val (.long bf), .second] [])) := fun t k => P0 t (by
    show Steps p.tables e below (T0.setTop (mkF m 48 #[.val (.ref ob), .val (.int lx), .val (.int bt), .val (.long ad), .second, .val (.int wd), .val (.long bf), .second] [(.int cx)])) _
    refine XS.ifYes X0.here hx rfl (pc0 := 48) (pc' := 52) rfl (hb hby d6_48) rfl ((if0 _ _).trans (flt (hc : ¬ ((0 : Int32) < cx))).2.2.2) (by decide) (by decide) ?_
    exact k)
  exact P1
theorem lp_addKraft {p : Program} {l : Launch} {e : Env} {s : State} {m : MethodId} {args : Array Value} {below : List Frame} {meth : Method} {c : Code} {Z : State} {a0 : Array Value} (ob : Addr) (lx bt : Int32) (a4 : Addr) (tg n0 : Nat) (htg : tg < own_P 5) (g_a4 : n0 ≤ a4) (ne_ob : ob ≠ a4) (hx : p.tables.exec = Jvm.exec) (hZ : Z.Warmed39 s.vm) (hw : ∀ d ∈ tables_1, d.before a0 Z = true) (hby : c.code = prog_23_method_5_code) (hml : c.maxLocals = 8) (hown : s.vm.findClass "com/example/leafpack/leafpack/CodeTable" = some m.cls) : ∀ (k w : Nat) (kr : Nat → Int64) (ad : Int64) (s6 s7 : Slot) (T0 : State) (h0 : Heap) (locs : List Loc), w + k = 5 → own_u ad ≠ 0 → own_K kr + own_u ad * own_P w = tg → Stand p l e ({ frames := 2, cells := 0, slots := 0, locals := 30 } : Room) s m args below meth c T0 locs 0 0 → T0.heap = h0 → Fr n0 locs → n0 ≤ h0.size →
    Fld Z h0 ob "com/example/leafpack/leafpack/CodeTable" "kraft" "[J" (.ref a4) → own_Ar Value.long .long Z h0 a4 5 kr → ((s6 = .unset ∧ s7 = .unset) ∨ ∃ b : Int64, s6 = .val (.long b) ∧ s7 = .second) →
    ∃ (T' : State) (h' : Heap) (locs' : List Loc) (kr' : Nat → Int64) (L' : Array Slot), Stand p l e ({ frames := 2, cells := 0, slots := 0, locals := 30 } : Room) s m args below meth c T' locs' 0 0 ∧ T'.heap = h' ∧ Fr n0 locs' ∧ Keep h0 h' [a4] ∧ own_Ar Value.long .long Z h' a4 5 kr' ∧ own_K kr' = tg ∧
      Wy p.tables e below (T0.setTop (mkF m 16 #[.val (.ref ob), .val (.int lx), .val (.int bt), .val (.long ad), .second, .val (.int (Int32.ofNat w)), s6, s7] [])) (T'.setTop (mkF m 51 L' [])) := by
  intro k
  induction k with
  | zero =>
    intro w kr ad s6 s7 T0 h0 locs hi ha hK
    exfalso
    have q := Nat.le_mul_of_pos_left (own_P 5) (Nat.pos_of_ne_zero ha)
    rw [show own_P w = own_P 5 by rw [show w = 5 by omega]] at hK
    omega
  | succ k ih =>
    intro w kr ad s6 s7 T0 h0 locs hi ha hK X0 e0 N0 Z0 F I h67
    obtain ⟨T1, h1, L1, X1, e1, N1, Z1, K1, I1, F1, st1⟩ := tk_addKraft ob lx bt (Int32.ofNat w) ad s6 s7 a4 kr w n0 X0 hx hZ hw hby hml hown e0 N0 Z0 F I g_a4 ne_ob rfl (by omega) h67
    by_cases hc : (0 : Int32) < (Fcu ((own_upd kr w (kr w + ad)) w) (kr w))
    · have st2 := sr_addKraft ob lx bt (Int32.ofNat w) ad (kr w) _ X1 hx hZ hw hby hml hown e1 hc
      have q := (own_addT kr w ad (by omega) ha).1 hc
      exact ⟨T1, h1, L1, _, _, X1, e1, N1, K1, I1, by omega, fun t h => st1 t (st2 t h)⟩
    · have st2 := sn_addKraft ob lx bt (Int32.ofNat w) ad (kr w) _ X1 hx hZ hw hby hml hown e1 hc
      have st3 := sb_addKraft ob lx bt (Int32.ofNat w) ad (kr w) X1 hx hZ hw hby hml hown e1
      rw [own_one] at st3
      have q := (own_addT kr w ad (by omega) ha).2 hc
      obtain ⟨T', h', L', kr', Ls, X', e', N', K', I', hK', st4⟩ := ih (w + 1) _ (1 : Int64) _ _ T1 h1 L1 (by omega) (by decide) (by omega) X1 e1 N1 Z1 F1 I1 (Or.inr ⟨_, rfl, rfl⟩)
      exact ⟨T', h', L', kr', Ls, X', e', N', K1.trans K' (fun y hy => Or.inl hy), I', hK', fun t h => st1 t (st2 t (st3 t (st4 t h)))⟩
theorem d6_0 : decode prog_23_method_5_code 0 = .ok (.sipush 255, 3) := by decide +kernel
theorem d6_3 : decode prog_23_method_5_code 3 = .ok (.iload_n 1, 1) := by decide +kernel
theorem d6_4 : decode prog_23_method_5_code 4 = .ok (.isub, 1) := by decide +kernel
theorem d6_5 : decode prog_23_method_5_code 5 = .ok (.istore_n 2, 1) := by decide +kernel
theorem d6_6 : decode prog_23_method_5_code 6 = .ok (.lconst 1, 1) := by decide +kernel
theorem d6_7 : decode prog_23_method_5_code 7 = .ok (.iload_n 2, 1) := by decide +kernel
theorem d6_8 : decode prog_23_method_5_code 8 = .ok (.lshl, 1) := by decide +kernel
theorem d6_9 : decode prog_23_method_5_code 9 = .ok (.lstore_n 3, 1) := by decide +kernel
theorem d6_10 : decode prog_23_method_5_code 10 = .ok (.iload_n 2, 1) := by decide +kernel
theorem d6_11 : decode prog_23_method_5_code 11 = .ok (.bipush 64, 2) := by decide +kernel
theorem d6_13 : decode prog_23_method_5_code 13 = .ok (.idiv, 1) := by decide +kernel
theorem d6_14 : decode prog_23_method_5_code 14 = .ok (.istore 5, 2) := by decide +kernel
theorem d6_51 : decode prog_23_method_5_code 51 = .ok (.return_, 1) := by decide +kernel
theorem pn_com_example_leafpack_leafpack_CodeTable : plainName "com/example/leafpack/leafpack/CodeTable" = true := by first | (simp [plainName, overriddenIn]; done) | decide +kernel
theorem ef_rm6 (m : MethodId) (ob : Addr) (lx : Int32)  : entryFrame m #[(.ref ob), (.int lx)] 8 = (mkF m 0 #[.val (.ref ob), .val (.int lx), .unset, .unset, .unset, .unset, .unset, .unset] []) := by first | (simp [entryFrame, mkF, argsToLocals, Value.category]; done) | rfl
def Q6 (Z : State) (ob : Addr) (lx : Int32) (a4 : Addr) (kr : Nat → Int64) (ln tg : Nat) (h0 : Heap) (n0 : Nat) (v : Option Value) (h : Heap) (L : List Loc) : Prop := v = none ∧ Fr n0 L ∧ Keep h0 h [a4] ∧ ∃ kr' : Nat → Int64, own_Ar Value.long .long Z h a4 5 kr' ∧ own_K kr' = tg
set_option maxRecDepth 65536 in
set_option maxHeartbeats 40000000 in
theorem rm6 (l : Launch) (Z : State) (a0 : Array Value) (hw : ∀ d ∈ tables_1, d.before a0 Z = true) (ws : List Jvm.Cond) (ob : Addr) (lx : Int32) (a4 : Addr) (kr : Nat → Int64) (ln tg : Nat) (h0 : Heap) (n0 : Nat) (Z0 : n0 ≤ h0.size) (F_kraft : Fld Z h0 ob "com/example/leafpack/leafpack/CodeTable" "kraft" "[J" (.ref a4)) (I4 : own_Ar Value.long .long Z h0 a4 5 kr) (g_a4 : n0 ≤ a4) (ne_ob : ob ≠ a4) (hlx : lx = Int32.ofNat ln) (hln : ln ≤ 255) (htg : tg < own_P 5) (htk : own_K kr + 2 ^ (255 - ln) = tg) :
    MetFree l (⟨"com/example/leafpack/leafpack/CodeTable", "addKraft", "(I)V"⟩ : MethodName) (head1 (Jvm.Cond.code (⟨"com/example/leafpack/leafpack/CodeTable", "addKraft", "(I)V"⟩ : MethodName) prog_23_method_5_code 8 none :: ws) ({ frames := 2, cells := 0, slots := 0, locals := 30 } : Room)) (fun a U => a = #[(.ref ob), (.int lx)] ∧ Z.Warmed39 U.vm ∧ U.heap = h0) (fun _ _ _ _ _ => True) (fun _ U o U' => ∃ v L, o = .returned v ∧ Q6 Z ob lx a4 kr ln tg h0 n0 v U'.heap L ∧ FrameEnd U o U' L ({ frames := 2, cells := 0, slots := 0, locals := 30 } : Room).cells ({ frames := 2, cells := 0, slots := 0, locals := 30 } : Room).slots) := by
  refine MetFree.of_bodySF (plainFor_of_name pn_com_example_leafpack_leafpack_CodeTable) hisR ?_
  intro p e s m args below meth c s₁ Bd hml0 hP hK
  obtain ⟨rfl, hZ, hh⟩ := hP
  have hx := Bd.exec
  have hby := Bd.bytes
  have hml : c.maxLocals = 8 := hml0
  have hown : s.vm.findClass "com/example/leafpack/leafpack/CodeTable" = some m.cls := by have q := findClass_of_methodNamed Bd.named; exact q
  have hnm := (name_of_methodNamed Bd.named Bd.method).1
  have X0 : Stand p l e ({ frames := 2, cells := 0, slots := 0, locals := 30 } : Room) s m #[(.ref ob), (.int lx)] below meth c s₁ [] 0 0 := Stand.of_body Bd
  have e0 : s₁.heap = h0 := by rw [← hh, Bd.state]; rfl
  have N0 := Fr.nil n0
  have P0 : Wy p.tables e below (s₁.setTop (entryFrame m #[(.ref ob), (.int lx)] 8)) (s₁.setTop (mkF m 0 #[.val (.ref ob), .val (.int lx), .unset, .unset, .unset, .unset, .unset, .unset] [])) := fun t k => castTop (ef_rm6 m ob lx) k
  have P1 : Wy p.tables e below (s₁.setTop (entryFrame m #[(.ref ob), (.int lx)] 8)) (s₁.setTop (mkF m 6 #[.val (.ref ob), .val (.int lx), .val (.int ((255 : Int32) - lx)), .unset, .unset, .unset, .unset, .unset] [])) := fun t k => P0 t (by
    show Steps p.tables e below (s₁.setTop (mkF m 0 #[.val (.ref ob), .val (.int lx), .unset, .unset, .unset, .unset, .unset, .unset] [])) _
    refine XS.sipush X0.here hx rfl (hb hby d6_0) ?_
    show Steps p.tables e below (s₁.setTop (mkF m 3 #[.val (.ref ob), .val (.int lx), .unset, .unset, .unset, .unset, .unset, .unset] [(.int (255 : Int32))])) _
    refine XS.iloadN X0.here hx rfl (hb hby d6_3) rfl  ?_
    show Steps p.tables e below (s₁.setTop (mkF m 4 #[.val (.ref ob), .val (.int lx), .unset, .unset, .unset, .unset, .unset, .unset] [(.int lx), (.int (255 : Int32))])) _
    refine XS.isub X0.here hx rfl (hb hby d6_4) rfl ?_
    show Steps p.tables e below (s₁.setTop (mkF m 5 #[.val (.ref ob), .val (.int lx), .unset, .unset, .unset, .unset, .unset, .unset] [(.int ((255 : Int32) - lx))])) _
    refine XS.istoreN X0.here hx rfl (hb hby d6_5) rfl (l' := #[.val (.ref ob), .val (.int lx), .val (.int ((255 : Int32) - lx)), .unset, .unset, .unset, .unset, .unset]) rfl ?_
    exact k)
  obtain ⟨v2, hv2⟩ : ∃ z : Int32, z = ((255 : Int32) - lx) := ⟨_, rfl⟩
  have P3 : Wy p.tables e below (s₁.setTop (entryFrame m #[(.ref ob), (.int lx)] 8)) (s₁.setTop (mkF m 6 #[.val (.ref ob), .val (.int lx), .val (.int v2), .unset, .unset, .unset, .unset, .unset] [])) := fun t k => by subst hv2; exact P1 t k
  have P4 : Wy p.tables e below (s₁.setTop (entryFrame m #[(.ref ob), (.int lx)] 8)) (s₁.setTop (mkF m 10 #[.val (.ref ob), .val (.int lx), .val (.int v2), .val (.long ((1 : Int64) <<< (v2 &&& 0x3f).toInt64)), .second, .unset, .unset, .unset] [])) := fun t k => P3 t (by
    show Steps p.tables e below (s₁.setTop (mkF m 6 #[.val (.ref ob), .val (.int lx), .val (.int v2), .unset, .unset, .unset, .unset, .unset] [])) _
    refine XS.lconst X0.here hx rfl (hb hby d6_6) ?_
    show Steps p.tables e below (s₁.setTop (mkF m 7 #[.val (.ref ob), .val (.int lx), .val (.int v2), .unset, .unset, .unset, .unset, .unset] [(.long (1 : Int64))])) _
    refine XS.iloadN X0.here hx rfl (hb hby d6_7) rfl  ?_
    show Steps p.tables e below (s₁.setTop (mkF m 8 #[.val (.ref ob), .val (.int lx), .val (.int v2), .unset, .unset, .unset, .unset, .unset] [(.int v2), (.long (1 : Int64))])) _
    refine XS.lshl X0.here hx rfl (hb hby d6_8) rfl ?_
    show Steps p.tables e below (s₁.setTop (mkF m 9 #[.val (.ref ob), .val (.int lx), .val (.int v2), .unset, .unset, .unset, .unset, .unset] [(.long ((1 : Int64) <<< (v2 &&& 0x3f).toInt64))])) _
    refine XS.lstoreN X0.here hx rfl (hb hby d6_9) rfl (l' := #[.val (.ref ob), .val (.int lx), .val (.int v2), .val (.long ((1 : Int64) <<< (v2 &&& 0x3f).toInt64)), .second, .unset, .unset, .unset]) rfl ?_
    exact k)
  obtain ⟨v5, hv5⟩ : ∃ z : Int64, z = ((1 : Int64) <<< (v2 &&& 0x3f).toInt64) := ⟨_, rfl⟩
  have P6 : Wy p.tables e below (s₁.setTop (entryFrame m #[(.ref ob), (.int lx)] 8)) (s₁.setTop (mkF m 10 #[.val (.ref ob), .val (.int lx), .val (.int v2), .val (.long v5), .second, .unset, .unset, .unset] [])) := fun t k => by subst hv5; exact P4 t k
  have P7 : Wy p.tables e below (s₁.setTop (entryFrame m #[(.ref ob), (.int lx)] 8)) (s₁.setTop (mkF m 16 #[.val (.ref ob), .val (.int lx), .val (.int v2), .val (.long v5), .second, .val (.int (v2 / (64 : Int32))), .unset, .unset] [])) := fun t k => P6 t (by
    show Steps p.tables e below (s₁.setTop (mkF m 10 #[.val (.ref ob), .val (.int lx), .val (.int v2), .val (.long v5), .second, .unset, .unset, .unset] [])) _
    refine XS.iloadN X0.here hx rfl (hb hby d6_10) rfl  ?_
    show Steps p.tables e below (s₁.setTop (mkF m 11 #[.val (.ref ob), .val (.int lx), .val (.int v2), .val (.long v5), .second, .unset, .unset, .unset] [(.int v2)])) _
    refine XS.bipush X0.here hx rfl (hb hby d6_11) ?_
    show Steps p.tables e below (s₁.setTop (mkF m 13 #[.val (.ref ob), .val (.int lx), .val (.int v2), .val (.long v5), .second, .unset, .unset, .unset] [(.int (64 : Int32)), (.int v2)])) _
    refine XS.idiv X0.here hx rfl (hb hby d6_13) rfl (by decide) ?_
    show Steps p.tables e below (s₁.setTop (mkF m 14 #[.val (.ref ob), .val (.int lx), .val (.int v2), .val (.long v5), .second, .unset, .unset, .unset] [(.int (v2 / (64 : Int32)))])) _
    refine XS.istore X0.here hx rfl (hb hby d6_14) rfl (l' := #[.val (.ref ob), .val (.int lx), .val (.int v2), .val (.long v5), .second, .val (.int (v2 / (64 : Int32))), .unset, .unset]) rfl ?_
    exact k)
  obtain ⟨v8, hv8⟩ : ∃ z : Int32, z = (v2 / (64 : Int32)) := ⟨_, rfl⟩
  have P9 : Wy p.tables e below (s₁.setTop (entryFrame m #[(.ref ob), (.int lx)] 8)) (s₁.setTop (mkF m 16 #[.val (.ref ob), .val (.int lx), .val (.int v2), .val (.long v5), .second, .val (.int v8), .unset, .unset] [])) := fun t k => by subst hv8; exact P7 t k
  have hbt := own_bit hlx hln hv2
  have hbb := own_bitT ⟨255 - ln, by omega⟩
  simp only at hbb
  have hwd : v8 = Int32.ofNat ((255 - ln) / 64) := by rw [hv8, hbt]; exact hbb.2.1
  have hua : own_u v5 = 2 ^ ((255 - ln) % 64) := by rw [hv5, hbt]; exact hbb.1
  have hup : own_u v5 * own_P ((255 - ln) / 64) = 2 ^ (255 - ln) := by rw [hua]; exact hbb.2.2
  obtain ⟨Te, he, Le, kr', Ls, Xe, ee, Ne, Ke, Ie, hKe, ste⟩ := lp_addKraft ob lx v2 a4 tg n0 htg g_a4 ne_ob hx hZ hw hby hml hown (5 - (255 - ln) / 64) ((255 - ln) / 64) kr v5 .unset .unset s₁ h0 _ (by omega) (by rw [hua]; exact Nat.ne_of_gt (Nat.pow_pos (by decide))) (by rw [hup]; exact htk) X0 e0 N0 Z0 F_kraft I4 (Or.inl ⟨rfl, rfl⟩)
  rw [← hwd] at ste
  obtain ⟨fs, hr, hrun, hended, hW, hsame⟩ := Xe.leave (v := none) (fun _ => rfl)
  refine ⟨_, _, P9 _ (ste _ ?_), hrun, hended, _, _, rfl, ?_, ⟨_, rfl⟩, hW, hsame.mono (by decide) (by decide)⟩
  · exact Xe.returnOut hx Bd.returns (hb hby d6_51) hr
  · show Q6 Z ob lx a4 kr ln tg h0 n0 _ Te.heap _
    rw [ee]
    exact ⟨rfl, Ne, Ke, kr', Ie, hKe⟩
theorem d9_16 : decode prog_23_method_6_code 16 = .ok (.aload_n 0, 1) := by decide +kernel
theorem d9_17 : decode prog_23_method_6_code 17 = .ok (.getfield 24, 3) := by decide +kernel
theorem d9_20 : decode prog_23_method_6_code 20 = .ok (.iload 5, 2) := by decide +kernel
theorem d9_22 : decode prog_23_method_6_code 22 = .ok (.laload, 1) := by decide +kernel
theorem d9_23 : decode prog_23_method_6_code 23 = .ok (.lstore 6, 2) := by decide +kernel
theorem d9_25 : decode prog_23_method_6_code 25 = .ok (.aload_n 0, 1) := by decide +kernel
theorem d9_26 : decode prog_23_method_6_code 26 = .ok (.getfield 24, 3) := by decide +kernel
theorem d9_29 : decode prog_23_method_6_code 29 = .ok (.iload 5, 2) := by decide +kernel
theorem d9_31 : decode prog_23_method_6_code 31 = .ok (.dup2, 1) := by decide +kernel
theorem d9_32 : decode prog_23_method_6_code 32 = .ok (.laload, 1) := by decide +kernel
theorem d9_33 : decode prog_23_method_6_code 33 = .ok (.lload_n 3, 1) := by decide +kernel
theorem d9_34 : decode prog_23_method_6_code 34 = .ok (.lsub, 1) := by decide +kernel
theorem d9_35 : decode prog_23_method_6_code 35 = .ok (.lastore, 1) := by decide +kernel
theorem d9_36 : decode prog_23_method_6_code 36 = .ok (.lload 6, 2) := by decide +kernel
theorem d9_38 : decode prog_23_method_6_code 38 = .ok (.lload_n 3, 1) := by decide +kernel
theorem d9_39 : decode prog_23_method_6_code 39 = .ok (.invokestatic 68, 3) := by decide +kernel
set_option maxRecDepth 65536 in
set_option maxHeartbeats 40000000 in
theorem tk_subtractKraft {p : Program} {l : Launch} {e : Env} {s : State} {m : MethodId} {args : Array Value} {below : List Frame} {meth : Method} {c : Code} {T0 : State} {locs : List Loc} {Z : State} {a0 : Array Value} {h0 : Heap} (ob : Addr) (lx bt wd : Int32) (ad : Int64) (s6 s7 : Slot) (a4 : Addr) (kr : Nat → Int64) (wn : Nat) (n0 : Nat) (X0 : Stand p l e ({ frames := 2, cells := 0, slots := 0, locals := 30 } : Room) s m args below meth c T0 locs 0 0) (hx : p.tables.exec = Jvm.exec) (hZ : Z.Warmed39 s.vm) (hw : ∀ d ∈ tables_1, d.before a0 Z = true) (hby : c.code = prog_23_method_6_code) (hml : c.maxLocals = 8) (hown : s.vm.findClass "com/example/leafpack/leafpack/CodeTable" = some m.cls) (e0 : T0.heap = h0) (N0 : Fr n0 locs) (Z0 : n0 ≤ h0.size) (F_kraft : Fld Z h0 ob "com/example/leafpack/leafpack/CodeTable" "kraft" "[J" (.ref a4)) (I4 : own_Ar Value.long .long Z h0 a4 5 kr) (g_a4 : n0 ≤ a4) (ne_ob : ob ≠ a4) (hwd : wd = Int32.ofNat wn) (hwn : wn < 5) (h67 : (s6 = .unset ∧ s7 = .unset) ∨ ∃ b : Int64, s6 = .val (.long b) ∧ s7 = .second) :
    ∃ (T' : State) (h' : Heap) (locs' : List Loc), Stand p l e ({ frames := 2, cells := 0, slots := 0, locals := 30 } : Room) s m args below meth c T' locs' 0 0 ∧ T'.heap = h' ∧ Fr n0 locs' ∧ n0 ≤ h'.size ∧ Keep h0 h' [a4] ∧ own_Ar Value.long .long Z h' a4 5 (own_upd kr wn (kr wn - ad)) ∧ Fld Z h' ob "com/example/leafpack/leafpack/CodeTable" "kraft" "[J" (.ref a4) ∧ Wy p.tables e below (T0.setTop (mkF m 16 #[.val (.ref ob), .val (.int lx), .val (.int bt), .val (.long ad), .second, .val (.int wd), s6, s7] [])) (T'.setTop (mkF m 42 #[.val (.ref ob), .val (.int lx), .val (.int bt), .val (.long ad), .second, .val (.int wd), .val (.long (kr wn)), .second] [(.int (Fcu (kr wn) ad))])) := by
  have P0 : Wy p.tables e below (T0.setTop (mkF m 16 #[.val (.ref ob), .val (.int lx), .val (.int bt), .val (.long ad), .second, .val (.int wd), s6, s7] [])) (T0.setTop (mkF m 16 #[.val (.ref ob), .val (.int lx), .val (.int bt), .val (.long ad), .second, .val (.int wd), s6, s7] [])) := fun t k => k
  have P1 : Wy p.tables e below (T0.setTop (mkF m 16 #[.val (.ref ob), .val (.int lx), .val (.int bt), .val (.long ad), .second, .val (.int wd), s6, s7] [])) (T0.setTop (mkF m 17 #[.val (.ref ob), .val (.int lx), .val (.int bt), .val (.long ad), .second, .val (.int wd), s6, s7] [(.ref ob)])) := fun t k => P0 t (by
    show Steps p.tables e below (T0.setTop (mkF m 16 #[.val (.ref ob), .val (.int lx), .val (.int bt), .val (.long ad), .second, .val (.int wd), s6, s7] [])) _
    refine XS.aloadN X0.here hx rfl (hb hby d9_16) rfl rfl  ?_
    exact k)
  obtain ⟨T2, X2, e2, st2⟩ := getF X0 hx hZ hown (host := "") (Or.inl (hw _ (List.mem_of_getElem? (i := 22) rfl))) Via.refl e0 F_kraft (g := (mkF m 17 #[.val (.ref ob), .val (.int lx), .val (.int bt), .val (.long ad), .second, .val (.int wd), s6, s7] [(.ref ob)])) rfl rfl (hb hby d9_17)
  have P3 : Wy p.tables e below (T0.setTop (mkF m 16 #[.val (.ref ob), .val (.int lx), .val (.int bt), .val (.long ad), .second, .val (.int wd), s6, s7] [])) (T2.setTop (mkF m 20 #[.val (.ref ob), .val (.int lx), .val (.int bt), .val (.long ad), .second, .val (.int wd), s6, s7] [(.ref a4)])) := fun t k => P1 t (st2 _ k)
  have P4 : Wy p.tables e below (T0.setTop (mkF m 16 #[.val (.ref ob), .val (.int lx), .val (.int bt), .val (.long ad), .second, .val (.int wd), s6, s7] [])) (T2.setTop (mkF m 22 #[.val (.ref ob), .val (.int lx), .val (.int bt), .val (.long ad), .second, .val (.int wd), s6, s7] [(.int wd), (.ref a4)])) := fun t k => P3 t (by
    show Steps p.tables e below (T2.setTop (mkF m 20 #[.val (.ref ob), .val (.int lx), .val (.int bt), .val (.long ad), .second, .val (.int wd), s6, s7] [(.ref a4)])) _
    refine XS.iload X2.here hx rfl (hb hby d9_20) rfl  ?_
    exact k)
  obtain ⟨cl5, Ar5, hi5, ha5, -⟩ := I4.at (j := wd) (k := wn) hwd hwn (by decide)
  have P6 : Wy p.tables e below (T0.setTop (mkF m 16 #[.val (.ref ob), .val (.int lx), .val (.int bt), .val (.long ad), .second, .val (.int wd), s6, s7] [])) (T2.setTop (mkF m 23 #[.val (.ref ob), .val (.int lx), .val (.int bt), .val (.long ad), .second, .val (.int wd), s6, s7] [(.long (kr wn))])) := fun t k => P4 t (X2.laload hx (j := wd) (v := (.long (kr wn))) (by rw [e2]; exact Ar5.1) (State.isArrayOf_alike hZ.alike Ar5.2.1) Ar5.2.2 hi5 ha5 (g := (mkF m 22 #[.val (.ref ob), .val (.int lx), .val (.int bt), .val (.long ad), .second, .val (.int wd), s6, s7] [(.int wd), (.ref a4)])) rfl rfl (hb hby d9_22) _ k)
  have P7 : Wy p.tables e below (T0.setTop (mkF m 16 #[.val (.ref ob), .val (.int lx), .val (.int bt), .val (.long ad), .second, .val (.int wd), s6, s7] [])) (T2.setTop (mkF m 26 #[.val (.ref ob), .val (.int lx), .val (.int bt), .val (.long ad), .second, .val (.int wd), .val (.long (kr wn)), .second] [(.ref ob)])) := fun t k => P6 t (by
    show Steps p.tables e below (T2.setTop (mkF m 23 #[.val (.ref ob), .val (.int lx), .val (.int bt), .val (.long ad), .second, .val (.int wd), s6, s7] [(.long (kr wn))])) _
    refine XS.lstore X2.here hx rfl (hb hby d9_23) rfl (l' := #[.val (.ref ob), .val (.int lx), .val (.int bt), .val (.long ad), .second, .val (.int wd), .val (.long (kr wn)), .second]) (own_s67 h67) ?_
    show Steps p.tables e below (T2.setTop (mkF m 25 #[.val (.ref ob), .val (.int lx), .val (.int bt), .val (.long ad), .second, .val (.int wd), .val (.long (kr wn)), .second] [])) _
    refine XS.aloadN X2.here hx rfl (hb hby d9_25) rfl rfl  ?_
    exact k)
  obtain ⟨T8, X8, e8, st8⟩ := getF X2 hx hZ hown (host := "") (Or.inl (hw _ (List.mem_of_getElem? (i := 22) rfl))) Via.refl e2 F_kraft (g := (mkF m 26 #[.val (.ref ob), .val (.int lx), .val (.int bt), .val (.long ad), .second, .val (.int wd), .val (.long (kr wn)), .second] [(.ref ob)])) rfl rfl (hb hby d9_26)
  have P9 : Wy p.tables e below (T0.setTop (mkF m 16 #[.val (.ref ob), .val (.int lx), .val (.int bt), .val (.long ad), .second, .val (.int wd), s6, s7] [])) (T8.setTop (mkF m 29 #[.val (.ref ob), .val (.int lx), .val (.int bt), .val (.long ad), .second, .val (.int wd), .val (.long (kr wn)), .second] [(.ref a4)])) := fun t k => P7 t (st8 _ k)
  have P10 : Wy p.tables e below (T0.setTop (mkF m 16 #[.val (.ref ob), .val (.int lx), .val (.int bt), .val (.long ad), .second, .val (.int wd), s6, s7] [])) (T8.setTop (mkF m 32 #[.val (.ref ob), .val (.int lx), .val (.int bt), .val (.long ad), .second, .val (.int wd), .val (.long (kr wn)), .second] [(.int wd), (.ref a4), (.int wd), (.ref a4)])) := fun t k => P9 t (by
    show Steps p.tables e below (T8.setTop (mkF m 29 #[.val (.ref ob), .val (.int lx), .val (.int bt), .val (.long ad), .second, .val (.int wd), .val (.long (kr wn)), .second] [(.ref a4)])) _
    refine XS.iload X8.here hx rfl (hb hby d9_29) rfl  ?_
    show Steps p.tables e below (T8.setTop (mkF m 31 #[.val (.ref ob), .val (.int lx), .val (.int bt), .val (.long ad), .second, .val (.int wd), .val (.long (kr wn)), .second] [(.int wd), (.ref a4)])) _
    refine XT.dup2 X8.here hx rfl (hb hby d9_31) rfl rfl rfl ?_
    exact k)
  obtain ⟨cl11, Ar11, hi11, ha11, -⟩ := I4.at (j := wd) (k := wn) hwd hwn (by decide)
  have P12 : Wy p.tables e below (T0.setTop (mkF m 16 #[.val (.ref ob), .val (.int lx), .val (.int bt), .val (.long ad), .second, .val (.int wd), s6, s7] [])) (T8.setTop (mkF m 33 #[.val (.ref ob), .val (.int lx), .val (.int bt), .val (.long ad), .second, .val (.int wd), .val (.long (kr wn)), .second] [(.long (kr wn)), (.int wd), (.ref a4)])) := fun t k => P10 t (X8.laload hx (j := wd) (v := (.long (kr wn))) (by rw [e8]; exact Ar11.1) (State.isArrayOf_alike hZ.alike Ar11.2.1) Ar11.2.2 hi11 ha11 (g := (mkF m 32 #[.val (.ref ob), .val (.int lx), .val (.int bt), .val (.long ad), .second, .val (.int wd), .val (.long (kr wn)), .second] [(.int wd), (.ref a4), (.int wd), (.ref a4)])) rfl rfl (hb hby d9_32) _ k)
  have P13 : Wy p.tables e below (T0.setTop (mkF m 16 #[.val (.ref ob), .val (.int lx), .val (.int bt), .val (.long ad), .second, .val (.int wd), s6, s7] [])) (T8.setTop (mkF m 35 #[.val (.ref ob), .val (.int lx), .val (.int bt), .val (.long ad), .second, .val (.int wd), .val (.long (kr wn)), .second] [(.long ((kr wn) - ad)), (.int wd), (.ref a4)])) := fun t k => P12 t (by
    show Steps p.tables e below (T8.setTop (mkF m 33 #[.val (.ref ob), .val (.int lx), .val (.int bt), .val (.long ad), .second, .val (.int wd), .val (.long (kr wn)), .second] [(.long (kr wn)), (.int wd), (.ref a4)])) _
    refine XS.lloadN X8.here hx rfl (hb hby d9_33) rfl  ?_
    show Steps p.tables e below (T8.setTop (mkF m 34 #[.val (.ref ob), .val (.int lx), .val (.int bt), .val (.long ad), .second, .val (.int wd), .val (.long (kr wn)), .second] [(.long ad), (.long (kr wn)), (.int wd), (.ref a4)])) _
    refine XS.lsub X8.here hx rfl (hb hby d9_34) rfl ?_
    exact k)
  obtain ⟨cl14, Ar14, hi14, -, up14⟩ := I4.at (j := wd) (k := wn) hwd hwn (by decide)
  obtain ⟨T14, h14, X14, e14, W14, st14⟩ := stJ X8 hx hZ e8 Ar14 (j := wd) hi14 (g := (mkF m 35 #[.val (.ref ob), .val (.int lx), .val (.int bt), .val (.long ad), .second, .val (.int wd), .val (.long (kr wn)), .second] [(.long ((kr wn) - ad)), (.int wd), (.ref a4)])) rfl rfl (hb hby d9_35)
  have I14 := up14 _ _ W14
  have N14 := Fr.snoc X14 N0 g_a4
  have z14 : n0 ≤ h14.size := Nat.le_trans Z0 (Keep.of_wr W14).1
  have K14 : Keep h0 h14 [a4] := (Keep.refl h0 [a4]).wr W14 (Or.inl (List.mem_of_getElem? (i := 0) rfl))
  have F14_ob_kraft := F_kraft.other W14 (Or.inl ne_ob)
  have P15 : Wy p.tables e below (T0.setTop (mkF m 16 #[.val (.ref ob), .val (.int lx), .val (.int bt), .val (.long ad), .second, .val (.int wd), s6, s7] [])) (T14.setTop (mkF m 36 #[.val (.ref ob), .val (.int lx), .val (.int bt), .val (.long ad), .second, .val (.int wd), .val (.long (kr wn)), .second] [])) := fun t k => P13 t (st14 _ k)
  have P16 : Wy p.tables e below (T0.setTop (mkF m 16 #[.val (.ref ob), .val (.int lx), .val (.int bt), .val (.long ad), .second, .val (.int wd), s6, s7] [])) (T14.setTop (mkF m 39 #[.val (.ref ob), .val (.int lx), .val (.int bt), .val (.long ad), .second, .val (.int wd), .val (.long (kr wn)), .second] [(.long ad), (.long (kr wn))])) := fun t k => P15 t (by
    show Steps p.tables e below (T14.setTop (mkF m 36 #[.val (.ref ob), .val (.int lx), .val (.int bt), .val (.long ad), .second, .val (.int wd), .val (.long (kr wn)), .second] [])) _
    refine XS.lload X14.here hx rfl (hb hby d9_36) rfl  ?_
    show Steps p.tables e below (T14.setTop (mkF m 38 #[.val (.ref ob), .val (.int lx), .val (.int bt), .val (.long ad), .second, .val (.int wd), .val (.long (kr wn)), .second] [(.long (kr wn))])) _
    refine XS.lloadN X14.here hx rfl (hb hby d9_38) rfl  ?_
    exact k)
  obtain ⟨_, _, ⟨T17, L17, k17, n17⟩, -, X17, ⟨Lc17, hQ17, l17, y17, z17⟩, st17⟩ := Jvm.LawKit.callS X14 hx (y := (⟨"java/lang/Long", "compareUnsigned", "(JJ)I"⟩ : MethodName)) hown (mvT hZ (hw _ (List.mem_of_getElem? (i := 37) rfl))) (mvT hZ (hw _ (List.mem_of_getElem? (i := 38) rfl))) (mvT hZ (hw _ (List.mem_of_getElem? (i := 39) rfl))) (mvT hZ (hw _ (List.mem_of_getElem? (i := 40) rfl))) (by decide) (backOf (W := 0) (rm7 l Z a0 hw [] (kr wn) ad h14 n0 z14 ) hZ (hw _ (List.mem_of_getElem? (i := 40) rfl)) (hw _ (List.mem_of_getElem? (i := 39) rfl)) (by decide) (by decide)) (g := (mkF m 39 #[.val (.ref ob), .val (.int lx), .val (.int bt), .val (.long ad), .second, .val (.int wd), .val (.long (kr wn)), .second] [(.long ad), (.long (kr wn))])) rfl (by rw [hml]; rfl) (argsL := [(.long (kr wn)), (.long ad)]) (rest := []) (lenOf pd_lJJrI rfl) rfl (by show 2 * 0 + _ ≤ _; exact Nat.le_of_eq rfl) (hb hby d9_39) (fun _ _ => ⟨rfl, e14, (by decide : 0 + 0 ≤ _), (by decide : 0 + 0 ≤ _)⟩)
  dsimp only [Pt.U, Pt.locs, Pt.cells, Pt.slots] at X17 l17 y17 z17 st17 hQ17
  subst l17 y17 z17
  obtain ⟨rfl, N17q, e17⟩ := hQ17
  have N17 := Fr.app N14 N17q
  have P18 : Wy p.tables e below (T0.setTop (mkF m 16 #[.val (.ref ob), .val (.int lx), .val (.int bt), .val (.long ad), .second, .val (.int wd), s6, s7] [])) (T17.setTop (mkF m 42 #[.val (.ref ob), .val (.int lx), .val (.int bt), .val (.long ad), .second, .val (.int wd), .val (.long (kr wn)), .second] [(.int (Fcu (kr wn) ad))])) := fun t k => P16 t (st17 _ k)
  exact ⟨T17, h14, _, X17, e17, N17, z14, K14, I14, F14_ob_kraft, P18⟩
theorem d9_46 : decode prog_23_method_6_code 46 = .ok (.lconst 1, 1) := by decide +kernel
theorem d9_47 : decode prog_23_method_6_code 47 = .ok (.lstore_n 3, 1) := by decide +kernel
theorem d9_48 : decode prog_23_method_6_code 48 = .ok (.iinc 5 1, 3) := by decide +kernel
theorem d9_51 : decode prog_23_method_6_code 51 = .ok (.goto (-35), 3) := by decide +kernel
set_option maxRecDepth 65536 in
set_option maxHeartbeats 40000000 in
theorem sb_subtractKraft {p : Program} {l : Launch} {e : Env} {R : Room} {s : State} {m : MethodId} {args : Array Value} {below : List Frame} {meth : Method} {c : Code} {T0 : State} {locs : List Loc} {cells slots : Nat} {Z : State} {a0 : Array Value} {h0 : Heap} (ob : Addr) (lx bt wd : Int32) (ad bf : Int64) (X0 : Stand p l e R s m args below meth c T0 locs cells slots) (hx : p.tables.exec = Jvm.exec) (hZ : Z.Warmed39 s.vm) (hw : ∀ d ∈ tables_1, d.before a0 Z = true) (hby : c.code = prog_23_method_6_code) (hml : c.maxLocals = 8) (hown : s.vm.findClass "com/example/leafpack/leafpack/CodeTable" = some m.cls) (e0 : T0.heap = h0)  :
    Wy p.tables e below (T0.setTop (mkF m 46 #[.val (.ref ob), .val (.int lx), .val (.int bt), .val (.long ad), .second, .val (.int wd), .val (.long bf), .second] [])) (T0.setTop (mkF m 16 #[.val (.ref ob), .val (.int lx), .val (.int bt), .val (.long (1 : Int64)), .second, .val (.int (wd + (1 : Int32))), .val (.long bf), .second] [])) := by
  have P0 : Wy p.tables e below (T0.setTop (mkF m 46 #[.val (.ref ob), .val (.int lx), .val (.int bt), .val (.long ad), .second, .val (.int wd), .val (.long bf), .second] [])) (T0.setTop (mkF m 46 #[.val (.ref ob), .val (.int lx), .val (.int bt), .val (.long ad), .second, .val (.int wd), .val (.long bf), .second] [])) := fun t k => k
  have P1 : Wy p.tables e below (T0.setTop (mkF m 46 #[.val (.ref ob), .val (.int lx), .val (.int bt), .val (.long ad), .second, .val (.int wd), .val (.long bf), .second] [])) (T0.setTop (mkF m 16 #[.val (.ref ob), .val (.int lx), .val (.int bt), .val (.long (1 : Int64)), .second, .val (.int (wd + (1 : Int32))), .val (.long bf), .second] [])) := fun t k => P0 t (by
    show Steps p.tables e below (T0.setTop (mkF m 46 #[.val (.ref ob), .val (.int lx), .val (.int bt), .val (.long ad), .second, .val (.int wd), .val (.long bf), .second] [])) _
    refine XS.lconst X0.here hx rfl (hb hby d9_46) ?_
    show Steps p.tables e below (T0.setTop (mkF m 47 #[.val (.ref ob), .val (.int lx), .val (.int bt), .val (.long ad), .second, .val (.int wd), .val (.long bf), .second] [(.long (1 : Int64))])) _
    refine XS.lstoreN X0.here hx rfl (hb hby d9_47) rfl (l' := #[.val (.ref ob), .val (.int lx), .val (.int bt), .val (.long (1 : Int64)), .second, .val (.int wd), .val (.long bf), .second]) rfl ?_
    show Steps p.tables e below (T0.setTop (mkF m 48 #[.val (.ref ob), .val (.int lx), .val (.int bt), .val (.long (1 : Int64)), .second, .val (.int wd), .val (.long bf), .second] [])) _
    refine XS.iinc X0.here hx rfl (hb hby d9_48) rfl (l' := #[.val (.ref ob), .val (.int lx), .val (.int bt), .val (.long (1 : Int64)), .second, .val (.int (wd + (1 : Int32))), .val (.long bf), .second]) rfl ?_
    show Steps p.tables e below (T0.setTop (mkF m 51 #[.val (.ref ob), .val (.int lx), .val (.int bt), .val (.long (1 : Int64)), .second, .val (.int (wd + (1 : Int32))), .val (.long bf), .second] [])) _
    refine XS.goto X0.here hx rfl (pc0 := 51) (pc' := 16) rfl (hb hby d9_51) (by decide) (by decide) ?_
    exact k)
  exact P1
theorem d9_42 : decode prog_23_method_6_code 42 = .ok (.ifCond .lt 4, 3) := by decide +kernel
set_option maxRecDepth 65536 in
set_option maxHeartbeats 40000000 in
theorem sr_subtractKraft {p : Program} {l : Launch} {e : Env} {R : Room} {s : State} {m : MethodId} {args : Array Value} {below : List Frame} {meth : Method} {c : Code} {T0 : State} {locs : List Loc} {cells slots : Nat} {Z : State} {a0 : Array Value} {h0 : Heap} (ob : Addr) (lx bt wd : Int32) (ad bf : Int64) (cx : Int32) (X0 : Stand p l e R s m args below meth c T0 locs cells slots) (hx : p.tables.exec = Jvm.exec) (hZ : Z.Warmed39 s.vm) (hw : ∀ d ∈ tables_1, d.before a0 Z = true) (hby : c.code = prog_23_method_6_code) (hml : c.maxLocals = 8) (hown : s.vm.findClass "com/example/leafpack/leafpack/CodeTable" = some m.cls) (e0 : T0.heap = h0) (hc : ¬ (cx < (0 : Int32))) :
    Wy p.tables e below (T0.setTop (mkF m 42 #[.val (.ref ob), .val (.int lx), .val (.int bt), .val (.long ad), .second, .val (.int wd), .val (.long bf), .second] [(.int cx)])) (T0.setTop (mkF m 45 #[.val (.ref ob), .val (.int lx), .val (.int bt), .val (.long ad), .second, .val (.int wd), .val (.long bf), .second] [])) := by
  have P0 : Wy p.tables e below (T0.setTop (mkF m 42 #[.val (.ref ob), .val (.int lx), .val (.int bt), .val (.long ad), .second, .val (.int wd), .val (.long bf), .second] [(.int cx)])) (T0.setTop (mkF m 42 #[.val (.ref ob), .val (.int lx), .val (.int bt), .val (.long ad), .second, .val (.int wd), .val (.long bf), .second] [(.int cx)])) := fun t k => k
  have P1 : Wy p.tables e below (T0.setTop (mkF m 42 #[.val (.ref ob), .val (.int lx), .val (.int bt), .val (.long ad), .second, .val (.int wd), .val (.long bf), .second] [(.int cx)])) (T0.setTop (mkF m 45 #[.val (.ref ob), .val (.int lx), .val (.int bt), .val (.long ad), .second, .val (.int wd), .val (.long bf), .second] [])) := fun t k => P0 t (by
    show Steps p.tables e below (T0.setTop (mkF m 42 #[.val (.ref ob), .val (.int lx), .val (.int bt), .val (.long ad), .second, .val (.int wd), .val (.long bf), .second] [(.int cx)])) _
    refine XS.ifNo X0.here hx rfl (hb hby d9_42) rfl ((if0 _ _).trans (flt (hc : ¬ (cx < (0 : Int32)))).1) ?_
    exact k)
  exact P1
set_option maxRecDepth 65536 in
set_option maxHeartbeats 40000000 in
theorem sn_subtractKraft {p : Program} {l : Launch} {e : Env} {R : Room} {s : State} {m : MethodId} {args : Array Value} {below : List Frame} {meth : Method} {c : Code} {T0 : State} {locs : List Loc} {cells slots : Nat} {Z : State} {a0 : Array Value} {h0 : Heap} (ob : Addr) (lx bt wd : Int32) (ad bf : Int64) (cx : Int32) (X0 : Stand p l e R s m args below meth c T0 locs cells slots) (hx : p.tables.exec = Jvm.exec) (hZ : Z.Warmed39 s.vm) (hw : ∀ d ∈ tables_1, d.before a0 Z = true) (hby : c.code = prog_23_method_6_code) (hml : c.maxLocals = 8) (hown : s.vm.findClass "com/example/leafpack/leafpack/CodeTable" = some m.cls) (e0 : T0.heap = h0) (hc : cx < (0 : Int32)) :
    Wy p.tables e below (T0.setTop (mkF m 42 #[.val (.ref ob), .val (.int lx), .val (.int bt), .val (.long ad), .second, .val (.int wd), .val (.long bf), .second] [(.int cx)])) (T0.setTop (mkF m 46 #[.val (.ref ob), .val (.int lx), .val (.int bt), .val (.long ad), .second, .val (.int wd), .val (.long bf), .second] [])) := by
  have P0 : Wy p.tables e below (T0.setTop (mkF m 42 #[.val (.ref ob), .val (.int lx), .val (.int bt), .val (.long ad), .second, .val (.int wd), .val (.long bf), .second] [(.int cx)])) (T0.setTop (mkF m 42 #[.val (.ref ob), .val (.int lx), .val (.int bt), .val (.long ad), .second, .val (.int wd), .val (.long bf), .second] [(.int cx)])) := fun t k => k
  have P1 : Wy p.tables e below (T0.setTop (mkF m 42 #[.val (.ref ob), .val (.int lx), .val (.int bt), .val (.long ad), .second, .val (.int wd), .val (.long bf), .second] [(.int cx)])) (T0.setTop (mkF m 46 #[.val (.ref ob), .val (.int lx), .val (.int bt), .val (.long ad), .second, .val (.int wd), .val (.long bf), .second] [])) := fun t k => P0 t (by
    show Steps p.tables e below (T0.setTop (mkF m 42 #[.val (.ref ob), .val (.int lx), .val (.int bt), .val (.long ad), .second, .val (.int wd), .val (.long bf), .second] [(.int cx)])) _
    refine XS.ifYes X0.here hx rfl (pc0 := 42) (pc' := 46) rfl (hb hby d9_42) rfl ((if0 _ _).trans (tlt (hc : cx < (0 : Int32))).1) (by decide) (by decide) ?_
    exact k)
  exact P1
theorem lp_subtractKraft {p : Program} {l : Launch} {e : Env} {s : State} {m : MethodId} {args : Array Value} {below : List Frame} {meth : Method} {c : Code} {Z : State} {a0 : Array Value} (ob : Addr) (lx bt : Int32) (a4 : Addr) (tg n0 : Nat) (htg : tg < own_P 5) (g_a4 : n0 ≤ a4) (ne_ob : ob ≠ a4) (hx : p.tables.exec = Jvm.exec) (hZ : Z.Warmed39 s.vm) (hw : ∀ d ∈ tables_1, d.before a0 Z = true) (hby : c.code = prog_23_method_6_code) (hml : c.maxLocals = 8) (hown : s.vm.findClass "com/example/leafpack/leafpack/CodeTable" = some m.cls) : ∀ (k w : Nat) (kr : Nat → Int64) (ad : Int64) (s6 s7 : Slot) (T0 : State) (h0 : Heap) (locs : List Loc), w + k = 5 → own_u ad ≠ 0 → own_K kr = tg + own_u ad * own_P w → Stand p l e ({ frames := 2, cells := 0, slots := 0, locals := 30 } : Room) s m args below meth c T0 locs 0 0 → T0.heap = h0 → Fr n0 locs → n0 ≤ h0.size →
    Fld Z h0 ob "com/example/leafpack/leafpack/CodeTable" "kraft" "[J" (.ref a4) → own_Ar Value.long .long Z h0 a4 5 kr → ((s6 = .unset ∧ s7 = .unset) ∨ ∃ b : Int64, s6 = .val (.long b) ∧ s7 = .second) →
    ∃ (T' : State) (h' : Heap) (locs' : List Loc) (kr' : Nat → Int64) (L' : Array Slot), Stand p l e ({ frames := 2, cells := 0, slots := 0, locals := 30 } : Room) s m args below meth c T' locs' 0 0 ∧ T'.heap = h' ∧ Fr n0 locs' ∧ Keep h0 h' [a4] ∧ own_Ar Value.long .long Z h' a4 5 kr' ∧ own_K kr' = tg ∧
      Wy p.tables e below (T0.setTop (mkF m 16 #[.val (.ref ob), .val (.int lx), .val (.int bt), .val (.long ad), .second, .val (.int (Int32.ofNat w)), s6, s7] [])) (T'.setTop (mkF m 45 L' [])) := by
  intro k
  induction k with
  | zero =>
    intro w kr ad s6 s7 T0 h0 locs hi ha hK
    exfalso
    have q := Nat.le_mul_of_pos_left (own_P 5) (Nat.pos_of_ne_zero ha)
    have q2 := own_Klt kr
    rw [show own_P w = own_P 5 by rw [show w = 5 by omega]] at hK
    omega
  | succ k ih =>
    intro w kr ad s6 s7 T0 h0 locs hi ha hK X0 e0 N0 Z0 F I h67
    obtain ⟨T1, h1, L1, X1, e1, N1, Z1, K1, I1, F1, st1⟩ := tk_subtractKraft ob lx bt (Int32.ofNat w) ad s6 s7 a4 kr w n0 X0 hx hZ hw hby hml hown e0 N0 Z0 F I g_a4 ne_ob rfl (by omega) h67
    by_cases hc : (Fcu (kr w) ad) < (0 : Int32)
    · have st2 := sn_subtractKraft ob lx bt (Int32.ofNat w) ad (kr w) _ X1 hx hZ hw hby hml hown e1 hc
      have st3 := sb_subtractKraft ob lx bt (Int32.ofNat w) ad (kr w) X1 hx hZ hw hby hml hown e1
      rw [own_one] at st3
      have q := (own_subT kr w ad (by omega)).2 hc
      obtain ⟨T', h', L', kr', Ls, X', e', N', K', I', hK', st4⟩ := ih (w + 1) _ (1 : Int64) _ _ T1 h1 L1 (by omega) (by decide) (by omega) X1 e1 N1 Z1 F1 I1 (Or.inr ⟨_, rfl, rfl⟩)
      exact ⟨T', h', L', kr', Ls, X', e', N', K1.trans K' (fun y hy => Or.inl hy), I', hK', fun t h => st1 t (st2 t (st3 t (st4 t h)))⟩
    · have st2 := sr_subtractKraft ob lx bt (Int32.ofNat w) ad (kr w) _ X1 hx hZ hw hby hml hown e1 hc
      have q := (own_subT kr w ad (by omega)).1 hc
      exact ⟨T1, h1, L1, _, _, X1, e1, N1, K1, I1, by omega, fun t h => st1 t (st2 t h)⟩
theorem d9_0 : decode prog_23_method_6_code 0 = .ok (.sipush 255, 3) := by decide +kernel
theorem d9_3 : decode prog_23_method_6_code 3 = .ok (.iload_n 1, 1) := by decide +kernel
theorem d9_4 : decode prog_23_method_6_code 4 = .ok (.isub, 1) := by decide +kernel
theorem d9_5 : decode prog_23_method_6_code 5 = .ok (.istore_n 2, 1) := by decide +kernel
theorem d9_6 : decode prog_23_method_6_code 6 = .ok (.lconst 1, 1) := by decide +kernel
theorem d9_7 : decode prog_23_method_6_code 7 = .ok (.iload_n 2, 1) := by decide +kernel
theorem d9_8 : decode prog_23_method_6_code 8 = .ok (.lshl, 1) := by decide +kernel
theorem d9_9 : decode prog_23_method_6_code 9 = .ok (.lstore_n 3, 1) := by decide +kernel
theorem d9_10 : decode prog_23_method_6_code 10 = .ok (.iload_n 2, 1) := by decide +kernel
theorem d9_11 : decode prog_23_method_6_code 11 = .ok (.bipush 64, 2) := by decide +kernel
theorem d9_13 : decode prog_23_method_6_code 13 = .ok (.idiv, 1) := by decide +kernel
theorem d9_14 : decode prog_23_method_6_code 14 = .ok (.istore 5, 2) := by decide +kernel
theorem d9_45 : decode prog_23_method_6_code 45 = .ok (.return_, 1) := by decide +kernel
theorem ef_rm9 (m : MethodId) (ob : Addr) (lx : Int32)  : entryFrame m #[(.ref ob), (.int lx)] 8 = (mkF m 0 #[.val (.ref ob), .val (.int lx), .unset, .unset, .unset, .unset, .unset, .unset] []) := by first | (simp [entryFrame, mkF, argsToLocals, Value.category]; done) | rfl
def Q9 (Z : State) (ob : Addr) (lx : Int32) (a4 : Addr) (kr : Nat → Int64) (ln tg : Nat) (h0 : Heap) (n0 : Nat) (v : Option Value) (h : Heap) (L : List Loc) : Prop := v = none ∧ Fr n0 L ∧ Keep h0 h [a4] ∧ ∃ kr' : Nat → Int64, own_Ar Value.long .long Z h a4 5 kr' ∧ own_K kr' = tg
set_option maxRecDepth 65536 in
set_option maxHeartbeats 40000000 in
theorem rm9 (l : Launch) (Z : State) (a0 : Array Value) (hw : ∀ d ∈ tables_1, d.before a0 Z = true) (ws : List Jvm.Cond) (ob : Addr) (lx : Int32) (a4 : Addr) (kr : Nat → Int64) (ln tg : Nat) (h0 : Heap) (n0 : Nat) (Z0 : n0 ≤ h0.size) (F_kraft : Fld Z h0 ob "com/example/leafpack/leafpack/CodeTable" "kraft" "[J" (.ref a4)) (I4 : own_Ar Value.long .long Z h0 a4 5 kr) (g_a4 : n0 ≤ a4) (ne_ob : ob ≠ a4) (hlx : lx = Int32.ofNat ln) (hln : ln ≤ 255) (htg : tg < own_P 5) (htk : own_K kr = tg + 2 ^ (255 - ln)) :
    MetFree l (⟨"com/example/leafpack/leafpack/CodeTable", "subtractKraft", "(I)V"⟩ : MethodName) (head1 (Jvm.Cond.code (⟨"com/example/leafpack/leafpack/CodeTable", "subtractKraft", "(I)V"⟩ : MethodName) prog_23_method_6_code 8 none :: ws) ({ frames := 2, cells := 0, slots := 0, locals := 30 } : Room)) (fun a U => a = #[(.ref ob), (.int lx)] ∧ Z.Warmed39 U.vm ∧ U.heap = h0) (fun _ _ _ _ _ => True) (fun _ U o U' => ∃ v L, o = .returned v ∧ Q9 Z ob lx a4 kr ln tg h0 n0 v U'.heap L ∧ FrameEnd U o U' L ({ frames := 2, cells := 0, slots := 0, locals := 30 } : Room).cells ({ frames := 2, cells := 0, slots := 0, locals := 30 } : Room).slots) := by
  refine MetFree.of_bodySF (plainFor_of_name pn_com_example_leafpack_leafpack_CodeTable) hisR ?_
  intro p e s m args below meth c s₁ Bd hml0 hP hK
  obtain ⟨rfl, hZ, hh⟩ := hP
  have hx := Bd.exec
  have hby := Bd.bytes
  have hml : c.maxLocals = 8 := hml0
  have hown : s.vm.findClass "com/example/leafpack/leafpack/CodeTable" = some m.cls := by have q := findClass_of_methodNamed Bd.named; exact q
  have hnm := (name_of_methodNamed Bd.named Bd.method).1
  have X0 : Stand p l e ({ frames := 2, cells := 0, slots := 0, locals := 30 } : Room) s m #[(.ref ob), (.int lx)] below meth c s₁ [] 0 0 := Stand.of_body Bd
  have e0 : s₁.heap = h0 := by rw [← hh, Bd.state]; rfl
  have N0 := Fr.nil n0
  have P0 : Wy p.tables e below (s₁.setTop (entryFrame m #[(.ref ob), (.int lx)] 8)) (s₁.setTop (mkF m 0 #[.val (.ref ob), .val (.int lx), .unset, .unset, .unset, .unset, .unset, .unset] [])) := fun t k => castTop (ef_rm9 m ob lx) k
  have P1 : Wy p.tables e below (s₁.setTop (entryFrame m #[(.ref ob), (.int lx)] 8)) (s₁.setTop (mkF m 6 #[.val (.ref ob), .val (.int lx), .val (.int ((255 : Int32) - lx)), .unset, .unset, .unset, .unset, .unset] [])) := fun t k => P0 t (by
    show Steps p.tables e below (s₁.setTop (mkF m 0 #[.val (.ref ob), .val (.int lx), .unset, .unset, .unset, .unset, .unset, .unset] [])) _
    refine XS.sipush X0.here hx rfl (hb hby d9_0) ?_
    show Steps p.tables e below (s₁.setTop (mkF m 3 #[.val (.ref ob), .val (.int lx), .unset, .unset, .unset, .unset, .unset, .unset] [(.int (255 : Int32))])) _
    refine XS.iloadN X0.here hx rfl (hb hby d9_3) rfl  ?_
    show Steps p.tables e below (s₁.setTop (mkF m 4 #[.val (.ref ob), .val (.int lx), .unset, .unset, .unset, .unset, .unset, .unset] [(.int lx), (.int (255 : Int32))])) _
    refine XS.isub X0.here hx rfl (hb hby d9_4) rfl ?_
    show Steps p.tables e below (s₁.setTop (mkF m 5 #[.val (.ref ob), .val (.int lx), .unset, .unset, .unset, .unset, .unset, .unset] [(.int ((255 : Int32) - lx))])) _
    refine XS.istoreN X0.here hx rfl (hb hby d9_5) rfl (l' := #[.val (.ref ob), .val (.int lx), .val (.int ((255 : Int32) - lx)), .unset, .unset, .unset, .unset, .unset]) rfl ?_
    exact k)
  obtain ⟨v2, hv2⟩ : ∃ z : Int32, z = ((255 : Int32) - lx) := ⟨_, rfl⟩
  have P3 : Wy p.tables e below (s₁.setTop (entryFrame m #[(.ref ob), (.int lx)] 8)) (s₁.setTop (mkF m 6 #[.val (.ref ob), .val (.int lx), .val (.int v2), .unset, .unset, .unset, .unset, .unset] [])) := fun t k => by subst hv2; exact P1 t k
  have P4 : Wy p.tables e below (s₁.setTop (entryFrame m #[(.ref ob), (.int lx)] 8)) (s₁.setTop (mkF m 10 #[.val (.ref ob), .val (.int lx), .val (.int v2), .val (.long ((1 : Int64) <<< (v2 &&& 0x3f).toInt64)), .second, .unset, .unset, .unset] [])) := fun t k => P3 t (by
    show Steps p.tables e below (s₁.setTop (mkF m 6 #[.val (.ref ob), .val (.int lx), .val (.int v2), .unset, .unset, .unset, .unset, .unset] [])) _
    refine XS.lconst X0.here hx rfl (hb hby d9_6) ?_
    show Steps p.tables e below (s₁.setTop (mkF m 7 #[.val (.ref ob), .val (.int lx), .val (.int v2), .unset, .unset, .unset, .unset, .unset] [(.long (1 : Int64))])) _
    refine XS.iloadN X0.here hx rfl (hb hby d9_7) rfl  ?_
    show Steps p.tables e below (s₁.setTop (mkF m 8 #[.val (.ref ob), .val (.int lx), .val (.int v2), .unset, .unset, .unset, .unset, .unset] [(.int v2), (.long (1 : Int64))])) _
    refine XS.lshl X0.here hx rfl (hb hby d9_8) rfl ?_
    show Steps p.tables e below (s₁.setTop (mkF m 9 #[.val (.ref ob), .val (.int lx), .val (.int v2), .unset, .unset, .unset, .unset, .unset] [(.long ((1 : Int64) <<< (v2 &&& 0x3f).toInt64))])) _
    refine XS.lstoreN X0.here hx rfl (hb hby d9_9) rfl (l' := #[.val (.ref ob), .val (.int lx), .val (.int v2), .val (.long ((1 : Int64) <<< (v2 &&& 0x3f).toInt64)), .second, .unset, .unset, .unset]) rfl ?_
    exact k)
  obtain ⟨v5, hv5⟩ : ∃ z : Int64, z = ((1 : Int64) <<< (v2 &&& 0x3f).toInt64) := ⟨_, rfl⟩
  have P6 : Wy p.tables e below (s₁.setTop (entryFrame m #[(.ref ob), (.int lx)] 8)) (s₁.setTop (mkF m 10 #[.val (.ref ob), .val (.int lx), .val (.int v2), .val (.long v5), .second, .unset, .unset, .unset] [])) := fun t k => by subst hv5; exact P4 t k
  have P7 : Wy p.tables e below (s₁.setTop (entryFrame m #[(.ref ob), (.int lx)] 8)) (s₁.setTop (mkF m 16 #[.val (.ref ob), .val (.int lx), .val (.int v2), .val (.long v5), .second, .val (.int (v2 / (64 : Int32))), .unset, .unset] [])) := fun t k => P6 t (by
    show Steps p.tables e below (s₁.setTop (mkF m 10 #[.val (.ref ob), .val (.int lx), .val (.int v2), .val (.long v5), .second, .unset, .unset, .unset] [])) _
    refine XS.iloadN X0.here hx rfl (hb hby d9_10) rfl  ?_
    show Steps p.tables e below (s₁.setTop (mkF m 11 #[.val (.ref ob), .val (.int lx), .val (.int v2), .val (.long v5), .second, .unset, .unset, .unset] [(.int v2)])) _
    refine XS.bipush X0.here hx rfl (hb hby d9_11) ?_
    show Steps p.tables e below (s₁.setTop (mkF m 13 #[.val (.ref ob), .val (.int lx), .val (.int v2), .val (.long v5), .second, .unset, .unset, .unset] [(.int (64 : Int32)), (.int v2)])) _
    refine XS.idiv X0.here hx rfl (hb hby d9_13) rfl (by decide) ?_
    show Steps p.tables e below (s₁.setTop (mkF m 14 #[.val (.ref ob), .val (.int lx), .val (.int v2), .val (.long v5), .second, .unset, .unset, .unset] [(.int (v2 / (64 : Int32)))])) _
    refine XS.istore X0.here hx rfl (hb hby d9_14) rfl (l' := #[.val (.ref ob), .val (.int lx), .val (.int v2), .val (.long v5), .second, .val (.int (v2 / (64 : Int32))), .unset, .unset]) rfl ?_
    exact k)
  obtain ⟨v8, hv8⟩ : ∃ z : Int32, z = (v2 / (64 : Int32)) := ⟨_, rfl⟩
  have P9 : Wy p.tables e below (s₁.setTop (entryFrame m #[(.ref ob), (.int lx)] 8)) (s₁.setTop (mkF m 16 #[.val (.ref ob), .val (.int lx), .val (.int v2), .val (.long v5), .second, .val (.int v8), .unset, .unset] [])) := fun t k => by subst hv8; exact P7 t k
  have hbt := own_bit hlx hln hv2
  have hbb := own_bitT ⟨255 - ln, by omega⟩
  simp only at hbb
  have hwd : v8 = Int32.ofNat ((255 - ln) / 64) := by rw [hv8, hbt]; exact hbb.2.1
  have hua : own_u v5 = 2 ^ ((255 - ln) % 64) := by rw [hv5, hbt]; exact hbb.1
  have hup : own_u v5 * own_P ((255 - ln) / 64) = 2 ^ (255 - ln) := by rw [hua]; exact hbb.2.2
  obtain ⟨Te, he, Le, kr', Ls, Xe, ee, Ne, Ke, Ie, hKe, ste⟩ := lp_subtractKraft ob lx v2 a4 tg n0 htg g_a4 ne_ob hx hZ hw hby hml hown (5 - (255 - ln) / 64) ((255 - ln) / 64) kr v5 .unset .unset s₁ h0 _ (by omega) (by rw [hua]; exact Nat.ne_of_gt (Nat.pow_pos (by decide))) (by rw [hup]; exact htk) X0 e0 N0 Z0 F_kraft I4 (Or.inl ⟨rfl, rfl⟩)
  rw [← hwd] at ste
  obtain ⟨fs, hr, hrun, hended, hW, hsame⟩ := Xe.leave (v := none) (fun _ => rfl)
  refine ⟨_, _, P9 _ (ste _ ?_), hrun, hended, _, _, rfl, ?_, ⟨_, rfl⟩, hW, hsame.mono (by decide) (by decide)⟩
  · exact Xe.returnOut hx Bd.returns (hb hby d9_45) hr
  · show Q9 Z ob lx a4 kr ln tg h0 n0 _ Te.heap _
    rw [ee]
    exact ⟨rfl, Ne, Ke, kr', Ie, hKe⟩
def own_code (kr : Nat → Int64) : Int32 := if (lcmpW (kr 3) (-9223372036854775808 : Int64)) = (0 : Int32) then (if (lcmpW ((((kr 0) ||| (kr 1)) ||| (kr 2)) ||| (kr 4)) (0 : Int64)) = (0 : Int32) then (1 : Int32) else (0 : Int32)) else (0 : Int32)
theorem d10_0 : decode prog_23_method_7_code 0 = .ok (.aload_n 0, 1) := by decide +kernel
theorem d10_1 : decode prog_23_method_7_code 1 = .ok (.getfield 24, 3) := by decide +kernel
theorem d10_4 : decode prog_23_method_7_code 4 = .ok (.iconst 3, 1) := by decide +kernel
theorem d10_5 : decode prog_23_method_7_code 5 = .ok (.laload, 1) := by decide +kernel
theorem d10_6 : decode prog_23_method_7_code 6 = .ok (.ldc2_w 72, 3) := by decide +kernel
theorem d10_9 : decode prog_23_method_7_code 9 = .ok (.lcmp, 1) := by decide +kernel
theorem d10_10 : decode prog_23_method_7_code 10 = .ok (.ifCond .ne 39, 3) := by decide +kernel
theorem d10_13 : decode prog_23_method_7_code 13 = .ok (.aload_n 0, 1) := by decide +kernel
theorem d10_14 : decode prog_23_method_7_code 14 = .ok (.getfield 24, 3) := by decide +kernel
theorem d10_17 : decode prog_23_method_7_code 17 = .ok (.iconst 0, 1) := by decide +kernel
theorem d10_18 : decode prog_23_method_7_code 18 = .ok (.laload, 1) := by decide +kernel
theorem d10_19 : decode prog_23_method_7_code 19 = .ok (.aload_n 0, 1) := by decide +kernel
theorem d10_20 : decode prog_23_method_7_code 20 = .ok (.getfield 24, 3) := by decide +kernel
theorem d10_23 : decode prog_23_method_7_code 23 = .ok (.iconst 1, 1) := by decide +kernel
theorem d10_24 : decode prog_23_method_7_code 24 = .ok (.laload, 1) := by decide +kernel
theorem d10_25 : decode prog_23_method_7_code 25 = .ok (.lor, 1) := by decide +kernel
theorem d10_26 : decode prog_23_method_7_code 26 = .ok (.aload_n 0, 1) := by decide +kernel
theorem d10_27 : decode prog_23_method_7_code 27 = .ok (.getfield 24, 3) := by decide +kernel
theorem d10_30 : decode prog_23_method_7_code 30 = .ok (.iconst 2, 1) := by decide +kernel
theorem d10_31 : decode prog_23_method_7_code 31 = .ok (.laload, 1) := by decide +kernel
theorem d10_32 : decode prog_23_method_7_code 32 = .ok (.lor, 1) := by decide +kernel
theorem d10_33 : decode prog_23_method_7_code 33 = .ok (.aload_n 0, 1) := by decide +kernel
theorem d10_34 : decode prog_23_method_7_code 34 = .ok (.getfield 24, 3) := by decide +kernel
theorem d10_37 : decode prog_23_method_7_code 37 = .ok (.iconst 4, 1) := by decide +kernel
theorem d10_38 : decode prog_23_method_7_code 38 = .ok (.laload, 1) := by decide +kernel
theorem d10_39 : decode prog_23_method_7_code 39 = .ok (.lor, 1) := by decide +kernel
theorem d10_40 : decode prog_23_method_7_code 40 = .ok (.lconst 0, 1) := by decide +kernel
theorem d10_41 : decode prog_23_method_7_code 41 = .ok (.lcmp, 1) := by decide +kernel
theorem d10_42 : decode prog_23_method_7_code 42 = .ok (.ifCond .ne 7, 3) := by decide +kernel
theorem d10_45 : decode prog_23_method_7_code 45 = .ok (.iconst 1, 1) := by decide +kernel
theorem d10_46 : decode prog_23_method_7_code 46 = .ok (.goto 4, 3) := by decide +kernel
theorem d10_49 : decode prog_23_method_7_code 49 = .ok (.iconst 0, 1) := by decide +kernel
theorem d10_50 : decode prog_23_method_7_code 50 = .ok (.ireturn, 1) := by decide +kernel
theorem ef_rm10 (m : MethodId) (ob : Addr)  : entryFrame m #[(.ref ob)] 1 = (mkF m 0 #[.val (.ref ob)] []) := by first | (simp [entryFrame, mkF, argsToLocals, Value.category]; done) | rfl
def Q10 (Z : State) (ob : Addr) (a4 : Addr) (kr : Nat → Int64) (h0 : Heap) (n0 : Nat) (v : Option Value) (h : Heap) (L : List Loc) : Prop := v = some (.int (own_code kr)) ∧ Fr n0 L ∧ h = h0
set_option maxRecDepth 65536 in
set_option maxHeartbeats 40000000 in
theorem rm10 (l : Launch) (Z : State) (a0 : Array Value) (hw : ∀ d ∈ tables_1, d.before a0 Z = true) (ws : List Jvm.Cond) (ob : Addr) (a4 : Addr) (kr : Nat → Int64) (h0 : Heap) (n0 : Nat) (Z0 : n0 ≤ h0.size) (F_kraft : Fld Z h0 ob "com/example/leafpack/leafpack/CodeTable" "kraft" "[J" (.ref a4)) (I4 : own_Ar Value.long .long Z h0 a4 5 kr) :
    MetFree l (⟨"com/example/leafpack/leafpack/CodeTable", "isCode", "()Z"⟩ : MethodName) (head1 (Jvm.Cond.code (⟨"com/example/leafpack/leafpack/CodeTable", "isCode", "()Z"⟩ : MethodName) prog_23_method_7_code 1 (some .boolean) :: ws) ({ frames := 0, cells := 0, slots := 0, locals := 0 } : Room)) (fun a U => a = #[(.ref ob)] ∧ Z.Warmed39 U.vm ∧ U.heap = h0) (fun _ _ _ _ _ => True) (fun _ U o U' => ∃ v L, o = .returned v ∧ Q10 Z ob a4 kr h0 n0 v U'.heap L ∧ FrameEnd U o U' L ({ frames := 0, cells := 0, slots := 0, locals := 0 } : Room).cells ({ frames := 0, cells := 0, slots := 0, locals := 0 } : Room).slots) := by
  refine MetFree.of_bodySF (plainFor_of_name pn_com_example_leafpack_leafpack_CodeTable) hisR ?_
  intro p e s m args below meth c s₁ Bd hml0 hP hK
  obtain ⟨rfl, hZ, hh⟩ := hP
  have hx := Bd.exec
  have hby := Bd.bytes
  have hml : c.maxLocals = 1 := hml0
  have hown : s.vm.findClass "com/example/leafpack/leafpack/CodeTable" = some m.cls := by have q := findClass_of_methodNamed Bd.named; exact q
  have hnm := (name_of_methodNamed Bd.named Bd.method).1
  have X0 : Stand p l e ({ frames := 0, cells := 0, slots := 0, locals := 0 } : Room) s m #[(.ref ob)] below meth c s₁ [] 0 0 := Stand.of_body Bd
  have e0 : s₁.heap = h0 := by rw [← hh, Bd.state]; rfl
  have N0 := Fr.nil n0
  have P0 : Wy p.tables e below (s₁.setTop (entryFrame m #[(.ref ob)] 1)) (s₁.setTop (mkF m 0 #[.val (.ref ob)] [])) := fun t k => castTop (ef_rm10 m ob) k
  have P1 : Wy p.tables e below (s₁.setTop (entryFrame m #[(.ref ob)] 1)) (s₁.setTop (mkF m 1 #[.val (.ref ob)] [(.ref ob)])) := fun t k => P0 t (by
    show Steps p.tables e below (s₁.setTop (mkF m 0 #[.val (.ref ob)] [])) _
    refine XS.aloadN X0.here hx rfl (hb hby d10_0) rfl rfl  ?_
    exact k)
  obtain ⟨T2, X2, e2, st2⟩ := getF X0 hx hZ hown (host := "") (Or.inl (hw _ (List.mem_of_getElem? (i := 22) rfl))) Via.refl e0 F_kraft (g := (mkF m 1 #[.val (.ref ob)] [(.ref ob)])) rfl rfl (hb hby d10_1)
  have P3 : Wy p.tables e below (s₁.setTop (entryFrame m #[(.ref ob)] 1)) (T2.setTop (mkF m 4 #[.val (.ref ob)] [(.ref a4)])) := fun t k => P1 t (st2 _ k)
  have P4 : Wy p.tables e below (s₁.setTop (entryFrame m #[(.ref ob)] 1)) (T2.setTop (mkF m 5 #[.val (.ref ob)] [(.int (3 : Int32)), (.ref a4)])) := fun t k => P3 t (by
    show Steps p.tables e below (T2.setTop (mkF m 4 #[.val (.ref ob)] [(.ref a4)])) _
    refine XS.iconst X2.here hx rfl (hb hby d10_4) ?_
    exact k)
  obtain ⟨cl5, Ar5, hi5, ha5, -⟩ := I4.at (j := (3 : Int32)) (k := 3) rfl (by decide) (by decide)
  have P6 : Wy p.tables e below (s₁.setTop (entryFrame m #[(.ref ob)] 1)) (T2.setTop (mkF m 6 #[.val (.ref ob)] [(.long (kr 3))])) := fun t k => P4 t (X2.laload hx (j := (3 : Int32)) (v := (.long (kr 3))) (by rw [e2]; exact Ar5.1) (State.isArrayOf_alike hZ.alike Ar5.2.1) Ar5.2.2 hi5 ha5 (g := (mkF m 5 #[.val (.ref ob)] [(.int (3 : Int32)), (.ref a4)])) rfl rfl (hb hby d10_5) _ k)
  have P7 : Wy p.tables e below (s₁.setTop (entryFrame m #[(.ref ob)] 1)) (T2.setTop (mkF m 10 #[.val (.ref ob)] [(.int (lcmpW (kr 3) (-9223372036854775808 : Int64)))])) := fun t k => P6 t (by
    show Steps p.tables e below (T2.setTop (mkF m 6 #[.val (.ref ob)] [(.long (kr 3))])) _
    refine X2.ldc2Long hx hown (mvT hZ (hw _ (List.mem_of_getElem? (i := 59) rfl))) (g := (mkF m 6 #[.val (.ref ob)] [(.long (kr 3))])) rfl (hb hby d10_6) _ ?_
    show Steps p.tables e below (T2.setTop (mkF m 9 #[.val (.ref ob)] [(.long (-9223372036854775808 : Int64)), (.long (kr 3))])) _
    refine XS.lcmp X2.here hx rfl (hb hby d10_9) rfl ?_
    exact k)
  by_cases hc10_8 : (lcmpW (kr 3) (-9223372036854775808 : Int64)) = (0 : Int32)
  · have P9 : Wy p.tables e below (s₁.setTop (entryFrame m #[(.ref ob)] 1)) (T2.setTop (mkF m 14 #[.val (.ref ob)] [(.ref ob)])) := fun t k => P7 t (by
      show Steps p.tables e below (T2.setTop (mkF m 10 #[.val (.ref ob)] [(.int (lcmpW (kr 3) (-9223372036854775808 : Int64)))])) _
      refine XS.ifNo X2.here hx rfl (hb hby d10_10) rfl ((if0 _ _).trans (teq hc10_8).2) ?_
      show Steps p.tables e below (T2.setTop (mkF m 13 #[.val (.ref ob)] [])) _
      refine XS.aloadN X2.here hx rfl (hb hby d10_13) rfl rfl  ?_
      exact k)
    obtain ⟨T10, X10, e10, st10⟩ := getF X2 hx hZ hown (host := "") (Or.inl (hw _ (List.mem_of_getElem? (i := 22) rfl))) Via.refl e2 F_kraft (g := (mkF m 14 #[.val (.ref ob)] [(.ref ob)])) rfl rfl (hb hby d10_14)
    have P11 : Wy p.tables e below (s₁.setTop (entryFrame m #[(.ref ob)] 1)) (T10.setTop (mkF m 17 #[.val (.ref ob)] [(.ref a4)])) := fun t k => P9 t (st10 _ k)
    have P12 : Wy p.tables e below (s₁.setTop (entryFrame m #[(.ref ob)] 1)) (T10.setTop (mkF m 18 #[.val (.ref ob)] [(.int (0 : Int32)), (.ref a4)])) := fun t k => P11 t (by
      show Steps p.tables e below (T10.setTop (mkF m 17 #[.val (.ref ob)] [(.ref a4)])) _
      refine XS.iconst X10.here hx rfl (hb hby d10_17) ?_
      exact k)
    obtain ⟨cl13, Ar13, hi13, ha13, -⟩ := I4.at (j := (0 : Int32)) (k := 0) rfl (by decide) (by decide)
    have P14 : Wy p.tables e below (s₁.setTop (entryFrame m #[(.ref ob)] 1)) (T10.setTop (mkF m 19 #[.val (.ref ob)] [(.long (kr 0))])) := fun t k => P12 t (X10.laload hx (j := (0 : Int32)) (v := (.long (kr 0))) (by rw [e10]; exact Ar13.1) (State.isArrayOf_alike hZ.alike Ar13.2.1) Ar13.2.2 hi13 ha13 (g := (mkF m 18 #[.val (.ref ob)] [(.int (0 : Int32)), (.ref a4)])) rfl rfl (hb hby d10_18) _ k)
    have P15 : Wy p.tables e below (s₁.setTop (entryFrame m #[(.ref ob)] 1)) (T10.setTop (mkF m 20 #[.val (.ref ob)] [(.ref ob), (.long (kr 0))])) := fun t k => P14 t (by
      show Steps p.tables e below (T10.setTop (mkF m 19 #[.val (.ref ob)] [(.long (kr 0))])) _
      refine XS.aloadN X10.here hx rfl (hb hby d10_19) rfl rfl  ?_
      exact k)
    obtain ⟨T16, X16, e16, st16⟩ := getF X10 hx hZ hown (host := "") (Or.inl (hw _ (List.mem_of_getElem? (i := 22) rfl))) Via.refl e10 F_kraft (g := (mkF m 20 #[.val (.ref ob)] [(.ref ob), (.long (kr 0))])) rfl rfl (hb hby d10_20)
    have P17 : Wy p.tables e below (s₁.setTop (entryFrame m #[(.ref ob)] 1)) (T16.setTop (mkF m 23 #[.val (.ref ob)] [(.ref a4), (.long (kr 0))])) := fun t k => P15 t (st16 _ k)
    have P18 : Wy p.tables e below (s₁.setTop (entryFrame m #[(.ref ob)] 1)) (T16.setTop (mkF m 24 #[.val (.ref ob)] [(.int (1 : Int32)), (.ref a4), (.long (kr 0))])) := fun t k => P17 t (by
      show Steps p.tables e below (T16.setTop (mkF m 23 #[.val (.ref ob)] [(.ref a4), (.long (kr 0))])) _
      refine XS.iconst X16.here hx rfl (hb hby d10_23) ?_
      exact k)
    obtain ⟨cl19, Ar19, hi19, ha19, -⟩ := I4.at (j := (1 : Int32)) (k := 1) rfl (by decide) (by decide)
    have P20 : Wy p.tables e below (s₁.setTop (entryFrame m #[(.ref ob)] 1)) (T16.setTop (mkF m 25 #[.val (.ref ob)] [(.long (kr 1)), (.long (kr 0))])) := fun t k => P18 t (X16.laload hx (j := (1 : Int32)) (v := (.long (kr 1))) (by rw [e16]; exact Ar19.1) (State.isArrayOf_alike hZ.alike Ar19.2.1) Ar19.2.2 hi19 ha19 (g := (mkF m 24 #[.val (.ref ob)] [(.int (1 : Int32)), (.ref a4), (.long (kr 0))])) rfl rfl (hb hby d10_24) _ k)
    have P21 : Wy p.tables e below (s₁.setTop (entryFrame m #[(.ref ob)] 1)) (T16.setTop (mkF m 27 #[.val (.ref ob)] [(.ref ob), (.long ((kr 0) ||| (kr 1)))])) := fun t k => P20 t (by
      show Steps p.tables e below (T16.setTop (mkF m 25 #[.val (.ref ob)] [(.long (kr 1)), (.long (kr 0))])) _
      refine XS.lor X16.here hx rfl (hb hby d10_25) rfl ?_
      show Steps p.tables e below (T16.setTop (mkF m 26 #[.val (.ref ob)] [(.long ((kr 0) ||| (kr 1)))])) _
      refine XS.aloadN X16.here hx rfl (hb hby d10_26) rfl rfl  ?_
      exact k)
    obtain ⟨T22, X22, e22, st22⟩ := getF X16 hx hZ hown (host := "") (Or.inl (hw _ (List.mem_of_getElem? (i := 22) rfl))) Via.refl e16 F_kraft (g := (mkF m 27 #[.val (.ref ob)] [(.ref ob), (.long ((kr 0) ||| (kr 1)))])) rfl rfl (hb hby d10_27)
    have P23 : Wy p.tables e below (s₁.setTop (entryFrame m #[(.ref ob)] 1)) (T22.setTop (mkF m 30 #[.val (.ref ob)] [(.ref a4), (.long ((kr 0) ||| (kr 1)))])) := fun t k => P21 t (st22 _ k)
    have P24 : Wy p.tables e below (s₁.setTop (entryFrame m #[(.ref ob)] 1)) (T22.setTop (mkF m 31 #[.val (.ref ob)] [(.int (2 : Int32)), (.ref a4), (.long ((kr 0) ||| (kr 1)))])) := fun t k => P23 t (by
      show Steps p.tables e below (T22.setTop (mkF m 30 #[.val (.ref ob)] [(.ref a4), (.long ((kr 0) ||| (kr 1)))])) _
      refine XS.iconst X22.here hx rfl (hb hby d10_30) ?_
      exact k)
    obtain ⟨cl25, Ar25, hi25, ha25, -⟩ := I4.at (j := (2 : Int32)) (k := 2) rfl (by decide) (by decide)
    have P26 : Wy p.tables e below (s₁.setTop (entryFrame m #[(.ref ob)] 1)) (T22.setTop (mkF m 32 #[.val (.ref ob)] [(.long (kr 2)), (.long ((kr 0) ||| (kr 1)))])) := fun t k => P24 t (X22.laload hx (j := (2 : Int32)) (v := (.long (kr 2))) (by rw [e22]; exact Ar25.1) (State.isArrayOf_alike hZ.alike Ar25.2.1) Ar25.2.2 hi25 ha25 (g := (mkF m 31 #[.val (.ref ob)] [(.int (2 : Int32)), (.ref a4), (.long ((kr 0) ||| (kr 1)))])) rfl rfl (hb hby d10_31) _ k)
    have P27 : Wy p.tables e below (s₁.setTop (entryFrame m #[(.ref ob)] 1)) (T22.setTop (mkF m 34 #[.val (.ref ob)] [(.ref ob), (.long (((kr 0) ||| (kr 1)) ||| (kr 2)))])) := fun t k => P26 t (by
      show Steps p.tables e below (T22.setTop (mkF m 32 #[.val (.ref ob)] [(.long (kr 2)), (.long ((kr 0) ||| (kr 1)))])) _
      refine XS.lor X22.here hx rfl (hb hby d10_32) rfl ?_
      show Steps p.tables e below (T22.setTop (mkF m 33 #[.val (.ref ob)] [(.long (((kr 0) ||| (kr 1)) ||| (kr 2)))])) _
      refine XS.aloadN X22.here hx rfl (hb hby d10_33) rfl rfl  ?_
      exact k)
    obtain ⟨T28, X28, e28, st28⟩ := getF X22 hx hZ hown (host := "") (Or.inl (hw _ (List.mem_of_getElem? (i := 22) rfl))) Via.refl e22 F_kraft (g := (mkF m 34 #[.val (.ref ob)] [(.ref ob), (.long (((kr 0) ||| (kr 1)) ||| (kr 2)))])) rfl rfl (hb hby d10_34)
    have P29 : Wy p.tables e below (s₁.setTop (entryFrame m #[(.ref ob)] 1)) (T28.setTop (mkF m 37 #[.val (.ref ob)] [(.ref a4), (.long (((kr 0) ||| (kr 1)) ||| (kr 2)))])) := fun t k => P27 t (st28 _ k)
    have P30 : Wy p.tables e below (s₁.setTop (entryFrame m #[(.ref ob)] 1)) (T28.setTop (mkF m 38 #[.val (.ref ob)] [(.int (4 : Int32)), (.ref a4), (.long (((kr 0) ||| (kr 1)) ||| (kr 2)))])) := fun t k => P29 t (by
      show Steps p.tables e below (T28.setTop (mkF m 37 #[.val (.ref ob)] [(.ref a4), (.long (((kr 0) ||| (kr 1)) ||| (kr 2)))])) _
      refine XS.iconst X28.here hx rfl (hb hby d10_37) ?_
      exact k)
    obtain ⟨cl31, Ar31, hi31, ha31, -⟩ := I4.at (j := (4 : Int32)) (k := 4) rfl (by decide) (by decide)
    have P32 : Wy p.tables e below (s₁.setTop (entryFrame m #[(.ref ob)] 1)) (T28.setTop (mkF m 39 #[.val (.ref ob)] [(.long (kr 4)), (.long (((kr 0) ||| (kr 1)) ||| (kr 2)))])) := fun t k => P30 t (X28.laload hx (j := (4 : Int32)) (v := (.long (kr 4))) (by rw [e28]; exact Ar31.1) (State.isArrayOf_alike hZ.alike Ar31.2.1) Ar31.2.2 hi31 ha31 (g := (mkF m 38 #[.val (.ref ob)] [(.int (4 : Int32)), (.ref a4), (.long (((kr 0) ||| (kr 1)) ||| (kr 2)))])) rfl rfl (hb hby d10_38) _ k)
    have P33 : Wy p.tables e below (s₁.setTop (entryFrame m #[(.ref ob)] 1)) (T28.setTop (mkF m 42 #[.val (.ref ob)] [(.int (lcmpW ((((kr 0) ||| (kr 1)) ||| (kr 2)) ||| (kr 4)) (0 : Int64)))])) := fun t k => P32 t (by
      show Steps p.tables e below (T28.setTop (mkF m 39 #[.val (.ref ob)] [(.long (kr 4)), (.long (((kr 0) ||| (kr 1)) ||| (kr 2)))])) _
      refine XS.lor X28.here hx rfl (hb hby d10_39) rfl ?_
      show Steps p.tables e below (T28.setTop (mkF m 40 #[.val (.ref ob)] [(.long ((((kr 0) ||| (kr 1)) ||| (kr 2)) ||| (kr 4)))])) _
      refine XS.lconst X28.here hx rfl (hb hby d10_40) ?_
      show Steps p.tables e below (T28.setTop (mkF m 41 #[.val (.ref ob)] [(.long (0 : Int64)), (.long ((((kr 0) ||| (kr 1)) ||| (kr 2)) ||| (kr 4)))])) _
      refine XS.lcmp X28.here hx rfl (hb hby d10_41) rfl ?_
      exact k)
    by_cases hc42_34 : (lcmpW ((((kr 0) ||| (kr 1)) ||| (kr 2)) ||| (kr 4)) (0 : Int64)) = (0 : Int32)
    · have P35 : Wy p.tables e below (s₁.setTop (entryFrame m #[(.ref ob)] 1)) (T28.setTop (mkF m 50 #[.val (.ref ob)] [(.int (1 : Int32))])) := fun t k => P33 t (by
        show Steps p.tables e below (T28.setTop (mkF m 42 #[.val (.ref ob)] [(.int (lcmpW ((((kr 0) ||| (kr 1)) ||| (kr 2)) ||| (kr 4)) (0 : Int64)))])) _
        refine XS.ifNo X28.here hx rfl (hb hby d10_42) rfl ((if0 _ _).trans (teq hc42_34).2) ?_
        show Steps p.tables e below (T28.setTop (mkF m 45 #[.val (.ref ob)] [])) _
        refine XS.iconst X28.here hx rfl (hb hby d10_45) ?_
        show Steps p.tables e below (T28.setTop (mkF m 46 #[.val (.ref ob)] [(.int (1 : Int32))])) _
        refine XS.goto X28.here hx rfl (pc0 := 46) (pc' := 50) rfl (hb hby d10_46) (by decide) (by decide) ?_
        exact k)
      obtain ⟨fs, hr, hrun, hended, hW, hsame⟩ := X28.leave (v := some (.int (nar .boolean (1 : Int32)))) (fun h => by rw [Bd.returns] at h; cases h)
      refine ⟨_, _, P35 _ ?_, hrun, hended, _, _, rfl, ?_, ⟨_, rfl⟩, hW, hsame.mono (by decide) (by decide)⟩
      · show Steps p.tables e below (T28.setTop (mkF m 50 #[.val (.ref ob)] [(.int (1 : Int32))])) _
        exact retN X28 hx (t := .boolean) Bd.returns (by simp) (hb hby d10_50) hr
      · show Q10 Z ob a4 kr h0 n0 _ T28.heap _
        rw [e28]
        exact ⟨congrArg (fun z => some (Value.int z)) (show _ = own_code kr from by simp only [own_code, if_pos hc10_8, if_pos hc42_34]; try rfl), N0, rfl⟩
    · have P36 : Wy p.tables e below (s₁.setTop (entryFrame m #[(.ref ob)] 1)) (T28.setTop (mkF m 50 #[.val (.ref ob)] [(.int (0 : Int32))])) := fun t k => P33 t (by
        show Steps p.tables e below (T28.setTop (mkF m 42 #[.val (.ref ob)] [(.int (lcmpW ((((kr 0) ||| (kr 1)) ||| (kr 2)) ||| (kr 4)) (0 : Int64)))])) _
        refine XS.ifYes X28.here hx rfl (pc0 := 42) (pc' := 49) rfl (hb hby d10_42) rfl ((if0 _ _).trans (feq hc42_34).2) (by decide) (by decide) ?_
        show Steps p.tables e below (T28.setTop (mkF m 49 #[.val (.ref ob)] [])) _
        refine XS.iconst X28.here hx rfl (hb hby d10_49) ?_
        exact k)
      obtain ⟨fs, hr, hrun, hended, hW, hsame⟩ := X28.leave (v := some (.int (nar .boolean (0 : Int32)))) (fun h => by rw [Bd.returns] at h; cases h)
      refine ⟨_, _, P36 _ ?_, hrun, hended, _, _, rfl, ?_, ⟨_, rfl⟩, hW, hsame.mono (by decide) (by decide)⟩
      · show Steps p.tables e below (T28.setTop (mkF m 50 #[.val (.ref ob)] [(.int (0 : Int32))])) _
        exact retN X28 hx (t := .boolean) Bd.returns (by simp) (hb hby d10_50) hr
      · show Q10 Z ob a4 kr h0 n0 _ T28.heap _
        rw [e28]
        exact ⟨congrArg (fun z => some (Value.int z)) (show _ = own_code kr from by simp only [own_code, if_pos hc10_8, if_neg hc42_34]; try rfl), N0, rfl⟩
  · have P37 : Wy p.tables e below (s₁.setTop (entryFrame m #[(.ref ob)] 1)) (T2.setTop (mkF m 50 #[.val (.ref ob)] [(.int (0 : Int32))])) := fun t k => P7 t (by
      show Steps p.tables e below (T2.setTop (mkF m 10 #[.val (.ref ob)] [(.int (lcmpW (kr 3) (-9223372036854775808 : Int64)))])) _
      refine XS.ifYes X2.here hx rfl (pc0 := 10) (pc' := 49) rfl (hb hby d10_10) rfl ((if0 _ _).trans (feq hc10_8).2) (by decide) (by decide) ?_
      show Steps p.tables e below (T2.setTop (mkF m 49 #[.val (.ref ob)] [])) _
      refine XS.iconst X2.here hx rfl (hb hby d10_49) ?_
      exact k)
    obtain ⟨fs, hr, hrun, hended, hW, hsame⟩ := X2.leave (v := some (.int (nar .boolean (0 : Int32)))) (fun h => by rw [Bd.returns] at h; cases h)
    refine ⟨_, _, P37 _ ?_, hrun, hended, _, _, rfl, ?_, ⟨_, rfl⟩, hW, hsame.mono (by decide) (by decide)⟩
    · show Steps p.tables e below (T2.setTop (mkF m 50 #[.val (.ref ob)] [(.int (0 : Int32))])) _
      exact retN X2 hx (t := .boolean) Bd.returns (by simp) (hb hby d10_50) hr
    · show Q10 Z ob a4 kr h0 n0 _ T2.heap _
      rw [e2]
      exact ⟨congrArg (fun z => some (Value.int z)) (show _ = own_code kr from by simp only [own_code, if_neg hc10_8]; try rfl), N0, rfl⟩
/-- the table at ob, with its four arrays -/
def own_T (Z : State) (h : Heap) (ob a1 a2 a3 a4 : Addr) (lf cf : Nat → Int32) (vf kr : Nat → Int64) (sz : Int32) (ch : Int64) : Prop :=
  Exa Z h ob "com/example/leafpack/leafpack/CodeTable" ∧ Fld Z h ob "com/example/leafpack/leafpack/CodeTable" "lengths" "[I" (.ref a1) ∧ Fld Z h ob "com/example/leafpack/leafpack/CodeTable" "countOfLength" "[I" (.ref a2) ∧ Fld Z h ob "com/example/leafpack/leafpack/CodeTable" "valuesOfLength" "[J" (.ref a3) ∧ Fld Z h ob "com/example/leafpack/leafpack/CodeTable" "kraft" "[J" (.ref a4) ∧ Fld Z h ob "com/example/leafpack/leafpack/CodeTable" "size" "I" (.int sz) ∧ Fld Z h ob "com/example/leafpack/leafpack/CodeTable" "changes" "J" (.long ch) ∧ own_Ar Value.int .int Z h a1 256 lf ∧ own_Ar Value.int .int Z h a2 256 cf ∧ own_Ar Value.long .long Z h a3 1024 vf ∧ own_Ar Value.long .long Z h a4 5 kr
/-- the five are old enough and no two are one -/
def own_N (n0 : Nat) (ob a1 a2 a3 a4 : Addr) : Prop := n0 ≤ ob ∧ n0 ≤ a1 ∧ n0 ≤ a2 ∧ n0 ≤ a3 ∧ n0 ≤ a4 ∧ ob ≠ a1 ∧ ob ≠ a2 ∧ ob ≠ a3 ∧ ob ≠ a4 ∧ a1 ≠ a2 ∧ a1 ≠ a3 ∧ a1 ≠ a4 ∧ a2 ≠ a3 ∧ a2 ≠ a4 ∧ a3 ≠ a4
theorem d2_0 : decode prog_23_method_1_code 0 = .ok (.aload_n 0, 1) := by decide +kernel
theorem d2_1 : decode prog_23_method_1_code 1 = .ok (.invokespecial 3, 3) := by decide +kernel
theorem d2_4 : decode prog_23_method_1_code 4 = .ok (.aload_n 0, 1) := by decide +kernel
theorem d2_5 : decode prog_23_method_1_code 5 = .ok (.sipush 256, 3) := by decide +kernel
theorem d2_8 : decode prog_23_method_1_code 8 = .ok (.newarray .int, 2) := by decide +kernel
theorem d2_10 : decode prog_23_method_1_code 10 = .ok (.putfield 9, 3) := by decide +kernel
theorem d2_13 : decode prog_23_method_1_code 13 = .ok (.aload_n 0, 1) := by decide +kernel
theorem d2_14 : decode prog_23_method_1_code 14 = .ok (.sipush 256, 3) := by decide +kernel
theorem d2_17 : decode prog_23_method_1_code 17 = .ok (.newarray .int, 2) := by decide +kernel
theorem d2_19 : decode prog_23_method_1_code 19 = .ok (.putfield 17, 3) := by decide +kernel
theorem d2_22 : decode prog_23_method_1_code 22 = .ok (.aload_n 0, 1) := by decide +kernel
theorem d2_23 : decode prog_23_method_1_code 23 = .ok (.sipush 1024, 3) := by decide +kernel
theorem d2_26 : decode prog_23_method_1_code 26 = .ok (.newarray .long, 2) := by decide +kernel
theorem d2_28 : decode prog_23_method_1_code 28 = .ok (.putfield 20, 3) := by decide +kernel
theorem d2_31 : decode prog_23_method_1_code 31 = .ok (.aload_n 0, 1) := by decide +kernel
theorem d2_32 : decode prog_23_method_1_code 32 = .ok (.iconst 5, 1) := by decide +kernel
theorem d2_33 : decode prog_23_method_1_code 33 = .ok (.newarray .long, 2) := by decide +kernel
theorem d2_35 : decode prog_23_method_1_code 35 = .ok (.putfield 24, 3) := by decide +kernel
theorem d2_38 : decode prog_23_method_1_code 38 = .ok (.aload_n 0, 1) := by decide +kernel
theorem d2_39 : decode prog_23_method_1_code 39 = .ok (.getfield 9, 3) := by decide +kernel
theorem d2_42 : decode prog_23_method_1_code 42 = .ok (.iconst (-1), 1) := by decide +kernel
theorem d2_43 : decode prog_23_method_1_code 43 = .ok (.invokestatic 27, 3) := by decide +kernel
theorem d2_46 : decode prog_23_method_1_code 46 = .ok (.return_, 1) := by decide +kernel
theorem pd_lAIIrV : parseMethodDescriptor "([II)V" = some ⟨[(.array .int), .int], none⟩ := by decide +kernel
theorem ef_rm2 (m : MethodId) (ob : Addr)  : entryFrame m #[(.ref ob)] 1 = (mkF m 0 #[.val (.ref ob)] []) := by first | (simp [entryFrame, mkF, argsToLocals, Value.category]; done) | rfl
def Q2 (Z : State) (ob : Addr) (h0 : Heap) (n0 : Nat) (v : Option Value) (h : Heap) (L : List Loc) : Prop := v = none ∧ Fr n0 L ∧ Keep h0 h [ob] ∧ ∃ a1 a2 a3 a4 : Addr, own_N n0 ob a1 a2 a3 a4 ∧ own_T Z h ob a1 a2 a3 a4 (fun _ => (-1 : Int32)) (fun _ => (0 : Int32)) (fun _ => (0 : Int64)) (fun _ => (0 : Int64)) (0 : Int32) (0 : Int64)
set_option maxRecDepth 65536 in
set_option maxHeartbeats 40000000 in
theorem rm2 (l : Launch) (Z : State) (a0 : Array Value) (hw : ∀ d ∈ tables_1, d.before a0 Z = true) (ws : List Jvm.Cond) (ob : Addr) (h0 : Heap) (n0 : Nat) (Z0 : n0 ≤ h0.size) (E_ob : Exa Z h0 ob "com/example/leafpack/leafpack/CodeTable") (F_lengths : Fld Z h0 ob "com/example/leafpack/leafpack/CodeTable" "lengths" "[I" .null) (F_countOfLength : Fld Z h0 ob "com/example/leafpack/leafpack/CodeTable" "countOfLength" "[I" .null) (F_valuesOfLength : Fld Z h0 ob "com/example/leafpack/leafpack/CodeTable" "valuesOfLength" "[J" .null) (F_kraft : Fld Z h0 ob "com/example/leafpack/leafpack/CodeTable" "kraft" "[J" .null) (F_size : Fld Z h0 ob "com/example/leafpack/leafpack/CodeTable" "size" "I" (.int (0 : Int32))) (F_changes : Fld Z h0 ob "com/example/leafpack/leafpack/CodeTable" "changes" "J" (.long (0 : Int64))) (g_ob : n0 ≤ ob) :
    MetFree l (⟨"com/example/leafpack/leafpack/CodeTable", "<init>", "()V"⟩ : MethodName) (head1 (Jvm.Cond.code (⟨"com/example/leafpack/leafpack/CodeTable", "<init>", "()V"⟩ : MethodName) prog_23_method_1_code 1 none :: ws) ({ frames := 1, cells := 4, slots := 1541, locals := 15 } : Room)) (fun a U => a = #[(.ref ob)] ∧ Z.Warmed39 U.vm ∧ U.heap = h0) (fun _ _ _ _ _ => True) (fun _ U o U' => ∃ v L, o = .returned v ∧ Q2 Z ob h0 n0 v U'.heap L ∧ FrameEnd U o U' L ({ frames := 1, cells := 4, slots := 1541, locals := 15 } : Room).cells ({ frames := 1, cells := 4, slots := 1541, locals := 15 } : Room).slots) := by
  refine MetFree.of_bodySF (plainFor_of_name pn_com_example_leafpack_leafpack_CodeTable) hisR ?_
  intro p e s m args below meth c s₁ Bd hml0 hP hK
  obtain ⟨rfl, hZ, hh⟩ := hP
  have hx := Bd.exec
  have hby := Bd.bytes
  have hml : c.maxLocals = 1 := hml0
  have hown : s.vm.findClass "com/example/leafpack/leafpack/CodeTable" = some m.cls := by have q := findClass_of_methodNamed Bd.named; exact q
  have hnm := (name_of_methodNamed Bd.named Bd.method).1
  have X0 : Stand p l e ({ frames := 1, cells := 4, slots := 1541, locals := 15 } : Room) s m #[(.ref ob)] below meth c s₁ [] 0 0 := Stand.of_body Bd
  have e0 : s₁.heap = h0 := by rw [← hh, Bd.state]; rfl
  have N0 := Fr.nil n0
  have P0 : Wy p.tables e below (s₁.setTop (entryFrame m #[(.ref ob)] 1)) (s₁.setTop (mkF m 0 #[.val (.ref ob)] [])) := fun t k => castTop (ef_rm2 m ob) k
  have P1 : Wy p.tables e below (s₁.setTop (entryFrame m #[(.ref ob)] 1)) (s₁.setTop (mkF m 1 #[.val (.ref ob)] [(.ref ob)])) := fun t k => P0 t (by
    show Steps p.tables e below (s₁.setTop (mkF m 0 #[.val (.ref ob)] [])) _
    refine XS.aloadN X0.here hx rfl (hb hby d2_0) rfl rfl  ?_
    exact k)
  obtain ⟨T2, X2, e2, st2⟩ := initO X0 hx hZ hown (hw _ (List.mem_of_getElem? (i := 11) rfl)) (hw _ (List.mem_of_getElem? (i := 12) rfl)) (hw _ (List.mem_of_getElem? (i := 13) rfl)) e0 (g := (mkF m 1 #[.val (.ref ob)] [(.ref ob)])) rfl (by rw [hml]; rfl) rfl (hb hby d2_1) (by decide) (W := 0) (by show 2 * 0 + _ ≤ _; exact Nat.le_of_eq rfl) (by decide)
  have P3 : Wy p.tables e below (s₁.setTop (entryFrame m #[(.ref ob)] 1)) (T2.setTop (mkF m 4 #[.val (.ref ob)] [])) := fun t k => P1 t (st2 _ k)
  have P4 : Wy p.tables e below (s₁.setTop (entryFrame m #[(.ref ob)] 1)) (T2.setTop (mkF m 8 #[.val (.ref ob)] [(.int (256 : Int32)), (.ref ob)])) := fun t k => P3 t (by
    show Steps p.tables e below (T2.setTop (mkF m 4 #[.val (.ref ob)] [])) _
    refine XS.aloadN X2.here hx rfl (hb hby d2_4) rfl rfl  ?_
    show Steps p.tables e below (T2.setTop (mkF m 5 #[.val (.ref ob)] [(.ref ob)])) _
    refine XS.sipush X2.here hx rfl (hb hby d2_5) ?_
    exact k)
  obtain ⟨T5, h5, k5, X5, e5, E5, A5, st5⟩ := newP X2 hx hZ (hw _ (List.mem_of_getElem? (i := 14) rfl)) e2 (g := (mkF m 8 #[.val (.ref ob)] [(.int (256 : Int32)), (.ref ob)])) rfl (hb hby d2_8) rfl (by decide) (cap := 256) (by decide) (by decide) (by decide) (by decide)
  obtain ⟨b5, g5⟩ : ∃ z, z = h0.size := ⟨_, rfl⟩
  rw [← g5] at A5 st5
  have g_b5 : n0 ≤ b5 := Nat.le_trans Z0 (Nat.le_of_eq g5.symm)
  have z5 : n0 ≤ h5.size := Nat.le_trans Z0 E5.1
  have I5 := own_Ar.ofInt (Arv.new A5 (by decide)) rfl
  have ne_ob_b5 : ob ≠ b5 := Nat.ne_of_lt (Nat.lt_of_lt_of_le E_ob.lt (Nat.le_of_eq g5.symm))
  have sz_b5 : h0.size ≤ b5 := Nat.le_trans (Keep.refl h0 [ob]).1 (Nat.le_of_eq g5.symm)
  have K5 : Keep h0 h5 [ob] := (Keep.refl h0 [ob]).ext E5
  have A5_ob := E_ob.ext E5
  have F5_ob_lengths := F_lengths.ext E5
  have F5_ob_countOfLength := F_countOfLength.ext E5
  have F5_ob_valuesOfLength := F_valuesOfLength.ext E5
  have F5_ob_kraft := F_kraft.ext E5
  have F5_ob_size := F_size.ext E5
  have F5_ob_changes := F_changes.ext E5
  have P6 : Wy p.tables e below (s₁.setTop (entryFrame m #[(.ref ob)] 1)) (T5.setTop (mkF m 10 #[.val (.ref ob)] [(.ref b5), (.ref ob)])) := fun t k => P4 t (st5 _ k)
  obtain ⟨T7, h7, X7, e7, W7, st7⟩ := putF X5 hx hZ hown (host := "") (Or.inl (hw _ (List.mem_of_getElem? (i := 15) rfl))) Via.refl e5 F5_ob_lengths A5_ob (Or.inr ⟨(hw _ (List.mem_of_getElem? (i := 16) rfl)), rfl, hnm⟩) (hw _ (List.mem_of_getElem? (i := 6) rfl)) (ty := (.array .int)) (by decide) rfl rfl (g := (mkF m 10 #[.val (.ref ob)] [(.ref b5), (.ref ob)])) rfl rfl (hb hby d2_10)
  have Fw7 := F5_ob_lengths.same W7
  have N7 := Fr.snoc X7 N0 g_ob
  have z7 : n0 ≤ h7.size := Nat.le_trans z5 (Keep.of_wr W7).1
  have I7_b5 := I5.other W7 (Ne.symm ne_ob_b5)
  have A7_ob := A5_ob.wr W7
  have F7_ob_countOfLength := F5_ob_countOfLength.other W7 (Or.inr (slot_ne (Or.inr (hw _ (List.mem_of_getElem? (i := 18) rfl))) (Or.inr (hw _ (List.mem_of_getElem? (i := 16) rfl))) (by decide) (t := (.array .int)) (t' := (.array .int)) (by decide) (by decide)))
  have F7_ob_valuesOfLength := F5_ob_valuesOfLength.other W7 (Or.inr (slot_ne (Or.inr (hw _ (List.mem_of_getElem? (i := 21) rfl))) (Or.inr (hw _ (List.mem_of_getElem? (i := 16) rfl))) (by decide) (t := (.array .long)) (t' := (.array .int)) (by decide) (by decide)))
  have F7_ob_kraft := F5_ob_kraft.other W7 (Or.inr (slot_ne (Or.inr (hw _ (List.mem_of_getElem? (i := 23) rfl))) (Or.inr (hw _ (List.mem_of_getElem? (i := 16) rfl))) (by decide) (t := (.array .long)) (t' := (.array .int)) (by decide) (by decide)))
  have F7_ob_size := F5_ob_size.other W7 (Or.inr (slot_ne (Or.inl (hw _ (List.mem_of_getElem? (i := 46) rfl))) (Or.inr (hw _ (List.mem_of_getElem? (i := 16) rfl))) (by decide) (t := .int) (t' := (.array .int)) (by decide) (by decide)))
  have F7_ob_changes := F5_ob_changes.other W7 (Or.inr (slot_ne (Or.inl (hw _ (List.mem_of_getElem? (i := 48) rfl))) (Or.inr (hw _ (List.mem_of_getElem? (i := 16) rfl))) (by decide) (t := .long) (t' := (.array .int)) (by decide) (by decide)))
  have K7 : Keep h0 h7 [ob] := K5.wr W7 (Or.inl (List.mem_of_getElem? (i := 0) rfl))
  have P8 : Wy p.tables e below (s₁.setTop (entryFrame m #[(.ref ob)] 1)) (T7.setTop (mkF m 13 #[.val (.ref ob)] [])) := fun t k => P6 t (st7 _ k)
  have P9 : Wy p.tables e below (s₁.setTop (entryFrame m #[(.ref ob)] 1)) (T7.setTop (mkF m 17 #[.val (.ref ob)] [(.int (256 : Int32)), (.ref ob)])) := fun t k => P8 t (by
    show Steps p.tables e below (T7.setTop (mkF m 13 #[.val (.ref ob)] [])) _
    refine XS.aloadN X7.here hx rfl (hb hby d2_13) rfl rfl  ?_
    show Steps p.tables e below (T7.setTop (mkF m 14 #[.val (.ref ob)] [(.ref ob)])) _
    refine XS.sipush X7.here hx rfl (hb hby d2_14) ?_
    exact k)
  obtain ⟨T10, h10, k10, X10, e10, E10, A10, st10⟩ := newP X7 hx hZ (hw _ (List.mem_of_getElem? (i := 14) rfl)) e7 (g := (mkF m 17 #[.val (.ref ob)] [(.int (256 : Int32)), (.ref ob)])) rfl (hb hby d2_17) rfl (by decide) (cap := 256) (by decide) (by decide) (by decide) (by decide)
  obtain ⟨b10, g10⟩ : ∃ z, z = h7.size := ⟨_, rfl⟩
  rw [← g10] at A10 st10
  have g_b10 : n0 ≤ b10 := Nat.le_trans z7 (Nat.le_of_eq g10.symm)
  have z10 : n0 ≤ h10.size := Nat.le_trans z7 E10.1
  have I10 := own_Ar.ofInt (Arv.new A10 (by decide)) rfl
  have ne_ob_b10 : ob ≠ b10 := Nat.ne_of_lt (Nat.lt_of_lt_of_le A7_ob.lt (Nat.le_of_eq g10.symm))
  have ne_b5_b10 : b5 ≠ b10 := Nat.ne_of_lt (Nat.lt_of_lt_of_le I7_b5.lt (Nat.le_of_eq g10.symm))
  have sz_b10 : h0.size ≤ b10 := Nat.le_trans K7.1 (Nat.le_of_eq g10.symm)
  have K10 : Keep h0 h10 [ob] := K7.ext E10
  have I10_b5 := I7_b5.ext E10
  have A10_ob := A7_ob.ext E10
  have F10_ob_lengths := Fw7.ext E10
  have F10_ob_countOfLength := F7_ob_countOfLength.ext E10
  have F10_ob_valuesOfLength := F7_ob_valuesOfLength.ext E10
  have F10_ob_kraft := F7_ob_kraft.ext E10
  have F10_ob_size := F7_ob_size.ext E10
  have F10_ob_changes := F7_ob_changes.ext E10
  have P11 : Wy p.tables e below (s₁.setTop (entryFrame m #[(.ref ob)] 1)) (T10.setTop (mkF m 19 #[.val (.ref ob)] [(.ref b10), (.ref ob)])) := fun t k => P9 t (st10 _ k)
  obtain ⟨T12, h12, X12, e12, W12, st12⟩ := putF X10 hx hZ hown (host := "") (Or.inl (hw _ (List.mem_of_getElem? (i := 17) rfl))) Via.refl e10 F10_ob_countOfLength A10_ob (Or.inr ⟨(hw _ (List.mem_of_getElem? (i := 18) rfl)), rfl, hnm⟩) (hw _ (List.mem_of_getElem? (i := 6) rfl)) (ty := (.array .int)) (by decide) rfl rfl (g := (mkF m 19 #[.val (.ref ob)] [(.ref b10), (.ref ob)])) rfl rfl (hb hby d2_19)
  have Fw12 := F10_ob_countOfLength.same W12
  have N12 := Fr.snoc X12 N7 g_ob
  have z12 : n0 ≤ h12.size := Nat.le_trans z10 (Keep.of_wr W12).1
  have I12_b5 := I10_b5.other W12 (Ne.symm ne_ob_b5)
  have I12_b10 := I10.other W12 (Ne.symm ne_ob_b10)
  have A12_ob := A10_ob.wr W12
  have F12_ob_lengths := F10_ob_lengths.other W12 (Or.inr (slot_ne (Or.inr (hw _ (List.mem_of_getElem? (i := 16) rfl))) (Or.inr (hw _ (List.mem_of_getElem? (i := 18) rfl))) (by decide) (t := (.array .int)) (t' := (.array .int)) (by decide) (by decide)))
  have F12_ob_valuesOfLength := F10_ob_valuesOfLength.other W12 (Or.inr (slot_ne (Or.inr (hw _ (List.mem_of_getElem? (i := 21) rfl))) (Or.inr (hw _ (List.mem_of_getElem? (i := 18) rfl))) (by decide) (t := (.array .long)) (t' := (.array .int)) (by decide) (by decide)))
  have F12_ob_kraft := F10_ob_kraft.other W12 (Or.inr (slot_ne (Or.inr (hw _ (List.mem_of_getElem? (i := 23) rfl))) (Or.inr (hw _ (List.mem_of_getElem? (i := 18) rfl))) (by decide) (t := (.array .long)) (t' := (.array .int)) (by decide) (by decide)))
  have F12_ob_size := F10_ob_size.other W12 (Or.inr (slot_ne (Or.inl (hw _ (List.mem_of_getElem? (i := 46) rfl))) (Or.inr (hw _ (List.mem_of_getElem? (i := 18) rfl))) (by decide) (t := .int) (t' := (.array .int)) (by decide) (by decide)))
  have F12_ob_changes := F10_ob_changes.other W12 (Or.inr (slot_ne (Or.inl (hw _ (List.mem_of_getElem? (i := 48) rfl))) (Or.inr (hw _ (List.mem_of_getElem? (i := 18) rfl))) (by decide) (t := .long) (t' := (.array .int)) (by decide) (by decide)))
  have K12 : Keep h0 h12 [ob] := K10.wr W12 (Or.inl (List.mem_of_getElem? (i := 0) rfl))
  have P13 : Wy p.tables e below (s₁.setTop (entryFrame m #[(.ref ob)] 1)) (T12.setTop (mkF m 22 #[.val (.ref ob)] [])) := fun t k => P11 t (st12 _ k)
  have P14 : Wy p.tables e below (s₁.setTop (entryFrame m #[(.ref ob)] 1)) (T12.setTop (mkF m 26 #[.val (.ref ob)] [(.int (1024 : Int32)), (.ref ob)])) := fun t k => P13 t (by
    show Steps p.tables e below (T12.setTop (mkF m 22 #[.val (.ref ob)] [])) _
    refine XS.aloadN X12.here hx rfl (hb hby d2_22) rfl rfl  ?_
    show Steps p.tables e below (T12.setTop (mkF m 23 #[.val (.ref ob)] [(.ref ob)])) _
    refine XS.sipush X12.here hx rfl (hb hby d2_23) ?_
    exact k)
  obtain ⟨T15, h15, k15, X15, e15, E15, A15, st15⟩ := newP X12 hx hZ (hw _ (List.mem_of_getElem? (i := 19) rfl)) e12 (g := (mkF m 26 #[.val (.ref ob)] [(.int (1024 : Int32)), (.ref ob)])) rfl (hb hby d2_26) rfl (by decide) (cap := 1024) (by decide) (by decide) (by decide) (by decide)
  obtain ⟨b15, g15⟩ : ∃ z, z = h12.size := ⟨_, rfl⟩
  rw [← g15] at A15 st15
  have g_b15 : n0 ≤ b15 := Nat.le_trans z12 (Nat.le_of_eq g15.symm)
  have z15 : n0 ≤ h15.size := Nat.le_trans z12 E15.1
  have I15 := own_Ar.ofLong (Arv.new A15 (by decide)) rfl
  have ne_ob_b15 : ob ≠ b15 := Nat.ne_of_lt (Nat.lt_of_lt_of_le A12_ob.lt (Nat.le_of_eq g15.symm))
  have ne_b5_b15 : b5 ≠ b15 := Nat.ne_of_lt (Nat.lt_of_lt_of_le I12_b5.lt (Nat.le_of_eq g15.symm))
  have ne_b10_b15 : b10 ≠ b15 := Nat.ne_of_lt (Nat.lt_of_lt_of_le I12_b10.lt (Nat.le_of_eq g15.symm))
  have sz_b15 : h0.size ≤ b15 := Nat.le_trans K12.1 (Nat.le_of_eq g15.symm)
  have K15 : Keep h0 h15 [ob] := K12.ext E15
  have I15_b5 := I12_b5.ext E15
  have I15_b10 := I12_b10.ext E15
  have A15_ob := A12_ob.ext E15
  have F15_ob_lengths := F12_ob_lengths.ext E15
  have F15_ob_countOfLength := Fw12.ext E15
  have F15_ob_valuesOfLength := F12_ob_valuesOfLength.ext E15
  have F15_ob_kraft := F12_ob_kraft.ext E15
  have F15_ob_size := F12_ob_size.ext E15
  have F15_ob_changes := F12_ob_changes.ext E15
  have P16 : Wy p.tables e below (s₁.setTop (entryFrame m #[(.ref ob)] 1)) (T15.setTop (mkF m 28 #[.val (.ref ob)] [(.ref b15), (.ref ob)])) := fun t k => P14 t (st15 _ k)
  obtain ⟨T17, h17, X17, e17, W17, st17⟩ := putF X15 hx hZ hown (host := "") (Or.inl (hw _ (List.mem_of_getElem? (i := 20) rfl))) Via.refl e15 F15_ob_valuesOfLength A15_ob (Or.inr ⟨(hw _ (List.mem_of_getElem? (i := 21) rfl)), rfl, hnm⟩) (hw _ (List.mem_of_getElem? (i := 6) rfl)) (ty := (.array .long)) (by decide) rfl rfl (g := (mkF m 28 #[.val (.ref ob)] [(.ref b15), (.ref ob)])) rfl rfl (hb hby d2_28)
  have Fw17 := F15_ob_valuesOfLength.same W17
  have N17 := Fr.snoc X17 N12 g_ob
  have z17 : n0 ≤ h17.size := Nat.le_trans z15 (Keep.of_wr W17).1
  have I17_b5 := I15_b5.other W17 (Ne.symm ne_ob_b5)
  have I17_b10 := I15_b10.other W17 (Ne.symm ne_ob_b10)
  have I17_b15 := I15.other W17 (Ne.symm ne_ob_b15)
  have A17_ob := A15_ob.wr W17
  have F17_ob_lengths := F15_ob_lengths.other W17 (Or.inr (slot_ne (Or.inr (hw _ (List.mem_of_getElem? (i := 16) rfl))) (Or.inr (hw _ (List.mem_of_getElem? (i := 21) rfl))) (by decide) (t := (.array .int)) (t' := (.array .long)) (by decide) (by decide)))
  have F17_ob_countOfLength := F15_ob_countOfLength.other W17 (Or.inr (slot_ne (Or.inr (hw _ (List.mem_of_getElem? (i := 18) rfl))) (Or.inr (hw _ (List.mem_of_getElem? (i := 21) rfl))) (by decide) (t := (.array .int)) (t' := (.array .long)) (by decide) (by decide)))
  have F17_ob_kraft := F15_ob_kraft.other W17 (Or.inr (slot_ne (Or.inr (hw _ (List.mem_of_getElem? (i := 23) rfl))) (Or.inr (hw _ (List.mem_of_getElem? (i := 21) rfl))) (by decide) (t := (.array .long)) (t' := (.array .long)) (by decide) (by decide)))
  have F17_ob_size := F15_ob_size.other W17 (Or.inr (slot_ne (Or.inl (hw _ (List.mem_of_getElem? (i := 46) rfl))) (Or.inr (hw _ (List.mem_of_getElem? (i := 21) rfl))) (by decide) (t := .int) (t' := (.array .long)) (by decide) (by decide)))
  have F17_ob_changes := F15_ob_changes.other W17 (Or.inr (slot_ne (Or.inl (hw _ (List.mem_of_getElem? (i := 48) rfl))) (Or.inr (hw _ (List.mem_of_getElem? (i := 21) rfl))) (by decide) (t := .long) (t' := (.array .long)) (by decide) (by decide)))
  have K17 : Keep h0 h17 [ob] := K15.wr W17 (Or.inl (List.mem_of_getElem? (i := 0) rfl))
  have P18 : Wy p.tables e below (s₁.setTop (entryFrame m #[(.ref ob)] 1)) (T17.setTop (mkF m 31 #[.val (.ref ob)] [])) := fun t k => P16 t (st17 _ k)
  have P19 : Wy p.tables e below (s₁.setTop (entryFrame m #[(.ref ob)] 1)) (T17.setTop (mkF m 33 #[.val (.ref ob)] [(.int (5 : Int32)), (.ref ob)])) := fun t k => P18 t (by
    show Steps p.tables e below (T17.setTop (mkF m 31 #[.val (.ref ob)] [])) _
    refine XS.aloadN X17.here hx rfl (hb hby d2_31) rfl rfl  ?_
    show Steps p.tables e below (T17.setTop (mkF m 32 #[.val (.ref ob)] [(.ref ob)])) _
    refine XS.iconst X17.here hx rfl (hb hby d2_32) ?_
    exact k)
  obtain ⟨T20, h20, k20, X20, e20, E20, A20, st20⟩ := newP X17 hx hZ (hw _ (List.mem_of_getElem? (i := 19) rfl)) e17 (g := (mkF m 33 #[.val (.ref ob)] [(.int (5 : Int32)), (.ref ob)])) rfl (hb hby d2_33) rfl (by decide) (cap := 5) (by decide) (by decide) (by decide) (by decide)
  obtain ⟨b20, g20⟩ : ∃ z, z = h17.size := ⟨_, rfl⟩
  rw [← g20] at A20 st20
  have g_b20 : n0 ≤ b20 := Nat.le_trans z17 (Nat.le_of_eq g20.symm)
  have z20 : n0 ≤ h20.size := Nat.le_trans z17 E20.1
  have I20 := own_Ar.ofLong (Arv.new A20 (by decide)) rfl
  have ne_ob_b20 : ob ≠ b20 := Nat.ne_of_lt (Nat.lt_of_lt_of_le A17_ob.lt (Nat.le_of_eq g20.symm))
  have ne_b5_b20 : b5 ≠ b20 := Nat.ne_of_lt (Nat.lt_of_lt_of_le I17_b5.lt (Nat.le_of_eq g20.symm))
  have ne_b10_b20 : b10 ≠ b20 := Nat.ne_of_lt (Nat.lt_of_lt_of_le I17_b10.lt (Nat.le_of_eq g20.symm))
  have ne_b15_b20 : b15 ≠ b20 := Nat.ne_of_lt (Nat.lt_of_lt_of_le I17_b15.lt (Nat.le_of_eq g20.symm))
  have sz_b20 : h0.size ≤ b20 := Nat.le_trans K17.1 (Nat.le_of_eq g20.symm)
  have K20 : Keep h0 h20 [ob] := K17.ext E20
  have I20_b5 := I17_b5.ext E20
  have I20_b10 := I17_b10.ext E20
  have I20_b15 := I17_b15.ext E20
  have A20_ob := A17_ob.ext E20
  have F20_ob_lengths := F17_ob_lengths.ext E20
  have F20_ob_countOfLength := F17_ob_countOfLength.ext E20
  have F20_ob_valuesOfLength := Fw17.ext E20
  have F20_ob_kraft := F17_ob_kraft.ext E20
  have F20_ob_size := F17_ob_size.ext E20
  have F20_ob_changes := F17_ob_changes.ext E20
  have P21 : Wy p.tables e below (s₁.setTop (entryFrame m #[(.ref ob)] 1)) (T20.setTop (mkF m 35 #[.val (.ref ob)] [(.ref b20), (.ref ob)])) := fun t k => P19 t (st20 _ k)
  obtain ⟨T22, h22, X22, e22, W22, st22⟩ := putF X20 hx hZ hown (host := "") (Or.inl (hw _ (List.mem_of_getElem? (i := 22) rfl))) Via.refl e20 F20_ob_kraft A20_ob (Or.inr ⟨(hw _ (List.mem_of_getElem? (i := 23) rfl)), rfl, hnm⟩) (hw _ (List.mem_of_getElem? (i := 6) rfl)) (ty := (.array .long)) (by decide) rfl rfl (g := (mkF m 35 #[.val (.ref ob)] [(.ref b20), (.ref ob)])) rfl rfl (hb hby d2_35)
  have Fw22 := F20_ob_kraft.same W22
  have N22 := Fr.snoc X22 N17 g_ob
  have z22 : n0 ≤ h22.size := Nat.le_trans z20 (Keep.of_wr W22).1
  have I22_b5 := I20_b5.other W22 (Ne.symm ne_ob_b5)
  have I22_b10 := I20_b10.other W22 (Ne.symm ne_ob_b10)
  have I22_b15 := I20_b15.other W22 (Ne.symm ne_ob_b15)
  have I22_b20 := I20.other W22 (Ne.symm ne_ob_b20)
  have A22_ob := A20_ob.wr W22
  have F22_ob_lengths := F20_ob_lengths.other W22 (Or.inr (slot_ne (Or.inr (hw _ (List.mem_of_getElem? (i := 16) rfl))) (Or.inr (hw _ (List.mem_of_getElem? (i := 23) rfl))) (by decide) (t := (.array .int)) (t' := (.array .long)) (by decide) (by decide)))
  have F22_ob_countOfLength := F20_ob_countOfLength.other W22 (Or.inr (slot_ne (Or.inr (hw _ (List.mem_of_getElem? (i := 18) rfl))) (Or.inr (hw _ (List.mem_of_getElem? (i := 23) rfl))) (by decide) (t := (.array .int)) (t' := (.array .long)) (by decide) (by decide)))
  have F22_ob_valuesOfLength := F20_ob_valuesOfLength.other W22 (Or.inr (slot_ne (Or.inr (hw _ (List.mem_of_getElem? (i := 21) rfl))) (Or.inr (hw _ (List.mem_of_getElem? (i := 23) rfl))) (by decide) (t := (.array .long)) (t' := (.array .long)) (by decide) (by decide)))
  have F22_ob_size := F20_ob_size.other W22 (Or.inr (slot_ne (Or.inl (hw _ (List.mem_of_getElem? (i := 46) rfl))) (Or.inr (hw _ (List.mem_of_getElem? (i := 23) rfl))) (by decide) (t := .int) (t' := (.array .long)) (by decide) (by decide)))
  have F22_ob_changes := F20_ob_changes.other W22 (Or.inr (slot_ne (Or.inl (hw _ (List.mem_of_getElem? (i := 48) rfl))) (Or.inr (hw _ (List.mem_of_getElem? (i := 23) rfl))) (by decide) (t := .long) (t' := (.array .long)) (by decide) (by decide)))
  have K22 : Keep h0 h22 [ob] := K20.wr W22 (Or.inl (List.mem_of_getElem? (i := 0) rfl))
  have P23 : Wy p.tables e below (s₁.setTop (entryFrame m #[(.ref ob)] 1)) (T22.setTop (mkF m 38 #[.val (.ref ob)] [])) := fun t k => P21 t (st22 _ k)
  have P24 : Wy p.tables e below (s₁.setTop (entryFrame m #[(.ref ob)] 1)) (T22.setTop (mkF m 39 #[.val (.ref ob)] [(.ref ob)])) := fun t k => P23 t (by
    show Steps p.tables e below (T22.setTop (mkF m 38 #[.val (.ref ob)] [])) _
    refine XS.aloadN X22.here hx rfl (hb hby d2_38) rfl rfl  ?_
    exact k)
  obtain ⟨T25, X25, e25, st25⟩ := getF X22 hx hZ hown (host := "") (Or.inl (hw _ (List.mem_of_getElem? (i := 15) rfl))) Via.refl e22 F22_ob_lengths (g := (mkF m 39 #[.val (.ref ob)] [(.ref ob)])) rfl rfl (hb hby d2_39)
  have P26 : Wy p.tables e below (s₁.setTop (entryFrame m #[(.ref ob)] 1)) (T25.setTop (mkF m 42 #[.val (.ref ob)] [(.ref b5)])) := fun t k => P24 t (st25 _ k)
  have P27 : Wy p.tables e below (s₁.setTop (entryFrame m #[(.ref ob)] 1)) (T25.setTop (mkF m 43 #[.val (.ref ob)] [(.int (-1 : Int32)), (.ref b5)])) := fun t k => P26 t (by
    show Steps p.tables e below (T25.setTop (mkF m 42 #[.val (.ref ob)] [(.ref b5)])) _
    refine XS.iconst X25.here hx rfl (hb hby d2_42) ?_
    exact k)
  obtain ⟨_, _, ⟨T28, L28, k28, n28⟩, -, X28, ⟨Lc28, hQ28, l28, y28, z28⟩, st28⟩ := Jvm.LawKit.callS X25 hx (y := (⟨"java/util/Arrays", "fill", "([II)V"⟩ : MethodName)) hown (mvT hZ (hw _ (List.mem_of_getElem? (i := 24) rfl))) (mvT hZ (hw _ (List.mem_of_getElem? (i := 25) rfl))) (mvT hZ (hw _ (List.mem_of_getElem? (i := 26) rfl))) (mvT hZ (hw _ (List.mem_of_getElem? (i := 27) rfl))) (by decide) (backOf (W := 0) (rm4 l Z a0 hw [] b5 (-1 : Int32) 256 (fun _ => (0 : Int32)) h22 n0 z22 I22_b5 (by decide) g_b5) hZ (hw _ (List.mem_of_getElem? (i := 27) rfl)) (hw _ (List.mem_of_getElem? (i := 26) rfl)) (by decide) (by decide)) (g := (mkF m 43 #[.val (.ref ob)] [(.int (-1 : Int32)), (.ref b5)])) rfl (by rw [hml]; rfl) (argsL := [(.ref b5), (.int (-1 : Int32))]) (rest := []) (lenOf pd_lAIIrV rfl) rfl (by show 2 * 0 + _ ≤ _; exact Nat.le_of_eq rfl) (hb hby d2_43) (fun _ _ => ⟨rfl, e25, (by decide : 4 + 0 ≤ _), (by decide : 1541 + 0 ≤ _)⟩)
  dsimp only [Pt.U, Pt.locs, Pt.cells, Pt.slots] at X28 l28 y28 z28 st28 hQ28
  subst l28 y28 z28
  obtain ⟨rfl, N28q, K28q, I28q⟩ := hQ28
  have N28 := Fr.app N22 N28q
  have K28 : Keep h0 T28.heap [ob] := K22.trans K28q (fun y hy => by cases List.mem_singleton.mp hy; exact Or.inr sz_b5)
  have z28k : n0 ≤ T28.heap.size := Nat.le_trans z22 K28q.1
  have I28_b10 := I22_b10.keep K28q (own_nm (Ne.symm ne_b5_b10))
  have I28_b15 := I22_b15.keep K28q (own_nm (Ne.symm ne_b5_b15))
  have I28_b20 := I22_b20.keep K28q (own_nm (Ne.symm ne_b5_b20))
  have A28_ob := A22_ob.keep K28q
  have F28_ob_lengths := F22_ob_lengths.keep K28q (own_nm ne_ob_b5)
  have F28_ob_countOfLength := F22_ob_countOfLength.keep K28q (own_nm ne_ob_b5)
  have F28_ob_valuesOfLength := F22_ob_valuesOfLength.keep K28q (own_nm ne_ob_b5)
  have F28_ob_kraft := Fw22.keep K28q (own_nm ne_ob_b5)
  have F28_ob_size := F22_ob_size.keep K28q (own_nm ne_ob_b5)
  have F28_ob_changes := F22_ob_changes.keep K28q (own_nm ne_ob_b5)
  have P29 : Wy p.tables e below (s₁.setTop (entryFrame m #[(.ref ob)] 1)) (T28.setTop (mkF m 46 #[.val (.ref ob)] [])) := fun t k => P27 t (st28 _ k)
  obtain ⟨fs, hr, hrun, hended, hW, hsame⟩ := X28.leave (v := none) (fun _ => rfl)
  refine ⟨_, _, P29 _ ?_, hrun, hended, _, _, rfl, ?_, ⟨_, rfl⟩, hW, hsame.mono (by decide) (by decide)⟩
  · show Steps p.tables e below (T28.setTop (mkF m 46 #[.val (.ref ob)] [])) _
    exact X28.returnOut hx Bd.returns (hb hby d2_46) hr
  · show Q2 Z ob h0 n0 _ T28.heap _
    exact ⟨rfl, N28, K28, b5, b10, b15, b20, ⟨g_ob, g_b5, g_b10, g_b15, g_b20, ne_ob_b5, ne_ob_b10, ne_ob_b15, ne_ob_b20, ne_b5_b10, ne_b5_b15, ne_b5_b20, ne_b10_b15, ne_b10_b20, ne_b15_b20⟩, A28_ob, F28_ob_lengths, F28_ob_countOfLength, F28_ob_valuesOfLength, F28_ob_kraft, F28_ob_size, F28_ob_changes, I28q, I28_b10, I28_b15, I28_b20⟩
theorem own_Nof {n0 : Nat} {ob a1 a2 a3 a4 : Addr} (g_ob : n0 ≤ ob) (g_a1 : n0 ≤ a1) (g_a2 : n0 ≤ a2) (g_a3 : n0 ≤ a3) (g_a4 : n0 ≤ a4) (ne_ob_a1 : ob ≠ a1) (ne_ob_a2 : ob ≠ a2) (ne_ob_a3 : ob ≠ a3) (ne_ob_a4 : ob ≠ a4) (ne_a1_a2 : a1 ≠ a2) (ne_a1_a3 : a1 ≠ a3) (ne_a1_a4 : a1 ≠ a4) (ne_a2_a3 : a2 ≠ a3) (ne_a2_a4 : a2 ≠ a4) (ne_a3_a4 : a3 ≠ a4) : own_N n0 ob a1 a2 a3 a4 := ⟨g_ob, g_a1, g_a2, g_a3, g_a4, ne_ob_a1, ne_ob_a2, ne_ob_a3, ne_ob_a4, ne_a1_a2, ne_a1_a3, ne_a1_a4, ne_a2_a3, ne_a2_a4, ne_a3_a4⟩
def own_l0 : Nat → Int32 := fun _ => (-1 : Int32)
def own_k0 : Nat → Int64 := fun _ => (0 : Int64)
theorem own_selP {s : State} {args : Array Value} {y z : MethodName} (hz : (Cond.selects z.cls z z).before args s = true) (hc : z.cls = y.cls) (hpriv : s.PrivateAt y) (hinst : (Cond.instanceMethod y).before args s = true) (hy : y.cls ≠ "java/lang/invoke/MethodHandle" ∧ y.cls ≠ "java/lang/invoke/VarHandle") : (Cond.selects y.cls y y).before args s = true := by
  obtain ⟨c2, r2, m2, -, -, q3, -, kP, hkP, hkPi⟩ := Cond.selects_spec hz
  exact selects_self_of_private (hc ▸ findClass_of_methodNamed q3) hkP hkPi hpriv hinst hy
theorem own_wt0 {x : Int32} (h : x = (-1 : Int32)) : own_wt x = 0 := if_pos h
theorem own_same {lf : Nat → Int32} {vn : Nat} {lx : Int32} (h : lx = lf vn) : ∀ k, k < 256 → lf k = own_upd lf vn lx k := fun k _ => by
  simp only [own_upd]
  by_cases q : k = vn
  · rw [if_pos q, h, q]
  · rw [if_neg q]
theorem own_sub1 {k w : Nat} (h : w ≤ k) : k = k - w + w := by omega
theorem own_P5 : own_P 5 = 2 ^ 320 := by decide +kernel
theorem own_p255 (n : Nat) : 2 ^ (255 - n) ≤ 2 ^ 255 := Nat.pow_le_pow_right (by decide) (by omega)
theorem own_add1 {k n : Nat} (h : k < 2 ^ 300) : k + 2 ^ (255 - n) < own_P 5 := by
  have := own_p255 n
  rw [own_P5]
  have e : (2 : Nat) ^ 320 = 2 ^ 300 * 1048576 := by decide +kernel
  have f : (2 : Nat) ^ 300 = 2 ^ 255 * 35184372088832 := by decide +kernel
  omega
theorem own_add2 {k m n : Nat} (h : k < 2 ^ 300) : k - m + 2 ^ (255 - n) < own_P 5 := by
  have := own_add1 (n := n) h
  omega
theorem own_kpB {k k' w0 w1 u : Nat} (q0 : w0 = 0) (q1 : w1 = u) (q2 : k' = k + u) : k' + w0 = k + w1 := by omega
theorem own_kpC {k k' w0 w1 u : Nat} (q0 : w0 = u) (q1 : w1 = 0) (q2 : k' = k - u) (h : w0 ≤ k) : k' + w0 = k + w1 := by omega
theorem own_kpD {k k' w0 w1 u v : Nat} (q0 : w0 = u) (q1 : w1 = v) (q2 : k' = k - u + v) (h : w0 ≤ k) : k' + w0 = k + w1 := by omega
theorem own_st0 {k' k a0 a1 a2 a3 z w : Nat} (h : k' + z = k + w) (hk : k = a0 + a1 + a2 + a3) (hz : z = a0) : k' = w + a1 + a2 + a3 := by omega
theorem own_st1 {k' k a0 a1 a2 a3 z w : Nat} (h : k' + z = k + w) (hk : k = a0 + a1 + a2 + a3) (hz : z = a1) : k' = a0 + w + a2 + a3 := by omega
theorem own_st2 {k' k a0 a1 a2 a3 z w : Nat} (h : k' + z = k + w) (hk : k = a0 + a1 + a2 + a3) (hz : z = a2) : k' = a0 + a1 + w + a3 := by omega
theorem own_st3 {k' k a0 a1 a2 a3 z w : Nat} (h : k' + z = k + w) (hk : k = a0 + a1 + a2 + a3) (hz : z = a3) : k' = a0 + a1 + a2 + w := by omega
theorem own_le4 (a0 a1 a2 a3 : Nat) : a0 ≤ a0 + a1 + a2 + a3 ∧ a1 ≤ a0 + a1 + a2 + a3 ∧ a2 ≤ a0 + a1 + a2 + a3 ∧ a3 ≤ a0 + a1 + a2 + a3 := by omega
theorem own_fin1 {k w : Nat} (h : w ≤ k) : k - w + w = k + 0 := by omega
theorem own_fin2 {k w u : Nat} (h : w ≤ k) : k - w + u + w = k + u := by omega
theorem d5_0 : decode prog_23_method_4_code 0 = .ok (.iload_n 2, 1) := by decide +kernel
theorem d5_1 : decode prog_23_method_4_code 1 = .ok (.iconst (-1), 1) := by decide +kernel
theorem d5_2 : decode prog_23_method_4_code 2 = .ok (.if_icmp .lt 10, 3) := by decide +kernel
theorem d5_5 : decode prog_23_method_4_code 5 = .ok (.iload_n 2, 1) := by decide +kernel
theorem d5_6 : decode prog_23_method_4_code 6 = .ok (.sipush 255, 3) := by decide +kernel
theorem d5_9 : decode prog_23_method_4_code 9 = .ok (.if_icmp .le 17, 3) := by decide +kernel
theorem d5_26 : decode prog_23_method_4_code 26 = .ok (.aload_n 0, 1) := by decide +kernel
theorem d5_27 : decode prog_23_method_4_code 27 = .ok (.getfield 9, 3) := by decide +kernel
theorem d5_30 : decode prog_23_method_4_code 30 = .ok (.iload_n 1, 1) := by decide +kernel
theorem d5_31 : decode prog_23_method_4_code 31 = .ok (.iaload, 1) := by decide +kernel
theorem d5_32 : decode prog_23_method_4_code 32 = .ok (.istore_n 3, 1) := by decide +kernel
theorem d5_33 : decode prog_23_method_4_code 33 = .ok (.iload_n 2, 1) := by decide +kernel
theorem d5_34 : decode prog_23_method_4_code 34 = .ok (.iload_n 3, 1) := by decide +kernel
theorem d5_35 : decode prog_23_method_4_code 35 = .ok (.if_icmp .ne 4, 3) := by decide +kernel
theorem d5_38 : decode prog_23_method_4_code 38 = .ok (.return_, 1) := by decide +kernel
theorem d5_39 : decode prog_23_method_4_code 39 = .ok (.iload_n 3, 1) := by decide +kernel
theorem d5_40 : decode prog_23_method_4_code 40 = .ok (.iconst (-1), 1) := by decide +kernel
theorem d5_41 : decode prog_23_method_4_code 41 = .ok (.if_icmp .eq 51, 3) := by decide +kernel
theorem d5_44 : decode prog_23_method_4_code 44 = .ok (.aload_n 0, 1) := by decide +kernel
theorem d5_45 : decode prog_23_method_4_code 45 = .ok (.getfield 17, 3) := by decide +kernel
theorem d5_48 : decode prog_23_method_4_code 48 = .ok (.iload_n 3, 1) := by decide +kernel
theorem d5_49 : decode prog_23_method_4_code 49 = .ok (.dup2, 1) := by decide +kernel
theorem d5_50 : decode prog_23_method_4_code 50 = .ok (.iaload, 1) := by decide +kernel
theorem d5_51 : decode prog_23_method_4_code 51 = .ok (.iconst 1, 1) := by decide +kernel
theorem d5_52 : decode prog_23_method_4_code 52 = .ok (.isub, 1) := by decide +kernel
theorem d5_53 : decode prog_23_method_4_code 53 = .ok (.iastore, 1) := by decide +kernel
theorem d5_54 : decode prog_23_method_4_code 54 = .ok (.aload_n 0, 1) := by decide +kernel
theorem d5_55 : decode prog_23_method_4_code 55 = .ok (.getfield 20, 3) := by decide +kernel
theorem d5_58 : decode prog_23_method_4_code 58 = .ok (.iload_n 3, 1) := by decide +kernel
theorem d5_59 : decode prog_23_method_4_code 59 = .ok (.iconst 4, 1) := by decide +kernel
theorem d5_60 : decode prog_23_method_4_code 60 = .ok (.imul, 1) := by decide +kernel
theorem d5_61 : decode prog_23_method_4_code 61 = .ok (.iload_n 1, 1) := by decide +kernel
theorem d5_62 : decode prog_23_method_4_code 62 = .ok (.bipush 64, 2) := by decide +kernel
theorem d5_64 : decode prog_23_method_4_code 64 = .ok (.idiv, 1) := by decide +kernel
theorem d5_65 : decode prog_23_method_4_code 65 = .ok (.iadd, 1) := by decide +kernel
theorem d5_66 : decode prog_23_method_4_code 66 = .ok (.dup2, 1) := by decide +kernel
theorem d5_67 : decode prog_23_method_4_code 67 = .ok (.laload, 1) := by decide +kernel
theorem d5_68 : decode prog_23_method_4_code 68 = .ok (.lconst 1, 1) := by decide +kernel
theorem d5_69 : decode prog_23_method_4_code 69 = .ok (.iload_n 1, 1) := by decide +kernel
theorem d5_70 : decode prog_23_method_4_code 70 = .ok (.lshl, 1) := by decide +kernel
theorem d5_71 : decode prog_23_method_4_code 71 = .ok (.ldc2_w 51, 3) := by decide +kernel
theorem d5_74 : decode prog_23_method_4_code 74 = .ok (.lxor, 1) := by decide +kernel
theorem d5_75 : decode prog_23_method_4_code 75 = .ok (.land, 1) := by decide +kernel
theorem d5_76 : decode prog_23_method_4_code 76 = .ok (.lastore, 1) := by decide +kernel
theorem d5_77 : decode prog_23_method_4_code 77 = .ok (.aload_n 0, 1) := by decide +kernel
theorem d5_78 : decode prog_23_method_4_code 78 = .ok (.iload_n 3, 1) := by decide +kernel
theorem d5_79 : decode prog_23_method_4_code 79 = .ok (.invokevirtual 53, 3) := by decide +kernel
theorem d5_82 : decode prog_23_method_4_code 82 = .ok (.aload_n 0, 1) := by decide +kernel
theorem d5_83 : decode prog_23_method_4_code 83 = .ok (.dup, 1) := by decide +kernel
theorem d5_84 : decode prog_23_method_4_code 84 = .ok (.getfield 57, 3) := by decide +kernel
theorem d5_87 : decode prog_23_method_4_code 87 = .ok (.iconst 1, 1) := by decide +kernel
theorem d5_88 : decode prog_23_method_4_code 88 = .ok (.isub, 1) := by decide +kernel
theorem d5_89 : decode prog_23_method_4_code 89 = .ok (.putfield 57, 3) := by decide +kernel
theorem d5_92 : decode prog_23_method_4_code 92 = .ok (.iload_n 2, 1) := by decide +kernel
theorem d5_93 : decode prog_23_method_4_code 93 = .ok (.iconst (-1), 1) := by decide +kernel
theorem d5_94 : decode prog_23_method_4_code 94 = .ok (.if_icmp .eq 47, 3) := by decide +kernel
theorem d5_97 : decode prog_23_method_4_code 97 = .ok (.aload_n 0, 1) := by decide +kernel
theorem d5_98 : decode prog_23_method_4_code 98 = .ok (.getfield 17, 3) := by decide +kernel
theorem d5_101 : decode prog_23_method_4_code 101 = .ok (.iload_n 2, 1) := by decide +kernel
theorem d5_102 : decode prog_23_method_4_code 102 = .ok (.dup2, 1) := by decide +kernel
theorem d5_103 : decode prog_23_method_4_code 103 = .ok (.iaload, 1) := by decide +kernel
theorem d5_104 : decode prog_23_method_4_code 104 = .ok (.iconst 1, 1) := by decide +kernel
theorem d5_105 : decode prog_23_method_4_code 105 = .ok (.iadd, 1) := by decide +kernel
theorem d5_106 : decode prog_23_method_4_code 106 = .ok (.iastore, 1) := by decide +kernel
theorem d5_107 : decode prog_23_method_4_code 107 = .ok (.aload_n 0, 1) := by decide +kernel
theorem d5_108 : decode prog_23_method_4_code 108 = .ok (.getfield 20, 3) := by decide +kernel
theorem d5_111 : decode prog_23_method_4_code 111 = .ok (.iload_n 2, 1) := by decide +kernel
theorem d5_112 : decode prog_23_method_4_code 112 = .ok (.iconst 4, 1) := by decide +kernel
theorem d5_113 : decode prog_23_method_4_code 113 = .ok (.imul, 1) := by decide +kernel
theorem d5_114 : decode prog_23_method_4_code 114 = .ok (.iload_n 1, 1) := by decide +kernel
theorem d5_115 : decode prog_23_method_4_code 115 = .ok (.bipush 64, 2) := by decide +kernel
theorem d5_117 : decode prog_23_method_4_code 117 = .ok (.idiv, 1) := by decide +kernel
theorem d5_118 : decode prog_23_method_4_code 118 = .ok (.iadd, 1) := by decide +kernel
theorem d5_119 : decode prog_23_method_4_code 119 = .ok (.dup2, 1) := by decide +kernel
theorem d5_120 : decode prog_23_method_4_code 120 = .ok (.laload, 1) := by decide +kernel
theorem d5_121 : decode prog_23_method_4_code 121 = .ok (.lconst 1, 1) := by decide +kernel
theorem d5_122 : decode prog_23_method_4_code 122 = .ok (.iload_n 1, 1) := by decide +kernel
theorem d5_123 : decode prog_23_method_4_code 123 = .ok (.lshl, 1) := by decide +kernel
theorem d5_124 : decode prog_23_method_4_code 124 = .ok (.lor, 1) := by decide +kernel
theorem d5_125 : decode prog_23_method_4_code 125 = .ok (.lastore, 1) := by decide +kernel
theorem d5_126 : decode prog_23_method_4_code 126 = .ok (.aload_n 0, 1) := by decide +kernel
theorem d5_127 : decode prog_23_method_4_code 127 = .ok (.iload_n 2, 1) := by decide +kernel
theorem d5_128 : decode prog_23_method_4_code 128 = .ok (.invokevirtual 61, 3) := by decide +kernel
theorem d5_131 : decode prog_23_method_4_code 131 = .ok (.aload_n 0, 1) := by decide +kernel
theorem d5_132 : decode prog_23_method_4_code 132 = .ok (.dup, 1) := by decide +kernel
theorem d5_133 : decode prog_23_method_4_code 133 = .ok (.getfield 57, 3) := by decide +kernel
theorem d5_136 : decode prog_23_method_4_code 136 = .ok (.iconst 1, 1) := by decide +kernel
theorem d5_137 : decode prog_23_method_4_code 137 = .ok (.iadd, 1) := by decide +kernel
theorem d5_138 : decode prog_23_method_4_code 138 = .ok (.putfield 57, 3) := by decide +kernel
theorem d5_141 : decode prog_23_method_4_code 141 = .ok (.aload_n 0, 1) := by decide +kernel
theorem d5_142 : decode prog_23_method_4_code 142 = .ok (.getfield 9, 3) := by decide +kernel
theorem d5_145 : decode prog_23_method_4_code 145 = .ok (.iload_n 1, 1) := by decide +kernel
theorem d5_146 : decode prog_23_method_4_code 146 = .ok (.iload_n 2, 1) := by decide +kernel
theorem d5_147 : decode prog_23_method_4_code 147 = .ok (.iastore, 1) := by decide +kernel
theorem d5_148 : decode prog_23_method_4_code 148 = .ok (.aload_n 0, 1) := by decide +kernel
theorem d5_149 : decode prog_23_method_4_code 149 = .ok (.dup, 1) := by decide +kernel
theorem d5_150 : decode prog_23_method_4_code 150 = .ok (.getfield 64, 3) := by decide +kernel
theorem d5_153 : decode prog_23_method_4_code 153 = .ok (.lconst 1, 1) := by decide +kernel
theorem d5_154 : decode prog_23_method_4_code 154 = .ok (.ladd, 1) := by decide +kernel
theorem d5_155 : decode prog_23_method_4_code 155 = .ok (.putfield 64, 3) := by decide +kernel
theorem d5_158 : decode prog_23_method_4_code 158 = .ok (.return_, 1) := by decide +kernel
theorem pd_lIrV : parseMethodDescriptor "(I)V" = some ⟨[.int], none⟩ := by decide +kernel
theorem ef_rm5 (m : MethodId) (ob : Addr) (vx : Int32) (lx : Int32)  : entryFrame m #[(.ref ob), (.int vx), (.int lx)] 4 = (mkF m 0 #[.val (.ref ob), .val (.int vx), .val (.int lx), .unset] []) := by first | (simp [entryFrame, mkF, argsToLocals, Value.category]; done) | rfl
def Q5 (Z : State) (ob : Addr) (vx lx : Int32) (a1 a2 a3 a4 : Addr) (lf cf : Nat → Int32) (vf kr : Nat → Int64) (sz : Int32) (ch : Int64) (vn : Nat) (h0 : Heap) (n0 : Nat) (v : Option Value) (h : Heap) (L : List Loc) : Prop := v = none ∧ Fr n0 L ∧ Keep h0 h [ob, a1, a2, a3, a4] ∧ ∃ (cf' : Nat → Int32) (vf' kr' : Nat → Int64) (sz' : Int32) (ch' : Int64), own_K kr' + own_wt (lf vn) = own_K kr + own_wt lx ∧ own_T Z h ob a1 a2 a3 a4 (own_upd lf vn lx) cf' vf' kr' sz' ch'
set_option maxRecDepth 65536 in
set_option maxHeartbeats 40000000 in
theorem rm5 (l : Launch) (Z : State) (a0 : Array Value) (hw : ∀ d ∈ tables_1, d.before a0 Z = true) (ws : List Jvm.Cond) (ob : Addr) (vx lx : Int32) (a1 a2 a3 a4 : Addr) (lf cf : Nat → Int32) (vf kr : Nat → Int64) (sz : Int32) (ch : Int64) (vn : Nat) (h0 : Heap) (n0 : Nat) (Z0 : n0 ≤ h0.size) (hN : own_N n0 ob a1 a2 a3 a4) (hT : own_T Z h0 ob a1 a2 a3 a4 lf cf vf kr sz ch) (hvx : vx = Int32.ofNat vn) (hvn : vn < 256) (hok : own_ok lx) (hokb : own_ok (lf vn)) (hle : own_wt (lf vn) ≤ own_K kr) (hKb : own_K kr < 2 ^ 300) :
    MetFree l (⟨"com/example/leafpack/leafpack/CodeTable", "set", "(II)V"⟩ : MethodName) (head1 (Jvm.Cond.code (⟨"com/example/leafpack/leafpack/CodeTable", "set", "(II)V"⟩ : MethodName) prog_23_method_4_code 4 none :: ws) ({ frames := 3, cells := 0, slots := 0, locals := 49 } : Room)) (fun a U => a = #[(.ref ob), (.int vx), (.int lx)] ∧ Z.Warmed39 U.vm ∧ U.heap = h0) (fun _ _ _ _ _ => True) (fun _ U o U' => ∃ v L, o = .returned v ∧ Q5 Z ob vx lx a1 a2 a3 a4 lf cf vf kr sz ch vn h0 n0 v U'.heap L ∧ FrameEnd U o U' L ({ frames := 3, cells := 0, slots := 0, locals := 49 } : Room).cells ({ frames := 3, cells := 0, slots := 0, locals := 49 } : Room).slots) := by
  refine MetFree.of_bodySF (plainFor_of_name pn_com_example_leafpack_leafpack_CodeTable) hisR ?_
  intro p e s m args below meth c s₁ Bd hml0 hP hK
  obtain ⟨rfl, hZ, hh⟩ := hP
  have hx := Bd.exec
  have hby := Bd.bytes
  have hml : c.maxLocals = 4 := hml0
  have hown : s.vm.findClass "com/example/leafpack/leafpack/CodeTable" = some m.cls := by have q := findClass_of_methodNamed Bd.named; exact q
  have hnm := (name_of_methodNamed Bd.named Bd.method).1
  have X0 : Stand p l e ({ frames := 3, cells := 0, slots := 0, locals := 49 } : Room) s m #[(.ref ob), (.int vx), (.int lx)] below meth c s₁ [] 0 0 := Stand.of_body Bd
  have e0 : s₁.heap = h0 := by rw [← hh, Bd.state]; rfl
  have N0 := Fr.nil n0
  have P0 : Wy p.tables e below (s₁.setTop (entryFrame m #[(.ref ob), (.int vx), (.int lx)] 4)) (s₁.setTop (mkF m 0 #[.val (.ref ob), .val (.int vx), .val (.int lx), .unset] [])) := fun t k => castTop (ef_rm5 m ob vx lx) k
  obtain ⟨g_ob, g_a1, g_a2, g_a3, g_a4, ne_ob_a1, ne_ob_a2, ne_ob_a3, ne_ob_a4, ne_a1_a2, ne_a1_a3, ne_a1_a4, ne_a2_a3, ne_a2_a4, ne_a3_a4⟩ := hN
  obtain ⟨Ei, Filengths, FicountOfLength, FivaluesOfLength, Fikraft, Fisize, Fichanges, Iia1, Iia2, Iia3, Iia4⟩ := hT
  have hs_addKraft : (Cond.selects "com/example/leafpack/leafpack/CodeTable" (⟨"com/example/leafpack/leafpack/CodeTable", "addKraft", "(I)V"⟩ : MethodName) (⟨"com/example/leafpack/leafpack/CodeTable", "addKraft", "(I)V"⟩ : MethodName)).before #[(.ref ob), (.int vx), (.int lx)] s = true := own_selP (y := (⟨"com/example/leafpack/leafpack/CodeTable", "addKraft", "(I)V"⟩ : MethodName)) (z := (⟨"com/example/leafpack/leafpack/CodeTable", "set", "(II)V"⟩ : MethodName)) (mvT hZ (hw _ (List.mem_of_getElem? (i := 31) rfl))) rfl (Cond.privateMethod_at (mvP hZ (hw _ (List.mem_of_getElem? (i := 35) rfl)) (args := #[]))) (mvT hZ (hw _ (List.mem_of_getElem? (i := 34) rfl))) (by decide)
  have hs_subtractKraft : (Cond.selects "com/example/leafpack/leafpack/CodeTable" (⟨"com/example/leafpack/leafpack/CodeTable", "subtractKraft", "(I)V"⟩ : MethodName) (⟨"com/example/leafpack/leafpack/CodeTable", "subtractKraft", "(I)V"⟩ : MethodName)).before #[(.ref ob), (.int vx), (.int lx)] s = true := own_selP (y := (⟨"com/example/leafpack/leafpack/CodeTable", "subtractKraft", "(I)V"⟩ : MethodName)) (z := (⟨"com/example/leafpack/leafpack/CodeTable", "set", "(II)V"⟩ : MethodName)) (mvT hZ (hw _ (List.mem_of_getElem? (i := 31) rfl))) rfl (Cond.privateMethod_at (mvP hZ (hw _ (List.mem_of_getElem? (i := 52) rfl)) (args := #[]))) (mvT hZ (hw _ (List.mem_of_getElem? (i := 51) rfl))) (by decide)
  have P1 : Wy p.tables e below (s₁.setTop (entryFrame m #[(.ref ob), (.int vx), (.int lx)] 4)) (s₁.setTop (mkF m 27 #[.val (.ref ob), .val (.int vx), .val (.int lx), .unset] [(.ref ob)])) := fun t k => P0 t (by
    show Steps p.tables e below (s₁.setTop (mkF m 0 #[.val (.ref ob), .val (.int vx), .val (.int lx), .unset] [])) _
    refine XS.iloadN X0.here hx rfl (hb hby d5_0) rfl  ?_
    show Steps p.tables e below (s₁.setTop (mkF m 1 #[.val (.ref ob), .val (.int vx), .val (.int lx), .unset] [(.int lx)])) _
    refine XS.iconst X0.here hx rfl (hb hby d5_1) ?_
    show Steps p.tables e below (s₁.setTop (mkF m 2 #[.val (.ref ob), .val (.int vx), .val (.int lx), .unset] [(.int (-1 : Int32)), (.int lx)])) _
    refine XS.icmpNo X0.here hx rfl (hb hby d5_2) rfl (flt (own_ok1 hok : ¬ (lx < (-1 : Int32)))).1 ?_
    show Steps p.tables e below (s₁.setTop (mkF m 5 #[.val (.ref ob), .val (.int vx), .val (.int lx), .unset] [])) _
    refine XS.iloadN X0.here hx rfl (hb hby d5_5) rfl  ?_
    show Steps p.tables e below (s₁.setTop (mkF m 6 #[.val (.ref ob), .val (.int vx), .val (.int lx), .unset] [(.int lx)])) _
    refine XS.sipush X0.here hx rfl (hb hby d5_6) ?_
    show Steps p.tables e below (s₁.setTop (mkF m 9 #[.val (.ref ob), .val (.int vx), .val (.int lx), .unset] [(.int (255 : Int32)), (.int lx)])) _
    refine XS.icmpYes X0.here hx rfl (pc0 := 9) (pc' := 26) rfl (hb hby d5_9) rfl (flt (own_ok2 hok : ¬ ((255 : Int32) < lx))).2.2.2 (by decide) (by decide) ?_
    show Steps p.tables e below (s₁.setTop (mkF m 26 #[.val (.ref ob), .val (.int vx), .val (.int lx), .unset] [])) _
    refine XS.aloadN X0.here hx rfl (hb hby d5_26) rfl rfl  ?_
    exact k)
  obtain ⟨T2, X2, e2, st2⟩ := getF X0 hx hZ hown (host := "") (Or.inl (hw _ (List.mem_of_getElem? (i := 15) rfl))) Via.refl e0 Filengths (g := (mkF m 27 #[.val (.ref ob), .val (.int vx), .val (.int lx), .unset] [(.ref ob)])) rfl rfl (hb hby d5_27)
  have P3 : Wy p.tables e below (s₁.setTop (entryFrame m #[(.ref ob), (.int vx), (.int lx)] 4)) (T2.setTop (mkF m 30 #[.val (.ref ob), .val (.int vx), .val (.int lx), .unset] [(.ref a1)])) := fun t k => P1 t (st2 _ k)
  have P4 : Wy p.tables e below (s₁.setTop (entryFrame m #[(.ref ob), (.int vx), (.int lx)] 4)) (T2.setTop (mkF m 31 #[.val (.ref ob), .val (.int vx), .val (.int lx), .unset] [(.int vx), (.ref a1)])) := fun t k => P3 t (by
    show Steps p.tables e below (T2.setTop (mkF m 30 #[.val (.ref ob), .val (.int vx), .val (.int lx), .unset] [(.ref a1)])) _
    refine XS.iloadN X2.here hx rfl (hb hby d5_30) rfl  ?_
    exact k)
  obtain ⟨cl5, Ar5, hi5, ha5, -⟩ := Iia1.at (j := vx) (k := vn) hvx hvn (by decide)
  have P6 : Wy p.tables e below (s₁.setTop (entryFrame m #[(.ref ob), (.int vx), (.int lx)] 4)) (T2.setTop (mkF m 32 #[.val (.ref ob), .val (.int vx), .val (.int lx), .unset] [(.int (lf vn))])) := fun t k => P4 t (X2.iaload hx (j := vx) (v := (.int (lf vn))) (by rw [e2]; exact Ar5.1) (State.isArrayOf_alike hZ.alike Ar5.2.1) Ar5.2.2 hi5 ha5 (g := (mkF m 31 #[.val (.ref ob), .val (.int vx), .val (.int lx), .unset] [(.int vx), (.ref a1)])) rfl rfl (hb hby d5_31) _ k)
  have P7 : Wy p.tables e below (s₁.setTop (entryFrame m #[(.ref ob), (.int vx), (.int lx)] 4)) (T2.setTop (mkF m 33 #[.val (.ref ob), .val (.int vx), .val (.int lx), .val (.int (lf vn))] [])) := fun t k => P6 t (by
    show Steps p.tables e below (T2.setTop (mkF m 32 #[.val (.ref ob), .val (.int vx), .val (.int lx), .unset] [(.int (lf vn))])) _
    refine XS.istoreN X2.here hx rfl (hb hby d5_32) rfl (l' := #[.val (.ref ob), .val (.int vx), .val (.int lx), .val (.int (lf vn))]) rfl ?_
    exact k)
  obtain ⟨v8, hv8⟩ : ∃ z : Int32, z = (lf vn) := ⟨_, rfl⟩
  have P9 : Wy p.tables e below (s₁.setTop (entryFrame m #[(.ref ob), (.int vx), (.int lx)] 4)) (T2.setTop (mkF m 33 #[.val (.ref ob), .val (.int vx), .val (.int lx), .val (.int v8)] [])) := fun t k => by subst hv8; exact P7 t k
  have P10 : Wy p.tables e below (s₁.setTop (entryFrame m #[(.ref ob), (.int vx), (.int lx)] 4)) (T2.setTop (mkF m 35 #[.val (.ref ob), .val (.int vx), .val (.int lx), .val (.int v8)] [(.int v8), (.int lx)])) := fun t k => P9 t (by
    show Steps p.tables e below (T2.setTop (mkF m 33 #[.val (.ref ob), .val (.int vx), .val (.int lx), .val (.int v8)] [])) _
    refine XS.iloadN X2.here hx rfl (hb hby d5_33) rfl  ?_
    show Steps p.tables e below (T2.setTop (mkF m 34 #[.val (.ref ob), .val (.int vx), .val (.int lx), .val (.int v8)] [(.int lx)])) _
    refine XS.iloadN X2.here hx rfl (hb hby d5_34) rfl  ?_
    exact k)
  by_cases hc35_11 : lx = v8
  · have P12 : Wy p.tables e below (s₁.setTop (entryFrame m #[(.ref ob), (.int vx), (.int lx)] 4)) (T2.setTop (mkF m 38 #[.val (.ref ob), .val (.int vx), .val (.int lx), .val (.int v8)] [])) := fun t k => P10 t (by
      show Steps p.tables e below (T2.setTop (mkF m 35 #[.val (.ref ob), .val (.int vx), .val (.int lx), .val (.int v8)] [(.int v8), (.int lx)])) _
      refine XS.icmpNo X2.here hx rfl (hb hby d5_35) rfl (teq hc35_11).2 ?_
      exact k)
    obtain ⟨fs, hr, hrun, hended, hW, hsame⟩ := X2.leave (v := none) (fun _ => rfl)
    refine ⟨_, _, P12 _ ?_, hrun, hended, _, _, rfl, ?_, ⟨_, rfl⟩, hW, hsame.mono (by decide) (by decide)⟩
    · show Steps p.tables e below (T2.setTop (mkF m 38 #[.val (.ref ob), .val (.int vx), .val (.int lx), .val (.int v8)] [])) _
      exact X2.returnOut hx Bd.returns (hb hby d5_38) hr
    · show Q5 Z ob vx lx a1 a2 a3 a4 lf cf vf kr sz ch vn h0 n0 _ T2.heap _
      rw [e2]
      exact ⟨rfl, N0, (Keep.refl h0 [ob, a1, a2, a3, a4]), _, _, _, _, _, (by rw [hc35_11, hv8]), Ei, Filengths, FicountOfLength, FivaluesOfLength, Fikraft, Fisize, Fichanges, (Iia1.same (own_same (by rw [hc35_11, hv8]))), Iia2, Iia3, Iia4⟩
  · have P13 : Wy p.tables e below (s₁.setTop (entryFrame m #[(.ref ob), (.int vx), (.int lx)] 4)) (T2.setTop (mkF m 41 #[.val (.ref ob), .val (.int vx), .val (.int lx), .val (.int v8)] [(.int (-1 : Int32)), (.int v8)])) := fun t k => P10 t (by
      show Steps p.tables e below (T2.setTop (mkF m 35 #[.val (.ref ob), .val (.int vx), .val (.int lx), .val (.int v8)] [(.int v8), (.int lx)])) _
      refine XS.icmpYes X2.here hx rfl (pc0 := 35) (pc' := 39) rfl (hb hby d5_35) rfl (feq hc35_11).2 (by decide) (by decide) ?_
      show Steps p.tables e below (T2.setTop (mkF m 39 #[.val (.ref ob), .val (.int vx), .val (.int lx), .val (.int v8)] [])) _
      refine XS.iloadN X2.here hx rfl (hb hby d5_39) rfl  ?_
      show Steps p.tables e below (T2.setTop (mkF m 40 #[.val (.ref ob), .val (.int vx), .val (.int lx), .val (.int v8)] [(.int v8)])) _
      refine XS.iconst X2.here hx rfl (hb hby d5_40) ?_
      exact k)
    by_cases hc41_14 : v8 = (-1 : Int32)
    · have P15 : Wy p.tables e below (s₁.setTop (entryFrame m #[(.ref ob), (.int vx), (.int lx)] 4)) (T2.setTop (mkF m 92 #[.val (.ref ob), .val (.int vx), .val (.int lx), .val (.int v8)] [])) := fun t k => P13 t (by
        show Steps p.tables e below (T2.setTop (mkF m 41 #[.val (.ref ob), .val (.int vx), .val (.int lx), .val (.int v8)] [(.int (-1 : Int32)), (.int v8)])) _
        refine XS.icmpYes X2.here hx rfl (pc0 := 41) (pc' := 92) rfl (hb hby d5_41) rfl (teq hc41_14).1 (by decide) (by decide) ?_
        exact k)
      have P16 : Wy p.tables e below (s₁.setTop (entryFrame m #[(.ref ob), (.int vx), (.int lx)] 4)) (T2.setTop (mkF m 94 #[.val (.ref ob), .val (.int vx), .val (.int lx), .val (.int v8)] [(.int (-1 : Int32)), (.int lx)])) := fun t k => P15 t (by
        show Steps p.tables e below (T2.setTop (mkF m 92 #[.val (.ref ob), .val (.int vx), .val (.int lx), .val (.int v8)] [])) _
        refine XS.iloadN X2.here hx rfl (hb hby d5_92) rfl  ?_
        show Steps p.tables e below (T2.setTop (mkF m 93 #[.val (.ref ob), .val (.int vx), .val (.int lx), .val (.int v8)] [(.int lx)])) _
        refine XS.iconst X2.here hx rfl (hb hby d5_93) ?_
        exact k)
      by_cases hc94_17 : lx = (-1 : Int32)
      · have P18 : Wy p.tables e below (s₁.setTop (entryFrame m #[(.ref ob), (.int vx), (.int lx)] 4)) (T2.setTop (mkF m 141 #[.val (.ref ob), .val (.int vx), .val (.int lx), .val (.int v8)] [])) := fun t k => P16 t (by
          show Steps p.tables e below (T2.setTop (mkF m 94 #[.val (.ref ob), .val (.int vx), .val (.int lx), .val (.int v8)] [(.int (-1 : Int32)), (.int lx)])) _
          refine XS.icmpYes X2.here hx rfl (pc0 := 94) (pc' := 141) rfl (hb hby d5_94) rfl (teq hc94_17).1 (by decide) (by decide) ?_
          exact k)
        exact absurd (hc94_17.trans hc41_14.symm) hc35_11
      · have P19 : Wy p.tables e below (s₁.setTop (entryFrame m #[(.ref ob), (.int vx), (.int lx)] 4)) (T2.setTop (mkF m 97 #[.val (.ref ob), .val (.int vx), .val (.int lx), .val (.int v8)] [])) := fun t k => P16 t (by
          show Steps p.tables e below (T2.setTop (mkF m 94 #[.val (.ref ob), .val (.int vx), .val (.int lx), .val (.int v8)] [(.int (-1 : Int32)), (.int lx)])) _
          refine XS.icmpNo X2.here hx rfl (hb hby d5_94) rfl (feq hc94_17).1 ?_
          exact k)
        obtain ⟨ln, hln, hlx⟩ := own_okn hok hc94_17
        have P20 : Wy p.tables e below (s₁.setTop (entryFrame m #[(.ref ob), (.int vx), (.int lx)] 4)) (T2.setTop (mkF m 98 #[.val (.ref ob), .val (.int vx), .val (.int lx), .val (.int v8)] [(.ref ob)])) := fun t k => P19 t (by
          show Steps p.tables e below (T2.setTop (mkF m 97 #[.val (.ref ob), .val (.int vx), .val (.int lx), .val (.int v8)] [])) _
          refine XS.aloadN X2.here hx rfl (hb hby d5_97) rfl rfl  ?_
          exact k)
        obtain ⟨T21, X21, e21, st21⟩ := getF X2 hx hZ hown (host := "") (Or.inl (hw _ (List.mem_of_getElem? (i := 17) rfl))) Via.refl e2 FicountOfLength (g := (mkF m 98 #[.val (.ref ob), .val (.int vx), .val (.int lx), .val (.int v8)] [(.ref ob)])) rfl rfl (hb hby d5_98)
        have P22 : Wy p.tables e below (s₁.setTop (entryFrame m #[(.ref ob), (.int vx), (.int lx)] 4)) (T21.setTop (mkF m 101 #[.val (.ref ob), .val (.int vx), .val (.int lx), .val (.int v8)] [(.ref a2)])) := fun t k => P20 t (st21 _ k)
        have P23 : Wy p.tables e below (s₁.setTop (entryFrame m #[(.ref ob), (.int vx), (.int lx)] 4)) (T21.setTop (mkF m 103 #[.val (.ref ob), .val (.int vx), .val (.int lx), .val (.int v8)] [(.int lx), (.ref a2), (.int lx), (.ref a2)])) := fun t k => P22 t (by
          show Steps p.tables e below (T21.setTop (mkF m 101 #[.val (.ref ob), .val (.int vx), .val (.int lx), .val (.int v8)] [(.ref a2)])) _
          refine XS.iloadN X21.here hx rfl (hb hby d5_101) rfl  ?_
          show Steps p.tables e below (T21.setTop (mkF m 102 #[.val (.ref ob), .val (.int vx), .val (.int lx), .val (.int v8)] [(.int lx), (.ref a2)])) _
          refine XT.dup2 X21.here hx rfl (hb hby d5_102) rfl rfl rfl ?_
          exact k)
        obtain ⟨cl24, Ar24, hi24, ha24, -⟩ := Iia2.at (j := lx) (k := ln) hlx (Nat.lt_succ_of_le hln) (by decide)
        have P25 : Wy p.tables e below (s₁.setTop (entryFrame m #[(.ref ob), (.int vx), (.int lx)] 4)) (T21.setTop (mkF m 104 #[.val (.ref ob), .val (.int vx), .val (.int lx), .val (.int v8)] [(.int (cf ln)), (.int lx), (.ref a2)])) := fun t k => P23 t (X21.iaload hx (j := lx) (v := (.int (cf ln))) (by rw [e21]; exact Ar24.1) (State.isArrayOf_alike hZ.alike Ar24.2.1) Ar24.2.2 hi24 ha24 (g := (mkF m 103 #[.val (.ref ob), .val (.int vx), .val (.int lx), .val (.int v8)] [(.int lx), (.ref a2), (.int lx), (.ref a2)])) rfl rfl (hb hby d5_103) _ k)
        have P26 : Wy p.tables e below (s₁.setTop (entryFrame m #[(.ref ob), (.int vx), (.int lx)] 4)) (T21.setTop (mkF m 106 #[.val (.ref ob), .val (.int vx), .val (.int lx), .val (.int v8)] [(.int ((cf ln) + (1 : Int32))), (.int lx), (.ref a2)])) := fun t k => P25 t (by
          show Steps p.tables e below (T21.setTop (mkF m 104 #[.val (.ref ob), .val (.int vx), .val (.int lx), .val (.int v8)] [(.int (cf ln)), (.int lx), (.ref a2)])) _
          refine XS.iconst X21.here hx rfl (hb hby d5_104) ?_
          show Steps p.tables e below (T21.setTop (mkF m 105 #[.val (.ref ob), .val (.int vx), .val (.int lx), .val (.int v8)] [(.int (1 : Int32)), (.int (cf ln)), (.int lx), (.ref a2)])) _
          refine XS.iadd X21.here hx rfl (hb hby d5_105) rfl ?_
          exact k)
        obtain ⟨cl27, Ar27, hi27, -, up27⟩ := Iia2.at (j := lx) (k := ln) hlx (Nat.lt_succ_of_le hln) (by decide)
        obtain ⟨T27, h27, X27, e27, W27, st27⟩ := stI X21 hx hZ e21 Ar27 (j := lx) hi27 (g := (mkF m 106 #[.val (.ref ob), .val (.int vx), .val (.int lx), .val (.int v8)] [(.int ((cf ln) + (1 : Int32))), (.int lx), (.ref a2)])) rfl rfl (hb hby d5_106)
        have I27 := up27 _ _ W27
        have N27 := Fr.snoc X27 N0 g_a2
        have z27 : n0 ≤ h27.size := Nat.le_trans Z0 (Keep.of_wr W27).1
        have K27 : Keep h0 h27 [ob, a1, a2, a3, a4] := (Keep.refl h0 [ob, a1, a2, a3, a4]).wr W27 (Or.inl (List.mem_of_getElem? (i := 2) rfl))
        have I27_a1 := Iia1.other W27 ne_a1_a2
        have I27_a3 := Iia3.other W27 (Ne.symm ne_a2_a3)
        have I27_a4 := Iia4.other W27 (Ne.symm ne_a2_a4)
        have A27_ob := Ei.wr W27
        have F27_ob_lengths := Filengths.other W27 (Or.inl ne_ob_a2)
        have F27_ob_countOfLength := FicountOfLength.other W27 (Or.inl ne_ob_a2)
        have F27_ob_valuesOfLength := FivaluesOfLength.other W27 (Or.inl ne_ob_a2)
        have F27_ob_kraft := Fikraft.other W27 (Or.inl ne_ob_a2)
        have F27_ob_size := Fisize.other W27 (Or.inl ne_ob_a2)
        have F27_ob_changes := Fichanges.other W27 (Or.inl ne_ob_a2)
        have P28 : Wy p.tables e below (s₁.setTop (entryFrame m #[(.ref ob), (.int vx), (.int lx)] 4)) (T27.setTop (mkF m 107 #[.val (.ref ob), .val (.int vx), .val (.int lx), .val (.int v8)] [])) := fun t k => P26 t (st27 _ k)
        have P29 : Wy p.tables e below (s₁.setTop (entryFrame m #[(.ref ob), (.int vx), (.int lx)] 4)) (T27.setTop (mkF m 108 #[.val (.ref ob), .val (.int vx), .val (.int lx), .val (.int v8)] [(.ref ob)])) := fun t k => P28 t (by
          show Steps p.tables e below (T27.setTop (mkF m 107 #[.val (.ref ob), .val (.int vx), .val (.int lx), .val (.int v8)] [])) _
          refine XS.aloadN X27.here hx rfl (hb hby d5_107) rfl rfl  ?_
          exact k)
        obtain ⟨T30, X30, e30, st30⟩ := getF X27 hx hZ hown (host := "") (Or.inl (hw _ (List.mem_of_getElem? (i := 20) rfl))) Via.refl e27 F27_ob_valuesOfLength (g := (mkF m 108 #[.val (.ref ob), .val (.int vx), .val (.int lx), .val (.int v8)] [(.ref ob)])) rfl rfl (hb hby d5_108)
        have P31 : Wy p.tables e below (s₁.setTop (entryFrame m #[(.ref ob), (.int vx), (.int lx)] 4)) (T30.setTop (mkF m 111 #[.val (.ref ob), .val (.int vx), .val (.int lx), .val (.int v8)] [(.ref a3)])) := fun t k => P29 t (st30 _ k)
        have P32 : Wy p.tables e below (s₁.setTop (entryFrame m #[(.ref ob), (.int vx), (.int lx)] 4)) (T30.setTop (mkF m 120 #[.val (.ref ob), .val (.int vx), .val (.int lx), .val (.int v8)] [(.int ((lx * (4 : Int32)) + (vx / (64 : Int32)))), (.ref a3), (.int ((lx * (4 : Int32)) + (vx / (64 : Int32)))), (.ref a3)])) := fun t k => P31 t (by
          show Steps p.tables e below (T30.setTop (mkF m 111 #[.val (.ref ob), .val (.int vx), .val (.int lx), .val (.int v8)] [(.ref a3)])) _
          refine XS.iloadN X30.here hx rfl (hb hby d5_111) rfl  ?_
          show Steps p.tables e below (T30.setTop (mkF m 112 #[.val (.ref ob), .val (.int vx), .val (.int lx), .val (.int v8)] [(.int lx), (.ref a3)])) _
          refine XS.iconst X30.here hx rfl (hb hby d5_112) ?_
          show Steps p.tables e below (T30.setTop (mkF m 113 #[.val (.ref ob), .val (.int vx), .val (.int lx), .val (.int v8)] [(.int (4 : Int32)), (.int lx), (.ref a3)])) _
          refine XS.imul X30.here hx rfl (hb hby d5_113) rfl ?_
          show Steps p.tables e below (T30.setTop (mkF m 114 #[.val (.ref ob), .val (.int vx), .val (.int lx), .val (.int v8)] [(.int (lx * (4 : Int32))), (.ref a3)])) _
          refine XS.iloadN X30.here hx rfl (hb hby d5_114) rfl  ?_
          show Steps p.tables e below (T30.setTop (mkF m 115 #[.val (.ref ob), .val (.int vx), .val (.int lx), .val (.int v8)] [(.int vx), (.int (lx * (4 : Int32))), (.ref a3)])) _
          refine XS.bipush X30.here hx rfl (hb hby d5_115) ?_
          show Steps p.tables e below (T30.setTop (mkF m 117 #[.val (.ref ob), .val (.int vx), .val (.int lx), .val (.int v8)] [(.int (64 : Int32)), (.int vx), (.int (lx * (4 : Int32))), (.ref a3)])) _
          refine XS.idiv X30.here hx rfl (hb hby d5_117) rfl (by decide) ?_
          show Steps p.tables e below (T30.setTop (mkF m 118 #[.val (.ref ob), .val (.int vx), .val (.int lx), .val (.int v8)] [(.int (vx / (64 : Int32))), (.int (lx * (4 : Int32))), (.ref a3)])) _
          refine XS.iadd X30.here hx rfl (hb hby d5_118) rfl ?_
          show Steps p.tables e below (T30.setTop (mkF m 119 #[.val (.ref ob), .val (.int vx), .val (.int lx), .val (.int v8)] [(.int ((lx * (4 : Int32)) + (vx / (64 : Int32)))), (.ref a3)])) _
          refine XT.dup2 X30.here hx rfl (hb hby d5_119) rfl rfl rfl ?_
          exact k)
        obtain ⟨cl33, Ar33, hi33, ha33, -⟩ := I27_a3.at (j := ((lx * (4 : Int32)) + (vx / (64 : Int32)))) (k := (ln * 4 + vn / 64)) (own_ix hlx hln hvx hvn) (own_ixl hln hvn) (by decide)
        have P34 : Wy p.tables e below (s₁.setTop (entryFrame m #[(.ref ob), (.int vx), (.int lx)] 4)) (T30.setTop (mkF m 121 #[.val (.ref ob), .val (.int vx), .val (.int lx), .val (.int v8)] [(.long (vf (ln * 4 + vn / 64))), (.int ((lx * (4 : Int32)) + (vx / (64 : Int32)))), (.ref a3)])) := fun t k => P32 t (X30.laload hx (j := ((lx * (4 : Int32)) + (vx / (64 : Int32)))) (v := (.long (vf (ln * 4 + vn / 64)))) (by rw [e30]; exact Ar33.1) (State.isArrayOf_alike hZ.alike Ar33.2.1) Ar33.2.2 hi33 ha33 (g := (mkF m 120 #[.val (.ref ob), .val (.int vx), .val (.int lx), .val (.int v8)] [(.int ((lx * (4 : Int32)) + (vx / (64 : Int32)))), (.ref a3), (.int ((lx * (4 : Int32)) + (vx / (64 : Int32)))), (.ref a3)])) rfl rfl (hb hby d5_120) _ k)
        have P35 : Wy p.tables e below (s₁.setTop (entryFrame m #[(.ref ob), (.int vx), (.int lx)] 4)) (T30.setTop (mkF m 125 #[.val (.ref ob), .val (.int vx), .val (.int lx), .val (.int v8)] [(.long ((vf (ln * 4 + vn / 64)) ||| ((1 : Int64) <<< (vx &&& 0x3f).toInt64))), (.int ((lx * (4 : Int32)) + (vx / (64 : Int32)))), (.ref a3)])) := fun t k => P34 t (by
          show Steps p.tables e below (T30.setTop (mkF m 121 #[.val (.ref ob), .val (.int vx), .val (.int lx), .val (.int v8)] [(.long (vf (ln * 4 + vn / 64))), (.int ((lx * (4 : Int32)) + (vx / (64 : Int32)))), (.ref a3)])) _
          refine XS.lconst X30.here hx rfl (hb hby d5_121) ?_
          show Steps p.tables e below (T30.setTop (mkF m 122 #[.val (.ref ob), .val (.int vx), .val (.int lx), .val (.int v8)] [(.long (1 : Int64)), (.long (vf (ln * 4 + vn / 64))), (.int ((lx * (4 : Int32)) + (vx / (64 : Int32)))), (.ref a3)])) _
          refine XS.iloadN X30.here hx rfl (hb hby d5_122) rfl  ?_
          show Steps p.tables e below (T30.setTop (mkF m 123 #[.val (.ref ob), .val (.int vx), .val (.int lx), .val (.int v8)] [(.int vx), (.long (1 : Int64)), (.long (vf (ln * 4 + vn / 64))), (.int ((lx * (4 : Int32)) + (vx / (64 : Int32)))), (.ref a3)])) _
          refine XS.lshl X30.here hx rfl (hb hby d5_123) rfl ?_
          show Steps p.tables e below (T30.setTop (mkF m 124 #[.val (.ref ob), .val (.int vx), .val (.int lx), .val (.int v8)] [(.long ((1 : Int64) <<< (vx &&& 0x3f).toInt64)), (.long (vf (ln * 4 + vn / 64))), (.int ((lx * (4 : Int32)) + (vx / (64 : Int32)))), (.ref a3)])) _
          refine XS.lor X30.here hx rfl (hb hby d5_124) rfl ?_
          exact k)
        obtain ⟨cl36, Ar36, hi36, -, up36⟩ := I27_a3.at (j := ((lx * (4 : Int32)) + (vx / (64 : Int32)))) (k := (ln * 4 + vn / 64)) (own_ix hlx hln hvx hvn) (own_ixl hln hvn) (by decide)
        obtain ⟨T36, h36, X36, e36, W36, st36⟩ := stJ X30 hx hZ e30 Ar36 (j := ((lx * (4 : Int32)) + (vx / (64 : Int32)))) hi36 (g := (mkF m 125 #[.val (.ref ob), .val (.int vx), .val (.int lx), .val (.int v8)] [(.long ((vf (ln * 4 + vn / 64)) ||| ((1 : Int64) <<< (vx &&& 0x3f).toInt64))), (.int ((lx * (4 : Int32)) + (vx / (64 : Int32)))), (.ref a3)])) rfl rfl (hb hby d5_125)
        have I36 := up36 _ _ W36
        have N36 := Fr.snoc X36 N27 g_a3
        have z36 : n0 ≤ h36.size := Nat.le_trans z27 (Keep.of_wr W36).1
        have K36 : Keep h0 h36 [ob, a1, a2, a3, a4] := K27.wr W36 (Or.inl (List.mem_of_getElem? (i := 3) rfl))
        have I36_a1 := I27_a1.other W36 ne_a1_a3
        have I36_a2 := I27.other W36 ne_a2_a3
        have I36_a4 := I27_a4.other W36 (Ne.symm ne_a3_a4)
        have A36_ob := A27_ob.wr W36
        have F36_ob_lengths := F27_ob_lengths.other W36 (Or.inl ne_ob_a3)
        have F36_ob_countOfLength := F27_ob_countOfLength.other W36 (Or.inl ne_ob_a3)
        have F36_ob_valuesOfLength := F27_ob_valuesOfLength.other W36 (Or.inl ne_ob_a3)
        have F36_ob_kraft := F27_ob_kraft.other W36 (Or.inl ne_ob_a3)
        have F36_ob_size := F27_ob_size.other W36 (Or.inl ne_ob_a3)
        have F36_ob_changes := F27_ob_changes.other W36 (Or.inl ne_ob_a3)
        have P37 : Wy p.tables e below (s₁.setTop (entryFrame m #[(.ref ob), (.int vx), (.int lx)] 4)) (T36.setTop (mkF m 126 #[.val (.ref ob), .val (.int vx), .val (.int lx), .val (.int v8)] [])) := fun t k => P35 t (st36 _ k)
        have P38 : Wy p.tables e below (s₁.setTop (entryFrame m #[(.ref ob), (.int vx), (.int lx)] 4)) (T36.setTop (mkF m 128 #[.val (.ref ob), .val (.int vx), .val (.int lx), .val (.int v8)] [(.int lx), (.ref ob)])) := fun t k => P37 t (by
          show Steps p.tables e below (T36.setTop (mkF m 126 #[.val (.ref ob), .val (.int vx), .val (.int lx), .val (.int v8)] [])) _
          refine XS.aloadN X36.here hx rfl (hb hby d5_126) rfl rfl  ?_
          show Steps p.tables e below (T36.setTop (mkF m 127 #[.val (.ref ob), .val (.int vx), .val (.int lx), .val (.int v8)] [(.ref ob)])) _
          refine XS.iloadN X36.here hx rfl (hb hby d5_127) rfl  ?_
          exact k)
        obtain ⟨cq39, q39, q39'⟩ := A36_ob.cell
        obtain ⟨_, _, ⟨T39, L39, k39, n39⟩, -, X39, ⟨Lc39, hQ39, l39, y39, z39⟩, st39⟩ := X36.privateBack hx (y := (⟨"com/example/leafpack/leafpack/CodeTable", "addKraft", "(I)V"⟩ : MethodName)) hown (mvT hZ (hw _ (List.mem_of_getElem? (i := 33) rfl))) (mvT hZ (hw _ (List.mem_of_getElem? (i := 34) rfl))) hs_addKraft (Cond.privateMethod_at (mvP hZ (hw _ (List.mem_of_getElem? (i := 35) rfl)) (args := #[]))) (mvT hZ (hw _ (List.mem_of_getElem? (i := 36) rfl))) (by decide) (backOf (W := 0) (rm6 l Z a0 hw [] ob lx a4 kr ln (own_K kr + 2 ^ (255 - ln)) h36 n0 z36 F36_ob_kraft I36_a4 g_a4 ne_ob_a4 hlx hln (own_add1 hKb) rfl) hZ (hw _ (List.mem_of_getElem? (i := 36) rfl)) (hw _ (List.mem_of_getElem? (i := 7) rfl)) (by decide) (by decide)) (g := (mkF m 128 #[.val (.ref ob), .val (.int vx), .val (.int lx), .val (.int v8)] [(.int lx), (.ref ob)])) rfl (by rw [hml]; rfl) (Steps.refl _) (a := ob) (by rw [e36]; exact q39) q39' (argsL := [(.int lx)]) (rest := []) (lenOf pd_lIrV rfl) rfl (by show 2 * 0 + _ ≤ _; exact Nat.le_of_eq rfl) (hb hby d5_128) (fun _ _ => ⟨rfl, e36, (by decide : 0 + 0 ≤ _), (by decide : 0 + 0 ≤ _)⟩)
        dsimp only [Pt.U, Pt.locs, Pt.cells, Pt.slots] at X39 l39 y39 z39 st39 hQ39
        subst l39 y39 z39
        obtain ⟨rfl, N39q, K39q, kr39, I39q, hK39⟩ := hQ39
        have N39 := Fr.app N36 N39q
        have K39 : Keep h0 T39.heap [ob, a1, a2, a3, a4] := K36.trans K39q (fun y hy => by cases List.mem_singleton.mp hy; exact Or.inl (List.mem_of_getElem? (i := 4) rfl))
        have z39k : n0 ≤ T39.heap.size := Nat.le_trans z36 K39q.1
        have I39_a1 := I36_a1.keep K39q (own_nm ne_a1_a4)
        have I39_a2 := I36_a2.keep K39q (own_nm ne_a2_a4)
        have I39_a3 := I36.keep K39q (own_nm ne_a3_a4)
        have A39_ob := A36_ob.keep K39q
        have F39_ob_lengths := F36_ob_lengths.keep K39q (own_nm ne_ob_a4)
        have F39_ob_countOfLength := F36_ob_countOfLength.keep K39q (own_nm ne_ob_a4)
        have F39_ob_valuesOfLength := F36_ob_valuesOfLength.keep K39q (own_nm ne_ob_a4)
        have F39_ob_kraft := F36_ob_kraft.keep K39q (own_nm ne_ob_a4)
        have F39_ob_size := F36_ob_size.keep K39q (own_nm ne_ob_a4)
        have F39_ob_changes := F36_ob_changes.keep K39q (own_nm ne_ob_a4)
        have P40 : Wy p.tables e below (s₁.setTop (entryFrame m #[(.ref ob), (.int vx), (.int lx)] 4)) (T39.setTop (mkF m 131 #[.val (.ref ob), .val (.int vx), .val (.int lx), .val (.int v8)] [])) := fun t k => P38 t (st39.trans k)
        have P41 : Wy p.tables e below (s₁.setTop (entryFrame m #[(.ref ob), (.int vx), (.int lx)] 4)) (T39.setTop (mkF m 133 #[.val (.ref ob), .val (.int vx), .val (.int lx), .val (.int v8)] [(.ref ob), (.ref ob)])) := fun t k => P40 t (by
          show Steps p.tables e below (T39.setTop (mkF m 131 #[.val (.ref ob), .val (.int vx), .val (.int lx), .val (.int v8)] [])) _
          refine XS.aloadN X39.here hx rfl (hb hby d5_131) rfl rfl  ?_
          show Steps p.tables e below (T39.setTop (mkF m 132 #[.val (.ref ob), .val (.int vx), .val (.int lx), .val (.int v8)] [(.ref ob)])) _
          refine XS.dup X39.here hx rfl (hb hby d5_132) rfl rfl ?_
          exact k)
        obtain ⟨T42, X42, e42, st42⟩ := getF X39 hx hZ hown (host := "") (Or.inl (hw _ (List.mem_of_getElem? (i := 45) rfl))) Via.refl rfl F39_ob_size (g := (mkF m 133 #[.val (.ref ob), .val (.int vx), .val (.int lx), .val (.int v8)] [(.ref ob), (.ref ob)])) rfl rfl (hb hby d5_133)
        have P43 : Wy p.tables e below (s₁.setTop (entryFrame m #[(.ref ob), (.int vx), (.int lx)] 4)) (T42.setTop (mkF m 136 #[.val (.ref ob), .val (.int vx), .val (.int lx), .val (.int v8)] [(.int sz), (.ref ob)])) := fun t k => P41 t (st42 _ k)
        have P44 : Wy p.tables e below (s₁.setTop (entryFrame m #[(.ref ob), (.int vx), (.int lx)] 4)) (T42.setTop (mkF m 138 #[.val (.ref ob), .val (.int vx), .val (.int lx), .val (.int v8)] [(.int (sz + (1 : Int32))), (.ref ob)])) := fun t k => P43 t (by
          show Steps p.tables e below (T42.setTop (mkF m 136 #[.val (.ref ob), .val (.int vx), .val (.int lx), .val (.int v8)] [(.int sz), (.ref ob)])) _
          refine XS.iconst X42.here hx rfl (hb hby d5_136) ?_
          show Steps p.tables e below (T42.setTop (mkF m 137 #[.val (.ref ob), .val (.int vx), .val (.int lx), .val (.int v8)] [(.int (1 : Int32)), (.int sz), (.ref ob)])) _
          refine XS.iadd X42.here hx rfl (hb hby d5_137) rfl ?_
          exact k)
        obtain ⟨T45, h45, X45, e45, W45, st45⟩ := putF X42 hx hZ hown (host := "") (Or.inl (hw _ (List.mem_of_getElem? (i := 45) rfl))) Via.refl e42 F39_ob_size A39_ob (Or.inl (hw _ (List.mem_of_getElem? (i := 46) rfl))) (hw _ (List.mem_of_getElem? (i := 6) rfl)) (ty := .int) (by decide) rfl rfl (g := (mkF m 138 #[.val (.ref ob), .val (.int vx), .val (.int lx), .val (.int v8)] [(.int (sz + (1 : Int32))), (.ref ob)])) rfl rfl (hb hby d5_138)
        have Fw45 := F39_ob_size.same W45
        have N45 := Fr.snoc X45 N39 g_ob
        have z45 : n0 ≤ h45.size := Nat.le_trans z39k (Keep.of_wr W45).1
        have I45_a1 := I39_a1.other W45 (Ne.symm ne_ob_a1)
        have I45_a2 := I39_a2.other W45 (Ne.symm ne_ob_a2)
        have I45_a3 := I39_a3.other W45 (Ne.symm ne_ob_a3)
        have I45_a4 := I39q.other W45 (Ne.symm ne_ob_a4)
        have A45_ob := A39_ob.wr W45
        have F45_ob_lengths := F39_ob_lengths.other W45 (Or.inr (slot_ne (Or.inr (hw _ (List.mem_of_getElem? (i := 16) rfl))) (Or.inl (hw _ (List.mem_of_getElem? (i := 46) rfl))) (by decide) (t := (.array .int)) (t' := .int) (by decide) (by decide)))
        have F45_ob_countOfLength := F39_ob_countOfLength.other W45 (Or.inr (slot_ne (Or.inr (hw _ (List.mem_of_getElem? (i := 18) rfl))) (Or.inl (hw _ (List.mem_of_getElem? (i := 46) rfl))) (by decide) (t := (.array .int)) (t' := .int) (by decide) (by decide)))
        have F45_ob_valuesOfLength := F39_ob_valuesOfLength.other W45 (Or.inr (slot_ne (Or.inr (hw _ (List.mem_of_getElem? (i := 21) rfl))) (Or.inl (hw _ (List.mem_of_getElem? (i := 46) rfl))) (by decide) (t := (.array .long)) (t' := .int) (by decide) (by decide)))
        have F45_ob_kraft := F39_ob_kraft.other W45 (Or.inr (slot_ne (Or.inr (hw _ (List.mem_of_getElem? (i := 23) rfl))) (Or.inl (hw _ (List.mem_of_getElem? (i := 46) rfl))) (by decide) (t := (.array .long)) (t' := .int) (by decide) (by decide)))
        have F45_ob_changes := F39_ob_changes.other W45 (Or.inr (slot_ne (Or.inl (hw _ (List.mem_of_getElem? (i := 48) rfl))) (Or.inl (hw _ (List.mem_of_getElem? (i := 46) rfl))) (by decide) (t := .long) (t' := .int) (by decide) (by decide)))
        have K45 : Keep h0 h45 [ob, a1, a2, a3, a4] := K39.wr W45 (Or.inl (List.mem_of_getElem? (i := 0) rfl))
        have P46 : Wy p.tables e below (s₁.setTop (entryFrame m #[(.ref ob), (.int vx), (.int lx)] 4)) (T45.setTop (mkF m 141 #[.val (.ref ob), .val (.int vx), .val (.int lx), .val (.int v8)] [])) := fun t k => P44 t (st45 _ k)
        have P47 : Wy p.tables e below (s₁.setTop (entryFrame m #[(.ref ob), (.int vx), (.int lx)] 4)) (T45.setTop (mkF m 142 #[.val (.ref ob), .val (.int vx), .val (.int lx), .val (.int v8)] [(.ref ob)])) := fun t k => P46 t (by
          show Steps p.tables e below (T45.setTop (mkF m 141 #[.val (.ref ob), .val (.int vx), .val (.int lx), .val (.int v8)] [])) _
          refine XS.aloadN X45.here hx rfl (hb hby d5_141) rfl rfl  ?_
          exact k)
        obtain ⟨T48, X48, e48, st48⟩ := getF X45 hx hZ hown (host := "") (Or.inl (hw _ (List.mem_of_getElem? (i := 15) rfl))) Via.refl e45 F45_ob_lengths (g := (mkF m 142 #[.val (.ref ob), .val (.int vx), .val (.int lx), .val (.int v8)] [(.ref ob)])) rfl rfl (hb hby d5_142)
        have P49 : Wy p.tables e below (s₁.setTop (entryFrame m #[(.ref ob), (.int vx), (.int lx)] 4)) (T48.setTop (mkF m 145 #[.val (.ref ob), .val (.int vx), .val (.int lx), .val (.int v8)] [(.ref a1)])) := fun t k => P47 t (st48 _ k)
        have P50 : Wy p.tables e below (s₁.setTop (entryFrame m #[(.ref ob), (.int vx), (.int lx)] 4)) (T48.setTop (mkF m 147 #[.val (.ref ob), .val (.int vx), .val (.int lx), .val (.int v8)] [(.int lx), (.int vx), (.ref a1)])) := fun t k => P49 t (by
          show Steps p.tables e below (T48.setTop (mkF m 145 #[.val (.ref ob), .val (.int vx), .val (.int lx), .val (.int v8)] [(.ref a1)])) _
          refine XS.iloadN X48.here hx rfl (hb hby d5_145) rfl  ?_
          show Steps p.tables e below (T48.setTop (mkF m 146 #[.val (.ref ob), .val (.int vx), .val (.int lx), .val (.int v8)] [(.int vx), (.ref a1)])) _
          refine XS.iloadN X48.here hx rfl (hb hby d5_146) rfl  ?_
          exact k)
        obtain ⟨cl51, Ar51, hi51, -, up51⟩ := I45_a1.at (j := vx) (k := vn) hvx hvn (by decide)
        obtain ⟨T51, h51, X51, e51, W51, st51⟩ := stI X48 hx hZ e48 Ar51 (j := vx) hi51 (g := (mkF m 147 #[.val (.ref ob), .val (.int vx), .val (.int lx), .val (.int v8)] [(.int lx), (.int vx), (.ref a1)])) rfl rfl (hb hby d5_147)
        have I51 := up51 _ _ W51
        have N51 := Fr.snoc X51 N45 g_a1
        have z51 : n0 ≤ h51.size := Nat.le_trans z45 (Keep.of_wr W51).1
        have K51 : Keep h0 h51 [ob, a1, a2, a3, a4] := K45.wr W51 (Or.inl (List.mem_of_getElem? (i := 1) rfl))
        have I51_a2 := I45_a2.other W51 (Ne.symm ne_a1_a2)
        have I51_a3 := I45_a3.other W51 (Ne.symm ne_a1_a3)
        have I51_a4 := I45_a4.other W51 (Ne.symm ne_a1_a4)
        have A51_ob := A45_ob.wr W51
        have F51_ob_lengths := F45_ob_lengths.other W51 (Or.inl ne_ob_a1)
        have F51_ob_countOfLength := F45_ob_countOfLength.other W51 (Or.inl ne_ob_a1)
        have F51_ob_valuesOfLength := F45_ob_valuesOfLength.other W51 (Or.inl ne_ob_a1)
        have F51_ob_kraft := F45_ob_kraft.other W51 (Or.inl ne_ob_a1)
        have F51_ob_size := Fw45.other W51 (Or.inl ne_ob_a1)
        have F51_ob_changes := F45_ob_changes.other W51 (Or.inl ne_ob_a1)
        have P52 : Wy p.tables e below (s₁.setTop (entryFrame m #[(.ref ob), (.int vx), (.int lx)] 4)) (T51.setTop (mkF m 148 #[.val (.ref ob), .val (.int vx), .val (.int lx), .val (.int v8)] [])) := fun t k => P50 t (st51 _ k)
        have P53 : Wy p.tables e below (s₁.setTop (entryFrame m #[(.ref ob), (.int vx), (.int lx)] 4)) (T51.setTop (mkF m 150 #[.val (.ref ob), .val (.int vx), .val (.int lx), .val (.int v8)] [(.ref ob), (.ref ob)])) := fun t k => P52 t (by
          show Steps p.tables e below (T51.setTop (mkF m 148 #[.val (.ref ob), .val (.int vx), .val (.int lx), .val (.int v8)] [])) _
          refine XS.aloadN X51.here hx rfl (hb hby d5_148) rfl rfl  ?_
          show Steps p.tables e below (T51.setTop (mkF m 149 #[.val (.ref ob), .val (.int vx), .val (.int lx), .val (.int v8)] [(.ref ob)])) _
          refine XS.dup X51.here hx rfl (hb hby d5_149) rfl rfl ?_
          exact k)
        obtain ⟨T54, X54, e54, st54⟩ := getF X51 hx hZ hown (host := "") (Or.inl (hw _ (List.mem_of_getElem? (i := 47) rfl))) Via.refl e51 F51_ob_changes (g := (mkF m 150 #[.val (.ref ob), .val (.int vx), .val (.int lx), .val (.int v8)] [(.ref ob), (.ref ob)])) rfl rfl (hb hby d5_150)
        have P55 : Wy p.tables e below (s₁.setTop (entryFrame m #[(.ref ob), (.int vx), (.int lx)] 4)) (T54.setTop (mkF m 153 #[.val (.ref ob), .val (.int vx), .val (.int lx), .val (.int v8)] [(.long ch), (.ref ob)])) := fun t k => P53 t (st54 _ k)
        have P56 : Wy p.tables e below (s₁.setTop (entryFrame m #[(.ref ob), (.int vx), (.int lx)] 4)) (T54.setTop (mkF m 155 #[.val (.ref ob), .val (.int vx), .val (.int lx), .val (.int v8)] [(.long (ch + (1 : Int64))), (.ref ob)])) := fun t k => P55 t (by
          show Steps p.tables e below (T54.setTop (mkF m 153 #[.val (.ref ob), .val (.int vx), .val (.int lx), .val (.int v8)] [(.long ch), (.ref ob)])) _
          refine XS.lconst X54.here hx rfl (hb hby d5_153) ?_
          show Steps p.tables e below (T54.setTop (mkF m 154 #[.val (.ref ob), .val (.int vx), .val (.int lx), .val (.int v8)] [(.long (1 : Int64)), (.long ch), (.ref ob)])) _
          refine XS.ladd X54.here hx rfl (hb hby d5_154) rfl ?_
          exact k)
        obtain ⟨T57, h57, X57, e57, W57, st57⟩ := putF X54 hx hZ hown (host := "") (Or.inl (hw _ (List.mem_of_getElem? (i := 47) rfl))) Via.refl e54 F51_ob_changes A51_ob (Or.inl (hw _ (List.mem_of_getElem? (i := 48) rfl))) (hw _ (List.mem_of_getElem? (i := 6) rfl)) (ty := .long) (by decide) rfl rfl (g := (mkF m 155 #[.val (.ref ob), .val (.int vx), .val (.int lx), .val (.int v8)] [(.long (ch + (1 : Int64))), (.ref ob)])) rfl rfl (hb hby d5_155)
        have Fw57 := F51_ob_changes.same W57
        have N57 := Fr.snoc X57 N51 g_ob
        have z57 : n0 ≤ h57.size := Nat.le_trans z51 (Keep.of_wr W57).1
        have I57_a1 := I51.other W57 (Ne.symm ne_ob_a1)
        have I57_a2 := I51_a2.other W57 (Ne.symm ne_ob_a2)
        have I57_a3 := I51_a3.other W57 (Ne.symm ne_ob_a3)
        have I57_a4 := I51_a4.other W57 (Ne.symm ne_ob_a4)
        have A57_ob := A51_ob.wr W57
        have F57_ob_lengths := F51_ob_lengths.other W57 (Or.inr (slot_ne (Or.inr (hw _ (List.mem_of_getElem? (i := 16) rfl))) (Or.inl (hw _ (List.mem_of_getElem? (i := 48) rfl))) (by decide) (t := (.array .int)) (t' := .long) (by decide) (by decide)))
        have F57_ob_countOfLength := F51_ob_countOfLength.other W57 (Or.inr (slot_ne (Or.inr (hw _ (List.mem_of_getElem? (i := 18) rfl))) (Or.inl (hw _ (List.mem_of_getElem? (i := 48) rfl))) (by decide) (t := (.array .int)) (t' := .long) (by decide) (by decide)))
        have F57_ob_valuesOfLength := F51_ob_valuesOfLength.other W57 (Or.inr (slot_ne (Or.inr (hw _ (List.mem_of_getElem? (i := 21) rfl))) (Or.inl (hw _ (List.mem_of_getElem? (i := 48) rfl))) (by decide) (t := (.array .long)) (t' := .long) (by decide) (by decide)))
        have F57_ob_kraft := F51_ob_kraft.other W57 (Or.inr (slot_ne (Or.inr (hw _ (List.mem_of_getElem? (i := 23) rfl))) (Or.inl (hw _ (List.mem_of_getElem? (i := 48) rfl))) (by decide) (t := (.array .long)) (t' := .long) (by decide) (by decide)))
        have F57_ob_size := F51_ob_size.other W57 (Or.inr (slot_ne (Or.inl (hw _ (List.mem_of_getElem? (i := 46) rfl))) (Or.inl (hw _ (List.mem_of_getElem? (i := 48) rfl))) (by decide) (t := .int) (t' := .long) (by decide) (by decide)))
        have K57 : Keep h0 h57 [ob, a1, a2, a3, a4] := K51.wr W57 (Or.inl (List.mem_of_getElem? (i := 0) rfl))
        have P58 : Wy p.tables e below (s₁.setTop (entryFrame m #[(.ref ob), (.int vx), (.int lx)] 4)) (T57.setTop (mkF m 158 #[.val (.ref ob), .val (.int vx), .val (.int lx), .val (.int v8)] [])) := fun t k => P56 t (st57 _ k)
        obtain ⟨fs, hr, hrun, hended, hW, hsame⟩ := X57.leave (v := none) (fun _ => rfl)
        refine ⟨_, _, P58 _ ?_, hrun, hended, _, _, rfl, ?_, ⟨_, rfl⟩, hW, hsame.mono (by decide) (by decide)⟩
        · show Steps p.tables e below (T57.setTop (mkF m 158 #[.val (.ref ob), .val (.int vx), .val (.int lx), .val (.int v8)] [])) _
          exact X57.returnOut hx Bd.returns (hb hby d5_158) hr
        · show Q5 Z ob vx lx a1 a2 a3 a4 lf cf vf kr sz ch vn h0 n0 _ T57.heap _
          rw [e57]
          exact ⟨rfl, N57, K57, _, _, _, _, _, (own_kpB (own_wt0 (x := lf vn) (by rw [← hv8]; exact hc41_14)) (own_wtN hlx hln) hK39), A57_ob, F57_ob_lengths, F57_ob_countOfLength, F57_ob_valuesOfLength, F57_ob_kraft, F57_ob_size, Fw57, I57_a1, I57_a2, I57_a3, I57_a4⟩
    · have P59 : Wy p.tables e below (s₁.setTop (entryFrame m #[(.ref ob), (.int vx), (.int lx)] 4)) (T2.setTop (mkF m 44 #[.val (.ref ob), .val (.int vx), .val (.int lx), .val (.int v8)] [])) := fun t k => P13 t (by
        show Steps p.tables e below (T2.setTop (mkF m 41 #[.val (.ref ob), .val (.int vx), .val (.int lx), .val (.int v8)] [(.int (-1 : Int32)), (.int v8)])) _
        refine XS.icmpNo X2.here hx rfl (hb hby d5_41) rfl (feq hc41_14).1 ?_
        exact k)
      obtain ⟨bn, hbn, hbx⟩ := own_okn (by rw [hv8]; exact hokb) hc41_14
      have P60 : Wy p.tables e below (s₁.setTop (entryFrame m #[(.ref ob), (.int vx), (.int lx)] 4)) (T2.setTop (mkF m 45 #[.val (.ref ob), .val (.int vx), .val (.int lx), .val (.int v8)] [(.ref ob)])) := fun t k => P59 t (by
        show Steps p.tables e below (T2.setTop (mkF m 44 #[.val (.ref ob), .val (.int vx), .val (.int lx), .val (.int v8)] [])) _
        refine XS.aloadN X2.here hx rfl (hb hby d5_44) rfl rfl  ?_
        exact k)
      obtain ⟨T61, X61, e61, st61⟩ := getF X2 hx hZ hown (host := "") (Or.inl (hw _ (List.mem_of_getElem? (i := 17) rfl))) Via.refl e2 FicountOfLength (g := (mkF m 45 #[.val (.ref ob), .val (.int vx), .val (.int lx), .val (.int v8)] [(.ref ob)])) rfl rfl (hb hby d5_45)
      have P62 : Wy p.tables e below (s₁.setTop (entryFrame m #[(.ref ob), (.int vx), (.int lx)] 4)) (T61.setTop (mkF m 48 #[.val (.ref ob), .val (.int vx), .val (.int lx), .val (.int v8)] [(.ref a2)])) := fun t k => P60 t (st61 _ k)
      have P63 : Wy p.tables e below (s₁.setTop (entryFrame m #[(.ref ob), (.int vx), (.int lx)] 4)) (T61.setTop (mkF m 50 #[.val (.ref ob), .val (.int vx), .val (.int lx), .val (.int v8)] [(.int v8), (.ref a2), (.int v8), (.ref a2)])) := fun t k => P62 t (by
        show Steps p.tables e below (T61.setTop (mkF m 48 #[.val (.ref ob), .val (.int vx), .val (.int lx), .val (.int v8)] [(.ref a2)])) _
        refine XS.iloadN X61.here hx rfl (hb hby d5_48) rfl  ?_
        show Steps p.tables e below (T61.setTop (mkF m 49 #[.val (.ref ob), .val (.int vx), .val (.int lx), .val (.int v8)] [(.int v8), (.ref a2)])) _
        refine XT.dup2 X61.here hx rfl (hb hby d5_49) rfl rfl rfl ?_
        exact k)
      obtain ⟨cl64, Ar64, hi64, ha64, -⟩ := Iia2.at (j := v8) (k := bn) hbx (Nat.lt_succ_of_le hbn) (by decide)
      have P65 : Wy p.tables e below (s₁.setTop (entryFrame m #[(.ref ob), (.int vx), (.int lx)] 4)) (T61.setTop (mkF m 51 #[.val (.ref ob), .val (.int vx), .val (.int lx), .val (.int v8)] [(.int (cf bn)), (.int v8), (.ref a2)])) := fun t k => P63 t (X61.iaload hx (j := v8) (v := (.int (cf bn))) (by rw [e61]; exact Ar64.1) (State.isArrayOf_alike hZ.alike Ar64.2.1) Ar64.2.2 hi64 ha64 (g := (mkF m 50 #[.val (.ref ob), .val (.int vx), .val (.int lx), .val (.int v8)] [(.int v8), (.ref a2), (.int v8), (.ref a2)])) rfl rfl (hb hby d5_50) _ k)
      have P66 : Wy p.tables e below (s₁.setTop (entryFrame m #[(.ref ob), (.int vx), (.int lx)] 4)) (T61.setTop (mkF m 53 #[.val (.ref ob), .val (.int vx), .val (.int lx), .val (.int v8)] [(.int ((cf bn) - (1 : Int32))), (.int v8), (.ref a2)])) := fun t k => P65 t (by
        show Steps p.tables e below (T61.setTop (mkF m 51 #[.val (.ref ob), .val (.int vx), .val (.int lx), .val (.int v8)] [(.int (cf bn)), (.int v8), (.ref a2)])) _
        refine XS.iconst X61.here hx rfl (hb hby d5_51) ?_
        show Steps p.tables e below (T61.setTop (mkF m 52 #[.val (.ref ob), .val (.int vx), .val (.int lx), .val (.int v8)] [(.int (1 : Int32)), (.int (cf bn)), (.int v8), (.ref a2)])) _
        refine XS.isub X61.here hx rfl (hb hby d5_52) rfl ?_
        exact k)
      obtain ⟨cl67, Ar67, hi67, -, up67⟩ := Iia2.at (j := v8) (k := bn) hbx (Nat.lt_succ_of_le hbn) (by decide)
      obtain ⟨T67, h67, X67, e67, W67, st67⟩ := stI X61 hx hZ e61 Ar67 (j := v8) hi67 (g := (mkF m 53 #[.val (.ref ob), .val (.int vx), .val (.int lx), .val (.int v8)] [(.int ((cf bn) - (1 : Int32))), (.int v8), (.ref a2)])) rfl rfl (hb hby d5_53)
      have I67 := up67 _ _ W67
      have N67 := Fr.snoc X67 N0 g_a2
      have z67 : n0 ≤ h67.size := Nat.le_trans Z0 (Keep.of_wr W67).1
      have K67 : Keep h0 h67 [ob, a1, a2, a3, a4] := (Keep.refl h0 [ob, a1, a2, a3, a4]).wr W67 (Or.inl (List.mem_of_getElem? (i := 2) rfl))
      have I67_a1 := Iia1.other W67 ne_a1_a2
      have I67_a3 := Iia3.other W67 (Ne.symm ne_a2_a3)
      have I67_a4 := Iia4.other W67 (Ne.symm ne_a2_a4)
      have A67_ob := Ei.wr W67
      have F67_ob_lengths := Filengths.other W67 (Or.inl ne_ob_a2)
      have F67_ob_countOfLength := FicountOfLength.other W67 (Or.inl ne_ob_a2)
      have F67_ob_valuesOfLength := FivaluesOfLength.other W67 (Or.inl ne_ob_a2)
      have F67_ob_kraft := Fikraft.other W67 (Or.inl ne_ob_a2)
      have F67_ob_size := Fisize.other W67 (Or.inl ne_ob_a2)
      have F67_ob_changes := Fichanges.other W67 (Or.inl ne_ob_a2)
      have P68 : Wy p.tables e below (s₁.setTop (entryFrame m #[(.ref ob), (.int vx), (.int lx)] 4)) (T67.setTop (mkF m 54 #[.val (.ref ob), .val (.int vx), .val (.int lx), .val (.int v8)] [])) := fun t k => P66 t (st67 _ k)
      have P69 : Wy p.tables e below (s₁.setTop (entryFrame m #[(.ref ob), (.int vx), (.int lx)] 4)) (T67.setTop (mkF m 55 #[.val (.ref ob), .val (.int vx), .val (.int lx), .val (.int v8)] [(.ref ob)])) := fun t k => P68 t (by
        show Steps p.tables e below (T67.setTop (mkF m 54 #[.val (.ref ob), .val (.int vx), .val (.int lx), .val (.int v8)] [])) _
        refine XS.aloadN X67.here hx rfl (hb hby d5_54) rfl rfl  ?_
        exact k)
      obtain ⟨T70, X70, e70, st70⟩ := getF X67 hx hZ hown (host := "") (Or.inl (hw _ (List.mem_of_getElem? (i := 20) rfl))) Via.refl e67 F67_ob_valuesOfLength (g := (mkF m 55 #[.val (.ref ob), .val (.int vx), .val (.int lx), .val (.int v8)] [(.ref ob)])) rfl rfl (hb hby d5_55)
      have P71 : Wy p.tables e below (s₁.setTop (entryFrame m #[(.ref ob), (.int vx), (.int lx)] 4)) (T70.setTop (mkF m 58 #[.val (.ref ob), .val (.int vx), .val (.int lx), .val (.int v8)] [(.ref a3)])) := fun t k => P69 t (st70 _ k)
      have P72 : Wy p.tables e below (s₁.setTop (entryFrame m #[(.ref ob), (.int vx), (.int lx)] 4)) (T70.setTop (mkF m 67 #[.val (.ref ob), .val (.int vx), .val (.int lx), .val (.int v8)] [(.int ((v8 * (4 : Int32)) + (vx / (64 : Int32)))), (.ref a3), (.int ((v8 * (4 : Int32)) + (vx / (64 : Int32)))), (.ref a3)])) := fun t k => P71 t (by
        show Steps p.tables e below (T70.setTop (mkF m 58 #[.val (.ref ob), .val (.int vx), .val (.int lx), .val (.int v8)] [(.ref a3)])) _
        refine XS.iloadN X70.here hx rfl (hb hby d5_58) rfl  ?_
        show Steps p.tables e below (T70.setTop (mkF m 59 #[.val (.ref ob), .val (.int vx), .val (.int lx), .val (.int v8)] [(.int v8), (.ref a3)])) _
        refine XS.iconst X70.here hx rfl (hb hby d5_59) ?_
        show Steps p.tables e below (T70.setTop (mkF m 60 #[.val (.ref ob), .val (.int vx), .val (.int lx), .val (.int v8)] [(.int (4 : Int32)), (.int v8), (.ref a3)])) _
        refine XS.imul X70.here hx rfl (hb hby d5_60) rfl ?_
        show Steps p.tables e below (T70.setTop (mkF m 61 #[.val (.ref ob), .val (.int vx), .val (.int lx), .val (.int v8)] [(.int (v8 * (4 : Int32))), (.ref a3)])) _
        refine XS.iloadN X70.here hx rfl (hb hby d5_61) rfl  ?_
        show Steps p.tables e below (T70.setTop (mkF m 62 #[.val (.ref ob), .val (.int vx), .val (.int lx), .val (.int v8)] [(.int vx), (.int (v8 * (4 : Int32))), (.ref a3)])) _
        refine XS.bipush X70.here hx rfl (hb hby d5_62) ?_
        show Steps p.tables e below (T70.setTop (mkF m 64 #[.val (.ref ob), .val (.int vx), .val (.int lx), .val (.int v8)] [(.int (64 : Int32)), (.int vx), (.int (v8 * (4 : Int32))), (.ref a3)])) _
        refine XS.idiv X70.here hx rfl (hb hby d5_64) rfl (by decide) ?_
        show Steps p.tables e below (T70.setTop (mkF m 65 #[.val (.ref ob), .val (.int vx), .val (.int lx), .val (.int v8)] [(.int (vx / (64 : Int32))), (.int (v8 * (4 : Int32))), (.ref a3)])) _
        refine XS.iadd X70.here hx rfl (hb hby d5_65) rfl ?_
        show Steps p.tables e below (T70.setTop (mkF m 66 #[.val (.ref ob), .val (.int vx), .val (.int lx), .val (.int v8)] [(.int ((v8 * (4 : Int32)) + (vx / (64 : Int32)))), (.ref a3)])) _
        refine XT.dup2 X70.here hx rfl (hb hby d5_66) rfl rfl rfl ?_
        exact k)
      obtain ⟨cl73, Ar73, hi73, ha73, -⟩ := I67_a3.at (j := ((v8 * (4 : Int32)) + (vx / (64 : Int32)))) (k := (bn * 4 + vn / 64)) (own_ix hbx hbn hvx hvn) (own_ixl hbn hvn) (by decide)
      have P74 : Wy p.tables e below (s₁.setTop (entryFrame m #[(.ref ob), (.int vx), (.int lx)] 4)) (T70.setTop (mkF m 68 #[.val (.ref ob), .val (.int vx), .val (.int lx), .val (.int v8)] [(.long (vf (bn * 4 + vn / 64))), (.int ((v8 * (4 : Int32)) + (vx / (64 : Int32)))), (.ref a3)])) := fun t k => P72 t (X70.laload hx (j := ((v8 * (4 : Int32)) + (vx / (64 : Int32)))) (v := (.long (vf (bn * 4 + vn / 64)))) (by rw [e70]; exact Ar73.1) (State.isArrayOf_alike hZ.alike Ar73.2.1) Ar73.2.2 hi73 ha73 (g := (mkF m 67 #[.val (.ref ob), .val (.int vx), .val (.int lx), .val (.int v8)] [(.int ((v8 * (4 : Int32)) + (vx / (64 : Int32)))), (.ref a3), (.int ((v8 * (4 : Int32)) + (vx / (64 : Int32)))), (.ref a3)])) rfl rfl (hb hby d5_67) _ k)
      have P75 : Wy p.tables e below (s₁.setTop (entryFrame m #[(.ref ob), (.int vx), (.int lx)] 4)) (T70.setTop (mkF m 76 #[.val (.ref ob), .val (.int vx), .val (.int lx), .val (.int v8)] [(.long ((vf (bn * 4 + vn / 64)) &&& (((1 : Int64) <<< (vx &&& 0x3f).toInt64) ^^^ (-1 : Int64)))), (.int ((v8 * (4 : Int32)) + (vx / (64 : Int32)))), (.ref a3)])) := fun t k => P74 t (by
        show Steps p.tables e below (T70.setTop (mkF m 68 #[.val (.ref ob), .val (.int vx), .val (.int lx), .val (.int v8)] [(.long (vf (bn * 4 + vn / 64))), (.int ((v8 * (4 : Int32)) + (vx / (64 : Int32)))), (.ref a3)])) _
        refine XS.lconst X70.here hx rfl (hb hby d5_68) ?_
        show Steps p.tables e below (T70.setTop (mkF m 69 #[.val (.ref ob), .val (.int vx), .val (.int lx), .val (.int v8)] [(.long (1 : Int64)), (.long (vf (bn * 4 + vn / 64))), (.int ((v8 * (4 : Int32)) + (vx / (64 : Int32)))), (.ref a3)])) _
        refine XS.iloadN X70.here hx rfl (hb hby d5_69) rfl  ?_
        show Steps p.tables e below (T70.setTop (mkF m 70 #[.val (.ref ob), .val (.int vx), .val (.int lx), .val (.int v8)] [(.int vx), (.long (1 : Int64)), (.long (vf (bn * 4 + vn / 64))), (.int ((v8 * (4 : Int32)) + (vx / (64 : Int32)))), (.ref a3)])) _
        refine XS.lshl X70.here hx rfl (hb hby d5_70) rfl ?_
        show Steps p.tables e below (T70.setTop (mkF m 71 #[.val (.ref ob), .val (.int vx), .val (.int lx), .val (.int v8)] [(.long ((1 : Int64) <<< (vx &&& 0x3f).toInt64)), (.long (vf (bn * 4 + vn / 64))), (.int ((v8 * (4 : Int32)) + (vx / (64 : Int32)))), (.ref a3)])) _
        refine X70.ldc2Long hx hown (mvT hZ (hw _ (List.mem_of_getElem? (i := 49) rfl))) (g := (mkF m 71 #[.val (.ref ob), .val (.int vx), .val (.int lx), .val (.int v8)] [(.long ((1 : Int64) <<< (vx &&& 0x3f).toInt64)), (.long (vf (bn * 4 + vn / 64))), (.int ((v8 * (4 : Int32)) + (vx / (64 : Int32)))), (.ref a3)])) rfl (hb hby d5_71) _ ?_
        show Steps p.tables e below (T70.setTop (mkF m 74 #[.val (.ref ob), .val (.int vx), .val (.int lx), .val (.int v8)] [(.long (-1 : Int64)), (.long ((1 : Int64) <<< (vx &&& 0x3f).toInt64)), (.long (vf (bn * 4 + vn / 64))), (.int ((v8 * (4 : Int32)) + (vx / (64 : Int32)))), (.ref a3)])) _
        refine XS.lxor X70.here hx rfl (hb hby d5_74) rfl ?_
        show Steps p.tables e below (T70.setTop (mkF m 75 #[.val (.ref ob), .val (.int vx), .val (.int lx), .val (.int v8)] [(.long (((1 : Int64) <<< (vx &&& 0x3f).toInt64) ^^^ (-1 : Int64))), (.long (vf (bn * 4 + vn / 64))), (.int ((v8 * (4 : Int32)) + (vx / (64 : Int32)))), (.ref a3)])) _
        refine XS.land X70.here hx rfl (hb hby d5_75) rfl ?_
        exact k)
      obtain ⟨cl76, Ar76, hi76, -, up76⟩ := I67_a3.at (j := ((v8 * (4 : Int32)) + (vx / (64 : Int32)))) (k := (bn * 4 + vn / 64)) (own_ix hbx hbn hvx hvn) (own_ixl hbn hvn) (by decide)
      obtain ⟨T76, h76, X76, e76, W76, st76⟩ := stJ X70 hx hZ e70 Ar76 (j := ((v8 * (4 : Int32)) + (vx / (64 : Int32)))) hi76 (g := (mkF m 76 #[.val (.ref ob), .val (.int vx), .val (.int lx), .val (.int v8)] [(.long ((vf (bn * 4 + vn / 64)) &&& (((1 : Int64) <<< (vx &&& 0x3f).toInt64) ^^^ (-1 : Int64)))), (.int ((v8 * (4 : Int32)) + (vx / (64 : Int32)))), (.ref a3)])) rfl rfl (hb hby d5_76)
      have I76 := up76 _ _ W76
      have N76 := Fr.snoc X76 N67 g_a3
      have z76 : n0 ≤ h76.size := Nat.le_trans z67 (Keep.of_wr W76).1
      have K76 : Keep h0 h76 [ob, a1, a2, a3, a4] := K67.wr W76 (Or.inl (List.mem_of_getElem? (i := 3) rfl))
      have I76_a1 := I67_a1.other W76 ne_a1_a3
      have I76_a2 := I67.other W76 ne_a2_a3
      have I76_a4 := I67_a4.other W76 (Ne.symm ne_a3_a4)
      have A76_ob := A67_ob.wr W76
      have F76_ob_lengths := F67_ob_lengths.other W76 (Or.inl ne_ob_a3)
      have F76_ob_countOfLength := F67_ob_countOfLength.other W76 (Or.inl ne_ob_a3)
      have F76_ob_valuesOfLength := F67_ob_valuesOfLength.other W76 (Or.inl ne_ob_a3)
      have F76_ob_kraft := F67_ob_kraft.other W76 (Or.inl ne_ob_a3)
      have F76_ob_size := F67_ob_size.other W76 (Or.inl ne_ob_a3)
      have F76_ob_changes := F67_ob_changes.other W76 (Or.inl ne_ob_a3)
      have P77 : Wy p.tables e below (s₁.setTop (entryFrame m #[(.ref ob), (.int vx), (.int lx)] 4)) (T76.setTop (mkF m 77 #[.val (.ref ob), .val (.int vx), .val (.int lx), .val (.int v8)] [])) := fun t k => P75 t (st76 _ k)
      have P78 : Wy p.tables e below (s₁.setTop (entryFrame m #[(.ref ob), (.int vx), (.int lx)] 4)) (T76.setTop (mkF m 79 #[.val (.ref ob), .val (.int vx), .val (.int lx), .val (.int v8)] [(.int v8), (.ref ob)])) := fun t k => P77 t (by
        show Steps p.tables e below (T76.setTop (mkF m 77 #[.val (.ref ob), .val (.int vx), .val (.int lx), .val (.int v8)] [])) _
        refine XS.aloadN X76.here hx rfl (hb hby d5_77) rfl rfl  ?_
        show Steps p.tables e below (T76.setTop (mkF m 78 #[.val (.ref ob), .val (.int vx), .val (.int lx), .val (.int v8)] [(.ref ob)])) _
        refine XS.iloadN X76.here hx rfl (hb hby d5_78) rfl  ?_
        exact k)
      obtain ⟨cq79, q79, q79'⟩ := A76_ob.cell
      obtain ⟨_, _, ⟨T79, L79, k79, n79⟩, -, X79, ⟨Lc79, hQ79, l79, y79, z79⟩, st79⟩ := X76.privateBack hx (y := (⟨"com/example/leafpack/leafpack/CodeTable", "subtractKraft", "(I)V"⟩ : MethodName)) hown (mvT hZ (hw _ (List.mem_of_getElem? (i := 50) rfl))) (mvT hZ (hw _ (List.mem_of_getElem? (i := 51) rfl))) hs_subtractKraft (Cond.privateMethod_at (mvP hZ (hw _ (List.mem_of_getElem? (i := 52) rfl)) (args := #[]))) (mvT hZ (hw _ (List.mem_of_getElem? (i := 53) rfl))) (by decide) (backOf (W := 0) (rm9 l Z a0 hw [] ob v8 a4 kr bn (own_K kr - 2 ^ (255 - bn)) h76 n0 z76 F76_ob_kraft I76_a4 g_a4 ne_ob_a4 hbx hbn (Nat.lt_of_le_of_lt (Nat.sub_le _ _) (own_Klt kr)) (own_sub1 (by rw [← own_wtN hbx hbn, hv8]; exact hle))) hZ (hw _ (List.mem_of_getElem? (i := 53) rfl)) (hw _ (List.mem_of_getElem? (i := 7) rfl)) (by decide) (by decide)) (g := (mkF m 79 #[.val (.ref ob), .val (.int vx), .val (.int lx), .val (.int v8)] [(.int v8), (.ref ob)])) rfl (by rw [hml]; rfl) (Steps.refl _) (a := ob) (by rw [e76]; exact q79) q79' (argsL := [(.int v8)]) (rest := []) (lenOf pd_lIrV rfl) rfl (by show 2 * 0 + _ ≤ _; exact Nat.le_of_eq rfl) (hb hby d5_79) (fun _ _ => ⟨rfl, e76, (by decide : 0 + 0 ≤ _), (by decide : 0 + 0 ≤ _)⟩)
      dsimp only [Pt.U, Pt.locs, Pt.cells, Pt.slots] at X79 l79 y79 z79 st79 hQ79
      subst l79 y79 z79
      obtain ⟨rfl, N79q, K79q, kr79, I79q, hK79⟩ := hQ79
      have N79 := Fr.app N76 N79q
      have K79 : Keep h0 T79.heap [ob, a1, a2, a3, a4] := K76.trans K79q (fun y hy => by cases List.mem_singleton.mp hy; exact Or.inl (List.mem_of_getElem? (i := 4) rfl))
      have z79k : n0 ≤ T79.heap.size := Nat.le_trans z76 K79q.1
      have I79_a1 := I76_a1.keep K79q (own_nm ne_a1_a4)
      have I79_a2 := I76_a2.keep K79q (own_nm ne_a2_a4)
      have I79_a3 := I76.keep K79q (own_nm ne_a3_a4)
      have A79_ob := A76_ob.keep K79q
      have F79_ob_lengths := F76_ob_lengths.keep K79q (own_nm ne_ob_a4)
      have F79_ob_countOfLength := F76_ob_countOfLength.keep K79q (own_nm ne_ob_a4)
      have F79_ob_valuesOfLength := F76_ob_valuesOfLength.keep K79q (own_nm ne_ob_a4)
      have F79_ob_kraft := F76_ob_kraft.keep K79q (own_nm ne_ob_a4)
      have F79_ob_size := F76_ob_size.keep K79q (own_nm ne_ob_a4)
      have F79_ob_changes := F76_ob_changes.keep K79q (own_nm ne_ob_a4)
      have P80 : Wy p.tables e below (s₁.setTop (entryFrame m #[(.ref ob), (.int vx), (.int lx)] 4)) (T79.setTop (mkF m 82 #[.val (.ref ob), .val (.int vx), .val (.int lx), .val (.int v8)] [])) := fun t k => P78 t (st79.trans k)
      have P81 : Wy p.tables e below (s₁.setTop (entryFrame m #[(.ref ob), (.int vx), (.int lx)] 4)) (T79.setTop (mkF m 84 #[.val (.ref ob), .val (.int vx), .val (.int lx), .val (.int v8)] [(.ref ob), (.ref ob)])) := fun t k => P80 t (by
        show Steps p.tables e below (T79.setTop (mkF m 82 #[.val (.ref ob), .val (.int vx), .val (.int lx), .val (.int v8)] [])) _
        refine XS.aloadN X79.here hx rfl (hb hby d5_82) rfl rfl  ?_
        show Steps p.tables e below (T79.setTop (mkF m 83 #[.val (.ref ob), .val (.int vx), .val (.int lx), .val (.int v8)] [(.ref ob)])) _
        refine XS.dup X79.here hx rfl (hb hby d5_83) rfl rfl ?_
        exact k)
      obtain ⟨T82, X82, e82, st82⟩ := getF X79 hx hZ hown (host := "") (Or.inl (hw _ (List.mem_of_getElem? (i := 45) rfl))) Via.refl rfl F79_ob_size (g := (mkF m 84 #[.val (.ref ob), .val (.int vx), .val (.int lx), .val (.int v8)] [(.ref ob), (.ref ob)])) rfl rfl (hb hby d5_84)
      have P83 : Wy p.tables e below (s₁.setTop (entryFrame m #[(.ref ob), (.int vx), (.int lx)] 4)) (T82.setTop (mkF m 87 #[.val (.ref ob), .val (.int vx), .val (.int lx), .val (.int v8)] [(.int sz), (.ref ob)])) := fun t k => P81 t (st82 _ k)
      have P84 : Wy p.tables e below (s₁.setTop (entryFrame m #[(.ref ob), (.int vx), (.int lx)] 4)) (T82.setTop (mkF m 89 #[.val (.ref ob), .val (.int vx), .val (.int lx), .val (.int v8)] [(.int (sz - (1 : Int32))), (.ref ob)])) := fun t k => P83 t (by
        show Steps p.tables e below (T82.setTop (mkF m 87 #[.val (.ref ob), .val (.int vx), .val (.int lx), .val (.int v8)] [(.int sz), (.ref ob)])) _
        refine XS.iconst X82.here hx rfl (hb hby d5_87) ?_
        show Steps p.tables e below (T82.setTop (mkF m 88 #[.val (.ref ob), .val (.int vx), .val (.int lx), .val (.int v8)] [(.int (1 : Int32)), (.int sz), (.ref ob)])) _
        refine XS.isub X82.here hx rfl (hb hby d5_88) rfl ?_
        exact k)
      obtain ⟨T85, h85, X85, e85, W85, st85⟩ := putF X82 hx hZ hown (host := "") (Or.inl (hw _ (List.mem_of_getElem? (i := 45) rfl))) Via.refl e82 F79_ob_size A79_ob (Or.inl (hw _ (List.mem_of_getElem? (i := 46) rfl))) (hw _ (List.mem_of_getElem? (i := 6) rfl)) (ty := .int) (by decide) rfl rfl (g := (mkF m 89 #[.val (.ref ob), .val (.int vx), .val (.int lx), .val (.int v8)] [(.int (sz - (1 : Int32))), (.ref ob)])) rfl rfl (hb hby d5_89)
      have Fw85 := F79_ob_size.same W85
      have N85 := Fr.snoc X85 N79 g_ob
      have z85 : n0 ≤ h85.size := Nat.le_trans z79k (Keep.of_wr W85).1
      have I85_a1 := I79_a1.other W85 (Ne.symm ne_ob_a1)
      have I85_a2 := I79_a2.other W85 (Ne.symm ne_ob_a2)
      have I85_a3 := I79_a3.other W85 (Ne.symm ne_ob_a3)
      have I85_a4 := I79q.other W85 (Ne.symm ne_ob_a4)
      have A85_ob := A79_ob.wr W85
      have F85_ob_lengths := F79_ob_lengths.other W85 (Or.inr (slot_ne (Or.inr (hw _ (List.mem_of_getElem? (i := 16) rfl))) (Or.inl (hw _ (List.mem_of_getElem? (i := 46) rfl))) (by decide) (t := (.array .int)) (t' := .int) (by decide) (by decide)))
      have F85_ob_countOfLength := F79_ob_countOfLength.other W85 (Or.inr (slot_ne (Or.inr (hw _ (List.mem_of_getElem? (i := 18) rfl))) (Or.inl (hw _ (List.mem_of_getElem? (i := 46) rfl))) (by decide) (t := (.array .int)) (t' := .int) (by decide) (by decide)))
      have F85_ob_valuesOfLength := F79_ob_valuesOfLength.other W85 (Or.inr (slot_ne (Or.inr (hw _ (List.mem_of_getElem? (i := 21) rfl))) (Or.inl (hw _ (List.mem_of_getElem? (i := 46) rfl))) (by decide) (t := (.array .long)) (t' := .int) (by decide) (by decide)))
      have F85_ob_kraft := F79_ob_kraft.other W85 (Or.inr (slot_ne (Or.inr (hw _ (List.mem_of_getElem? (i := 23) rfl))) (Or.inl (hw _ (List.mem_of_getElem? (i := 46) rfl))) (by decide) (t := (.array .long)) (t' := .int) (by decide) (by decide)))
      have F85_ob_changes := F79_ob_changes.other W85 (Or.inr (slot_ne (Or.inl (hw _ (List.mem_of_getElem? (i := 48) rfl))) (Or.inl (hw _ (List.mem_of_getElem? (i := 46) rfl))) (by decide) (t := .long) (t' := .int) (by decide) (by decide)))
      have K85 : Keep h0 h85 [ob, a1, a2, a3, a4] := K79.wr W85 (Or.inl (List.mem_of_getElem? (i := 0) rfl))
      have P86 : Wy p.tables e below (s₁.setTop (entryFrame m #[(.ref ob), (.int vx), (.int lx)] 4)) (T85.setTop (mkF m 92 #[.val (.ref ob), .val (.int vx), .val (.int lx), .val (.int v8)] [])) := fun t k => P84 t (st85 _ k)
      have P87 : Wy p.tables e below (s₁.setTop (entryFrame m #[(.ref ob), (.int vx), (.int lx)] 4)) (T85.setTop (mkF m 94 #[.val (.ref ob), .val (.int vx), .val (.int lx), .val (.int v8)] [(.int (-1 : Int32)), (.int lx)])) := fun t k => P86 t (by
        show Steps p.tables e below (T85.setTop (mkF m 92 #[.val (.ref ob), .val (.int vx), .val (.int lx), .val (.int v8)] [])) _
        refine XS.iloadN X85.here hx rfl (hb hby d5_92) rfl  ?_
        show Steps p.tables e below (T85.setTop (mkF m 93 #[.val (.ref ob), .val (.int vx), .val (.int lx), .val (.int v8)] [(.int lx)])) _
        refine XS.iconst X85.here hx rfl (hb hby d5_93) ?_
        exact k)
      by_cases hc94_88 : lx = (-1 : Int32)
      · have P89 : Wy p.tables e below (s₁.setTop (entryFrame m #[(.ref ob), (.int vx), (.int lx)] 4)) (T85.setTop (mkF m 141 #[.val (.ref ob), .val (.int vx), .val (.int lx), .val (.int v8)] [])) := fun t k => P87 t (by
          show Steps p.tables e below (T85.setTop (mkF m 94 #[.val (.ref ob), .val (.int vx), .val (.int lx), .val (.int v8)] [(.int (-1 : Int32)), (.int lx)])) _
          refine XS.icmpYes X85.here hx rfl (pc0 := 94) (pc' := 141) rfl (hb hby d5_94) rfl (teq hc94_88).1 (by decide) (by decide) ?_
          exact k)
        have P90 : Wy p.tables e below (s₁.setTop (entryFrame m #[(.ref ob), (.int vx), (.int lx)] 4)) (T85.setTop (mkF m 142 #[.val (.ref ob), .val (.int vx), .val (.int lx), .val (.int v8)] [(.ref ob)])) := fun t k => P89 t (by
          show Steps p.tables e below (T85.setTop (mkF m 141 #[.val (.ref ob), .val (.int vx), .val (.int lx), .val (.int v8)] [])) _
          refine XS.aloadN X85.here hx rfl (hb hby d5_141) rfl rfl  ?_
          exact k)
        obtain ⟨T91, X91, e91, st91⟩ := getF X85 hx hZ hown (host := "") (Or.inl (hw _ (List.mem_of_getElem? (i := 15) rfl))) Via.refl e85 F85_ob_lengths (g := (mkF m 142 #[.val (.ref ob), .val (.int vx), .val (.int lx), .val (.int v8)] [(.ref ob)])) rfl rfl (hb hby d5_142)
        have P92 : Wy p.tables e below (s₁.setTop (entryFrame m #[(.ref ob), (.int vx), (.int lx)] 4)) (T91.setTop (mkF m 145 #[.val (.ref ob), .val (.int vx), .val (.int lx), .val (.int v8)] [(.ref a1)])) := fun t k => P90 t (st91 _ k)
        have P93 : Wy p.tables e below (s₁.setTop (entryFrame m #[(.ref ob), (.int vx), (.int lx)] 4)) (T91.setTop (mkF m 147 #[.val (.ref ob), .val (.int vx), .val (.int lx), .val (.int v8)] [(.int lx), (.int vx), (.ref a1)])) := fun t k => P92 t (by
          show Steps p.tables e below (T91.setTop (mkF m 145 #[.val (.ref ob), .val (.int vx), .val (.int lx), .val (.int v8)] [(.ref a1)])) _
          refine XS.iloadN X91.here hx rfl (hb hby d5_145) rfl  ?_
          show Steps p.tables e below (T91.setTop (mkF m 146 #[.val (.ref ob), .val (.int vx), .val (.int lx), .val (.int v8)] [(.int vx), (.ref a1)])) _
          refine XS.iloadN X91.here hx rfl (hb hby d5_146) rfl  ?_
          exact k)
        obtain ⟨cl94, Ar94, hi94, -, up94⟩ := I85_a1.at (j := vx) (k := vn) hvx hvn (by decide)
        obtain ⟨T94, h94, X94, e94, W94, st94⟩ := stI X91 hx hZ e91 Ar94 (j := vx) hi94 (g := (mkF m 147 #[.val (.ref ob), .val (.int vx), .val (.int lx), .val (.int v8)] [(.int lx), (.int vx), (.ref a1)])) rfl rfl (hb hby d5_147)
        have I94 := up94 _ _ W94
        have N94 := Fr.snoc X94 N85 g_a1
        have z94 : n0 ≤ h94.size := Nat.le_trans z85 (Keep.of_wr W94).1
        have K94 : Keep h0 h94 [ob, a1, a2, a3, a4] := K85.wr W94 (Or.inl (List.mem_of_getElem? (i := 1) rfl))
        have I94_a2 := I85_a2.other W94 (Ne.symm ne_a1_a2)
        have I94_a3 := I85_a3.other W94 (Ne.symm ne_a1_a3)
        have I94_a4 := I85_a4.other W94 (Ne.symm ne_a1_a4)
        have A94_ob := A85_ob.wr W94
        have F94_ob_lengths := F85_ob_lengths.other W94 (Or.inl ne_ob_a1)
        have F94_ob_countOfLength := F85_ob_countOfLength.other W94 (Or.inl ne_ob_a1)
        have F94_ob_valuesOfLength := F85_ob_valuesOfLength.other W94 (Or.inl ne_ob_a1)
        have F94_ob_kraft := F85_ob_kraft.other W94 (Or.inl ne_ob_a1)
        have F94_ob_size := Fw85.other W94 (Or.inl ne_ob_a1)
        have F94_ob_changes := F85_ob_changes.other W94 (Or.inl ne_ob_a1)
        have P95 : Wy p.tables e below (s₁.setTop (entryFrame m #[(.ref ob), (.int vx), (.int lx)] 4)) (T94.setTop (mkF m 148 #[.val (.ref ob), .val (.int vx), .val (.int lx), .val (.int v8)] [])) := fun t k => P93 t (st94 _ k)
        have P96 : Wy p.tables e below (s₁.setTop (entryFrame m #[(.ref ob), (.int vx), (.int lx)] 4)) (T94.setTop (mkF m 150 #[.val (.ref ob), .val (.int vx), .val (.int lx), .val (.int v8)] [(.ref ob), (.ref ob)])) := fun t k => P95 t (by
          show Steps p.tables e below (T94.setTop (mkF m 148 #[.val (.ref ob), .val (.int vx), .val (.int lx), .val (.int v8)] [])) _
          refine XS.aloadN X94.here hx rfl (hb hby d5_148) rfl rfl  ?_
          show Steps p.tables e below (T94.setTop (mkF m 149 #[.val (.ref ob), .val (.int vx), .val (.int lx), .val (.int v8)] [(.ref ob)])) _
          refine XS.dup X94.here hx rfl (hb hby d5_149) rfl rfl ?_
          exact k)
        obtain ⟨T97, X97, e97, st97⟩ := getF X94 hx hZ hown (host := "") (Or.inl (hw _ (List.mem_of_getElem? (i := 47) rfl))) Via.refl e94 F94_ob_changes (g := (mkF m 150 #[.val (.ref ob), .val (.int vx), .val (.int lx), .val (.int v8)] [(.ref ob), (.ref ob)])) rfl rfl (hb hby d5_150)
        have P98 : Wy p.tables e below (s₁.setTop (entryFrame m #[(.ref ob), (.int vx), (.int lx)] 4)) (T97.setTop (mkF m 153 #[.val (.ref ob), .val (.int vx), .val (.int lx), .val (.int v8)] [(.long ch), (.ref ob)])) := fun t k => P96 t (st97 _ k)
        have P99 : Wy p.tables e below (s₁.setTop (entryFrame m #[(.ref ob), (.int vx), (.int lx)] 4)) (T97.setTop (mkF m 155 #[.val (.ref ob), .val (.int vx), .val (.int lx), .val (.int v8)] [(.long (ch + (1 : Int64))), (.ref ob)])) := fun t k => P98 t (by
          show Steps p.tables e below (T97.setTop (mkF m 153 #[.val (.ref ob), .val (.int vx), .val (.int lx), .val (.int v8)] [(.long ch), (.ref ob)])) _
          refine XS.lconst X97.here hx rfl (hb hby d5_153) ?_
          show Steps p.tables e below (T97.setTop (mkF m 154 #[.val (.ref ob), .val (.int vx), .val (.int lx), .val (.int v8)] [(.long (1 : Int64)), (.long ch), (.ref ob)])) _
          refine XS.ladd X97.here hx rfl (hb hby d5_154) rfl ?_
          exact k)
        obtain ⟨T100, h100, X100, e100, W100, st100⟩ := putF X97 hx hZ hown (host := "") (Or.inl (hw _ (List.mem_of_getElem? (i := 47) rfl))) Via.refl e97 F94_ob_changes A94_ob (Or.inl (hw _ (List.mem_of_getElem? (i := 48) rfl))) (hw _ (List.mem_of_getElem? (i := 6) rfl)) (ty := .long) (by decide) rfl rfl (g := (mkF m 155 #[.val (.ref ob), .val (.int vx), .val (.int lx), .val (.int v8)] [(.long (ch + (1 : Int64))), (.ref ob)])) rfl rfl (hb hby d5_155)
        have Fw100 := F94_ob_changes.same W100
        have N100 := Fr.snoc X100 N94 g_ob
        have z100 : n0 ≤ h100.size := Nat.le_trans z94 (Keep.of_wr W100).1
        have I100_a1 := I94.other W100 (Ne.symm ne_ob_a1)
        have I100_a2 := I94_a2.other W100 (Ne.symm ne_ob_a2)
        have I100_a3 := I94_a3.other W100 (Ne.symm ne_ob_a3)
        have I100_a4 := I94_a4.other W100 (Ne.symm ne_ob_a4)
        have A100_ob := A94_ob.wr W100
        have F100_ob_lengths := F94_ob_lengths.other W100 (Or.inr (slot_ne (Or.inr (hw _ (List.mem_of_getElem? (i := 16) rfl))) (Or.inl (hw _ (List.mem_of_getElem? (i := 48) rfl))) (by decide) (t := (.array .int)) (t' := .long) (by decide) (by decide)))
        have F100_ob_countOfLength := F94_ob_countOfLength.other W100 (Or.inr (slot_ne (Or.inr (hw _ (List.mem_of_getElem? (i := 18) rfl))) (Or.inl (hw _ (List.mem_of_getElem? (i := 48) rfl))) (by decide) (t := (.array .int)) (t' := .long) (by decide) (by decide)))
        have F100_ob_valuesOfLength := F94_ob_valuesOfLength.other W100 (Or.inr (slot_ne (Or.inr (hw _ (List.mem_of_getElem? (i := 21) rfl))) (Or.inl (hw _ (List.mem_of_getElem? (i := 48) rfl))) (by decide) (t := (.array .long)) (t' := .long) (by decide) (by decide)))
        have F100_ob_kraft := F94_ob_kraft.other W100 (Or.inr (slot_ne (Or.inr (hw _ (List.mem_of_getElem? (i := 23) rfl))) (Or.inl (hw _ (List.mem_of_getElem? (i := 48) rfl))) (by decide) (t := (.array .long)) (t' := .long) (by decide) (by decide)))
        have F100_ob_size := F94_ob_size.other W100 (Or.inr (slot_ne (Or.inl (hw _ (List.mem_of_getElem? (i := 46) rfl))) (Or.inl (hw _ (List.mem_of_getElem? (i := 48) rfl))) (by decide) (t := .int) (t' := .long) (by decide) (by decide)))
        have K100 : Keep h0 h100 [ob, a1, a2, a3, a4] := K94.wr W100 (Or.inl (List.mem_of_getElem? (i := 0) rfl))
        have P101 : Wy p.tables e below (s₁.setTop (entryFrame m #[(.ref ob), (.int vx), (.int lx)] 4)) (T100.setTop (mkF m 158 #[.val (.ref ob), .val (.int vx), .val (.int lx), .val (.int v8)] [])) := fun t k => P99 t (st100 _ k)
        obtain ⟨fs, hr, hrun, hended, hW, hsame⟩ := X100.leave (v := none) (fun _ => rfl)
        refine ⟨_, _, P101 _ ?_, hrun, hended, _, _, rfl, ?_, ⟨_, rfl⟩, hW, hsame.mono (by decide) (by decide)⟩
        · show Steps p.tables e below (T100.setTop (mkF m 158 #[.val (.ref ob), .val (.int vx), .val (.int lx), .val (.int v8)] [])) _
          exact X100.returnOut hx Bd.returns (hb hby d5_158) hr
        · show Q5 Z ob vx lx a1 a2 a3 a4 lf cf vf kr sz ch vn h0 n0 _ T100.heap _
          rw [e100]
          exact ⟨rfl, N100, K100, _, _, _, _, _, (own_kpC (own_wtN (x := lf vn) (by rw [← hv8]; exact hbx) hbn) (own_wt0 hc94_88) hK79 hle), A100_ob, F100_ob_lengths, F100_ob_countOfLength, F100_ob_valuesOfLength, F100_ob_kraft, F100_ob_size, Fw100, I100_a1, I100_a2, I100_a3, I100_a4⟩
      · have P102 : Wy p.tables e below (s₁.setTop (entryFrame m #[(.ref ob), (.int vx), (.int lx)] 4)) (T85.setTop (mkF m 97 #[.val (.ref ob), .val (.int vx), .val (.int lx), .val (.int v8)] [])) := fun t k => P87 t (by
          show Steps p.tables e below (T85.setTop (mkF m 94 #[.val (.ref ob), .val (.int vx), .val (.int lx), .val (.int v8)] [(.int (-1 : Int32)), (.int lx)])) _
          refine XS.icmpNo X85.here hx rfl (hb hby d5_94) rfl (feq hc94_88).1 ?_
          exact k)
        obtain ⟨ln, hln, hlx⟩ := own_okn hok hc94_88
        have P103 : Wy p.tables e below (s₁.setTop (entryFrame m #[(.ref ob), (.int vx), (.int lx)] 4)) (T85.setTop (mkF m 98 #[.val (.ref ob), .val (.int vx), .val (.int lx), .val (.int v8)] [(.ref ob)])) := fun t k => P102 t (by
          show Steps p.tables e below (T85.setTop (mkF m 97 #[.val (.ref ob), .val (.int vx), .val (.int lx), .val (.int v8)] [])) _
          refine XS.aloadN X85.here hx rfl (hb hby d5_97) rfl rfl  ?_
          exact k)
        obtain ⟨T104, X104, e104, st104⟩ := getF X85 hx hZ hown (host := "") (Or.inl (hw _ (List.mem_of_getElem? (i := 17) rfl))) Via.refl e85 F85_ob_countOfLength (g := (mkF m 98 #[.val (.ref ob), .val (.int vx), .val (.int lx), .val (.int v8)] [(.ref ob)])) rfl rfl (hb hby d5_98)
        have P105 : Wy p.tables e below (s₁.setTop (entryFrame m #[(.ref ob), (.int vx), (.int lx)] 4)) (T104.setTop (mkF m 101 #[.val (.ref ob), .val (.int vx), .val (.int lx), .val (.int v8)] [(.ref a2)])) := fun t k => P103 t (st104 _ k)
        have P106 : Wy p.tables e below (s₁.setTop (entryFrame m #[(.ref ob), (.int vx), (.int lx)] 4)) (T104.setTop (mkF m 103 #[.val (.ref ob), .val (.int vx), .val (.int lx), .val (.int v8)] [(.int lx), (.ref a2), (.int lx), (.ref a2)])) := fun t k => P105 t (by
          show Steps p.tables e below (T104.setTop (mkF m 101 #[.val (.ref ob), .val (.int vx), .val (.int lx), .val (.int v8)] [(.ref a2)])) _
          refine XS.iloadN X104.here hx rfl (hb hby d5_101) rfl  ?_
          show Steps p.tables e below (T104.setTop (mkF m 102 #[.val (.ref ob), .val (.int vx), .val (.int lx), .val (.int v8)] [(.int lx), (.ref a2)])) _
          refine XT.dup2 X104.here hx rfl (hb hby d5_102) rfl rfl rfl ?_
          exact k)
        obtain ⟨cl107, Ar107, hi107, ha107, -⟩ := I85_a2.at (j := lx) (k := ln) hlx (Nat.lt_succ_of_le hln) (by decide)
        have P108 : Wy p.tables e below (s₁.setTop (entryFrame m #[(.ref ob), (.int vx), (.int lx)] 4)) (T104.setTop (mkF m 104 #[.val (.ref ob), .val (.int vx), .val (.int lx), .val (.int v8)] [(.int ((own_upd cf bn ((cf bn) - (1 : Int32))) ln)), (.int lx), (.ref a2)])) := fun t k => P106 t (X104.iaload hx (j := lx) (v := (.int ((own_upd cf bn ((cf bn) - (1 : Int32))) ln))) (by rw [e104]; exact Ar107.1) (State.isArrayOf_alike hZ.alike Ar107.2.1) Ar107.2.2 hi107 ha107 (g := (mkF m 103 #[.val (.ref ob), .val (.int vx), .val (.int lx), .val (.int v8)] [(.int lx), (.ref a2), (.int lx), (.ref a2)])) rfl rfl (hb hby d5_103) _ k)
        have P109 : Wy p.tables e below (s₁.setTop (entryFrame m #[(.ref ob), (.int vx), (.int lx)] 4)) (T104.setTop (mkF m 106 #[.val (.ref ob), .val (.int vx), .val (.int lx), .val (.int v8)] [(.int (((own_upd cf bn ((cf bn) - (1 : Int32))) ln) + (1 : Int32))), (.int lx), (.ref a2)])) := fun t k => P108 t (by
          show Steps p.tables e below (T104.setTop (mkF m 104 #[.val (.ref ob), .val (.int vx), .val (.int lx), .val (.int v8)] [(.int ((own_upd cf bn ((cf bn) - (1 : Int32))) ln)), (.int lx), (.ref a2)])) _
          refine XS.iconst X104.here hx rfl (hb hby d5_104) ?_
          show Steps p.tables e below (T104.setTop (mkF m 105 #[.val (.ref ob), .val (.int vx), .val (.int lx), .val (.int v8)] [(.int (1 : Int32)), (.int ((own_upd cf bn ((cf bn) - (1 : Int32))) ln)), (.int lx), (.ref a2)])) _
          refine XS.iadd X104.here hx rfl (hb hby d5_105) rfl ?_
          exact k)
        obtain ⟨cl110, Ar110, hi110, -, up110⟩ := I85_a2.at (j := lx) (k := ln) hlx (Nat.lt_succ_of_le hln) (by decide)
        obtain ⟨T110, h110, X110, e110, W110, st110⟩ := stI X104 hx hZ e104 Ar110 (j := lx) hi110 (g := (mkF m 106 #[.val (.ref ob), .val (.int vx), .val (.int lx), .val (.int v8)] [(.int (((own_upd cf bn ((cf bn) - (1 : Int32))) ln) + (1 : Int32))), (.int lx), (.ref a2)])) rfl rfl (hb hby d5_106)
        have I110 := up110 _ _ W110
        have N110 := Fr.snoc X110 N85 g_a2
        have z110 : n0 ≤ h110.size := Nat.le_trans z85 (Keep.of_wr W110).1
        have K110 : Keep h0 h110 [ob, a1, a2, a3, a4] := K85.wr W110 (Or.inl (List.mem_of_getElem? (i := 2) rfl))
        have I110_a1 := I85_a1.other W110 ne_a1_a2
        have I110_a3 := I85_a3.other W110 (Ne.symm ne_a2_a3)
        have I110_a4 := I85_a4.other W110 (Ne.symm ne_a2_a4)
        have A110_ob := A85_ob.wr W110
        have F110_ob_lengths := F85_ob_lengths.other W110 (Or.inl ne_ob_a2)
        have F110_ob_countOfLength := F85_ob_countOfLength.other W110 (Or.inl ne_ob_a2)
        have F110_ob_valuesOfLength := F85_ob_valuesOfLength.other W110 (Or.inl ne_ob_a2)
        have F110_ob_kraft := F85_ob_kraft.other W110 (Or.inl ne_ob_a2)
        have F110_ob_size := Fw85.other W110 (Or.inl ne_ob_a2)
        have F110_ob_changes := F85_ob_changes.other W110 (Or.inl ne_ob_a2)
        have P111 : Wy p.tables e below (s₁.setTop (entryFrame m #[(.ref ob), (.int vx), (.int lx)] 4)) (T110.setTop (mkF m 107 #[.val (.ref ob), .val (.int vx), .val (.int lx), .val (.int v8)] [])) := fun t k => P109 t (st110 _ k)
        have P112 : Wy p.tables e below (s₁.setTop (entryFrame m #[(.ref ob), (.int vx), (.int lx)] 4)) (T110.setTop (mkF m 108 #[.val (.ref ob), .val (.int vx), .val (.int lx), .val (.int v8)] [(.ref ob)])) := fun t k => P111 t (by
          show Steps p.tables e below (T110.setTop (mkF m 107 #[.val (.ref ob), .val (.int vx), .val (.int lx), .val (.int v8)] [])) _
          refine XS.aloadN X110.here hx rfl (hb hby d5_107) rfl rfl  ?_
          exact k)
        obtain ⟨T113, X113, e113, st113⟩ := getF X110 hx hZ hown (host := "") (Or.inl (hw _ (List.mem_of_getElem? (i := 20) rfl))) Via.refl e110 F110_ob_valuesOfLength (g := (mkF m 108 #[.val (.ref ob), .val (.int vx), .val (.int lx), .val (.int v8)] [(.ref ob)])) rfl rfl (hb hby d5_108)
        have P114 : Wy p.tables e below (s₁.setTop (entryFrame m #[(.ref ob), (.int vx), (.int lx)] 4)) (T113.setTop (mkF m 111 #[.val (.ref ob), .val (.int vx), .val (.int lx), .val (.int v8)] [(.ref a3)])) := fun t k => P112 t (st113 _ k)
        have P115 : Wy p.tables e below (s₁.setTop (entryFrame m #[(.ref ob), (.int vx), (.int lx)] 4)) (T113.setTop (mkF m 120 #[.val (.ref ob), .val (.int vx), .val (.int lx), .val (.int v8)] [(.int ((lx * (4 : Int32)) + (vx / (64 : Int32)))), (.ref a3), (.int ((lx * (4 : Int32)) + (vx / (64 : Int32)))), (.ref a3)])) := fun t k => P114 t (by
          show Steps p.tables e below (T113.setTop (mkF m 111 #[.val (.ref ob), .val (.int vx), .val (.int lx), .val (.int v8)] [(.ref a3)])) _
          refine XS.iloadN X113.here hx rfl (hb hby d5_111) rfl  ?_
          show Steps p.tables e below (T113.setTop (mkF m 112 #[.val (.ref ob), .val (.int vx), .val (.int lx), .val (.int v8)] [(.int lx), (.ref a3)])) _
          refine XS.iconst X113.here hx rfl (hb hby d5_112) ?_
          show Steps p.tables e below (T113.setTop (mkF m 113 #[.val (.ref ob), .val (.int vx), .val (.int lx), .val (.int v8)] [(.int (4 : Int32)), (.int lx), (.ref a3)])) _
          refine XS.imul X113.here hx rfl (hb hby d5_113) rfl ?_
          show Steps p.tables e below (T113.setTop (mkF m 114 #[.val (.ref ob), .val (.int vx), .val (.int lx), .val (.int v8)] [(.int (lx * (4 : Int32))), (.ref a3)])) _
          refine XS.iloadN X113.here hx rfl (hb hby d5_114) rfl  ?_
          show Steps p.tables e below (T113.setTop (mkF m 115 #[.val (.ref ob), .val (.int vx), .val (.int lx), .val (.int v8)] [(.int vx), (.int (lx * (4 : Int32))), (.ref a3)])) _
          refine XS.bipush X113.here hx rfl (hb hby d5_115) ?_
          show Steps p.tables e below (T113.setTop (mkF m 117 #[.val (.ref ob), .val (.int vx), .val (.int lx), .val (.int v8)] [(.int (64 : Int32)), (.int vx), (.int (lx * (4 : Int32))), (.ref a3)])) _
          refine XS.idiv X113.here hx rfl (hb hby d5_117) rfl (by decide) ?_
          show Steps p.tables e below (T113.setTop (mkF m 118 #[.val (.ref ob), .val (.int vx), .val (.int lx), .val (.int v8)] [(.int (vx / (64 : Int32))), (.int (lx * (4 : Int32))), (.ref a3)])) _
          refine XS.iadd X113.here hx rfl (hb hby d5_118) rfl ?_
          show Steps p.tables e below (T113.setTop (mkF m 119 #[.val (.ref ob), .val (.int vx), .val (.int lx), .val (.int v8)] [(.int ((lx * (4 : Int32)) + (vx / (64 : Int32)))), (.ref a3)])) _
          refine XT.dup2 X113.here hx rfl (hb hby d5_119) rfl rfl rfl ?_
          exact k)
        obtain ⟨cl116, Ar116, hi116, ha116, -⟩ := I110_a3.at (j := ((lx * (4 : Int32)) + (vx / (64 : Int32)))) (k := (ln * 4 + vn / 64)) (own_ix hlx hln hvx hvn) (own_ixl hln hvn) (by decide)
        have P117 : Wy p.tables e below (s₁.setTop (entryFrame m #[(.ref ob), (.int vx), (.int lx)] 4)) (T113.setTop (mkF m 121 #[.val (.ref ob), .val (.int vx), .val (.int lx), .val (.int v8)] [(.long ((own_upd vf (bn * 4 + vn / 64) ((vf (bn * 4 + vn / 64)) &&& (((1 : Int64) <<< (vx &&& 0x3f).toInt64) ^^^ (-1 : Int64)))) (ln * 4 + vn / 64))), (.int ((lx * (4 : Int32)) + (vx / (64 : Int32)))), (.ref a3)])) := fun t k => P115 t (X113.laload hx (j := ((lx * (4 : Int32)) + (vx / (64 : Int32)))) (v := (.long ((own_upd vf (bn * 4 + vn / 64) ((vf (bn * 4 + vn / 64)) &&& (((1 : Int64) <<< (vx &&& 0x3f).toInt64) ^^^ (-1 : Int64)))) (ln * 4 + vn / 64)))) (by rw [e113]; exact Ar116.1) (State.isArrayOf_alike hZ.alike Ar116.2.1) Ar116.2.2 hi116 ha116 (g := (mkF m 120 #[.val (.ref ob), .val (.int vx), .val (.int lx), .val (.int v8)] [(.int ((lx * (4 : Int32)) + (vx / (64 : Int32)))), (.ref a3), (.int ((lx * (4 : Int32)) + (vx / (64 : Int32)))), (.ref a3)])) rfl rfl (hb hby d5_120) _ k)
        have P118 : Wy p.tables e below (s₁.setTop (entryFrame m #[(.ref ob), (.int vx), (.int lx)] 4)) (T113.setTop (mkF m 125 #[.val (.ref ob), .val (.int vx), .val (.int lx), .val (.int v8)] [(.long (((own_upd vf (bn * 4 + vn / 64) ((vf (bn * 4 + vn / 64)) &&& (((1 : Int64) <<< (vx &&& 0x3f).toInt64) ^^^ (-1 : Int64)))) (ln * 4 + vn / 64)) ||| ((1 : Int64) <<< (vx &&& 0x3f).toInt64))), (.int ((lx * (4 : Int32)) + (vx / (64 : Int32)))), (.ref a3)])) := fun t k => P117 t (by
          show Steps p.tables e below (T113.setTop (mkF m 121 #[.val (.ref ob), .val (.int vx), .val (.int lx), .val (.int v8)] [(.long ((own_upd vf (bn * 4 + vn / 64) ((vf (bn * 4 + vn / 64)) &&& (((1 : Int64) <<< (vx &&& 0x3f).toInt64) ^^^ (-1 : Int64)))) (ln * 4 + vn / 64))), (.int ((lx * (4 : Int32)) + (vx / (64 : Int32)))), (.ref a3)])) _
          refine XS.lconst X113.here hx rfl (hb hby d5_121) ?_
          show Steps p.tables e below (T113.setTop (mkF m 122 #[.val (.ref ob), .val (.int vx), .val (.int lx), .val (.int v8)] [(.long (1 : Int64)), (.long ((own_upd vf (bn * 4 + vn / 64) ((vf (bn * 4 + vn / 64)) &&& (((1 : Int64) <<< (vx &&& 0x3f).toInt64) ^^^ (-1 : Int64)))) (ln * 4 + vn / 64))), (.int ((lx * (4 : Int32)) + (vx / (64 : Int32)))), (.ref a3)])) _
          refine XS.iloadN X113.here hx rfl (hb hby d5_122) rfl  ?_
          show Steps p.tables e below (T113.setTop (mkF m 123 #[.val (.ref ob), .val (.int vx), .val (.int lx), .val (.int v8)] [(.int vx), (.long (1 : Int64)), (.long ((own_upd vf (bn * 4 + vn / 64) ((vf (bn * 4 + vn / 64)) &&& (((1 : Int64) <<< (vx &&& 0x3f).toInt64) ^^^ (-1 : Int64)))) (ln * 4 + vn / 64))), (.int ((lx * (4 : Int32)) + (vx / (64 : Int32)))), (.ref a3)])) _
          refine XS.lshl X113.here hx rfl (hb hby d5_123) rfl ?_
          show Steps p.tables e below (T113.setTop (mkF m 124 #[.val (.ref ob), .val (.int vx), .val (.int lx), .val (.int v8)] [(.long ((1 : Int64) <<< (vx &&& 0x3f).toInt64)), (.long ((own_upd vf (bn * 4 + vn / 64) ((vf (bn * 4 + vn / 64)) &&& (((1 : Int64) <<< (vx &&& 0x3f).toInt64) ^^^ (-1 : Int64)))) (ln * 4 + vn / 64))), (.int ((lx * (4 : Int32)) + (vx / (64 : Int32)))), (.ref a3)])) _
          refine XS.lor X113.here hx rfl (hb hby d5_124) rfl ?_
          exact k)
        obtain ⟨cl119, Ar119, hi119, -, up119⟩ := I110_a3.at (j := ((lx * (4 : Int32)) + (vx / (64 : Int32)))) (k := (ln * 4 + vn / 64)) (own_ix hlx hln hvx hvn) (own_ixl hln hvn) (by decide)
        obtain ⟨T119, h119, X119, e119, W119, st119⟩ := stJ X113 hx hZ e113 Ar119 (j := ((lx * (4 : Int32)) + (vx / (64 : Int32)))) hi119 (g := (mkF m 125 #[.val (.ref ob), .val (.int vx), .val (.int lx), .val (.int v8)] [(.long (((own_upd vf (bn * 4 + vn / 64) ((vf (bn * 4 + vn / 64)) &&& (((1 : Int64) <<< (vx &&& 0x3f).toInt64) ^^^ (-1 : Int64)))) (ln * 4 + vn / 64)) ||| ((1 : Int64) <<< (vx &&& 0x3f).toInt64))), (.int ((lx * (4 : Int32)) + (vx / (64 : Int32)))), (.ref a3)])) rfl rfl (hb hby d5_125)
        have I119 := up119 _ _ W119
        have N119 := Fr.snoc X119 N110 g_a3
        have z119 : n0 ≤ h119.size := Nat.le_trans z110 (Keep.of_wr W119).1
        have K119 : Keep h0 h119 [ob, a1, a2, a3, a4] := K110.wr W119 (Or.inl (List.mem_of_getElem? (i := 3) rfl))
        have I119_a1 := I110_a1.other W119 ne_a1_a3
        have I119_a2 := I110.other W119 ne_a2_a3
        have I119_a4 := I110_a4.other W119 (Ne.symm ne_a3_a4)
        have A119_ob := A110_ob.wr W119
        have F119_ob_lengths := F110_ob_lengths.other W119 (Or.inl ne_ob_a3)
        have F119_ob_countOfLength := F110_ob_countOfLength.other W119 (Or.inl ne_ob_a3)
        have F119_ob_valuesOfLength := F110_ob_valuesOfLength.other W119 (Or.inl ne_ob_a3)
        have F119_ob_kraft := F110_ob_kraft.other W119 (Or.inl ne_ob_a3)
        have F119_ob_size := F110_ob_size.other W119 (Or.inl ne_ob_a3)
        have F119_ob_changes := F110_ob_changes.other W119 (Or.inl ne_ob_a3)
        have P120 : Wy p.tables e below (s₁.setTop (entryFrame m #[(.ref ob), (.int vx), (.int lx)] 4)) (T119.setTop (mkF m 126 #[.val (.ref ob), .val (.int vx), .val (.int lx), .val (.int v8)] [])) := fun t k => P118 t (st119 _ k)
        have P121 : Wy p.tables e below (s₁.setTop (entryFrame m #[(.ref ob), (.int vx), (.int lx)] 4)) (T119.setTop (mkF m 128 #[.val (.ref ob), .val (.int vx), .val (.int lx), .val (.int v8)] [(.int lx), (.ref ob)])) := fun t k => P120 t (by
          show Steps p.tables e below (T119.setTop (mkF m 126 #[.val (.ref ob), .val (.int vx), .val (.int lx), .val (.int v8)] [])) _
          refine XS.aloadN X119.here hx rfl (hb hby d5_126) rfl rfl  ?_
          show Steps p.tables e below (T119.setTop (mkF m 127 #[.val (.ref ob), .val (.int vx), .val (.int lx), .val (.int v8)] [(.ref ob)])) _
          refine XS.iloadN X119.here hx rfl (hb hby d5_127) rfl  ?_
          exact k)
        obtain ⟨cq122, q122, q122'⟩ := A119_ob.cell
        obtain ⟨_, _, ⟨T122, L122, k122, n122⟩, -, X122, ⟨Lc122, hQ122, l122, y122, z122⟩, st122⟩ := X119.privateBack hx (y := (⟨"com/example/leafpack/leafpack/CodeTable", "addKraft", "(I)V"⟩ : MethodName)) hown (mvT hZ (hw _ (List.mem_of_getElem? (i := 33) rfl))) (mvT hZ (hw _ (List.mem_of_getElem? (i := 34) rfl))) hs_addKraft (Cond.privateMethod_at (mvP hZ (hw _ (List.mem_of_getElem? (i := 35) rfl)) (args := #[]))) (mvT hZ (hw _ (List.mem_of_getElem? (i := 36) rfl))) (by decide) (backOf (W := 0) (rm6 l Z a0 hw [] ob lx a4 kr79 ln (own_K kr - 2 ^ (255 - bn) + 2 ^ (255 - ln)) h119 n0 z119 F119_ob_kraft I119_a4 g_a4 ne_ob_a4 hlx hln (own_add2 hKb) (by rw [hK79])) hZ (hw _ (List.mem_of_getElem? (i := 36) rfl)) (hw _ (List.mem_of_getElem? (i := 7) rfl)) (by decide) (by decide)) (g := (mkF m 128 #[.val (.ref ob), .val (.int vx), .val (.int lx), .val (.int v8)] [(.int lx), (.ref ob)])) rfl (by rw [hml]; rfl) (Steps.refl _) (a := ob) (by rw [e119]; exact q122) q122' (argsL := [(.int lx)]) (rest := []) (lenOf pd_lIrV rfl) rfl (by show 2 * 0 + _ ≤ _; exact Nat.le_of_eq rfl) (hb hby d5_128) (fun _ _ => ⟨rfl, e119, (by decide : 0 + 0 ≤ _), (by decide : 0 + 0 ≤ _)⟩)
        dsimp only [Pt.U, Pt.locs, Pt.cells, Pt.slots] at X122 l122 y122 z122 st122 hQ122
        subst l122 y122 z122
        obtain ⟨rfl, N122q, K122q, kr122, I122q, hK122⟩ := hQ122
        have N122 := Fr.app N119 N122q
        have K122 : Keep h0 T122.heap [ob, a1, a2, a3, a4] := K119.trans K122q (fun y hy => by cases List.mem_singleton.mp hy; exact Or.inl (List.mem_of_getElem? (i := 4) rfl))
        have z122k : n0 ≤ T122.heap.size := Nat.le_trans z119 K122q.1
        have I122_a1 := I119_a1.keep K122q (own_nm ne_a1_a4)
        have I122_a2 := I119_a2.keep K122q (own_nm ne_a2_a4)
        have I122_a3 := I119.keep K122q (own_nm ne_a3_a4)
        have A122_ob := A119_ob.keep K122q
        have F122_ob_lengths := F119_ob_lengths.keep K122q (own_nm ne_ob_a4)
        have F122_ob_countOfLength := F119_ob_countOfLength.keep K122q (own_nm ne_ob_a4)
        have F122_ob_valuesOfLength := F119_ob_valuesOfLength.keep K122q (own_nm ne_ob_a4)
        have F122_ob_kraft := F119_ob_kraft.keep K122q (own_nm ne_ob_a4)
        have F122_ob_size := F119_ob_size.keep K122q (own_nm ne_ob_a4)
        have F122_ob_changes := F119_ob_changes.keep K122q (own_nm ne_ob_a4)
        have P123 : Wy p.tables e below (s₁.setTop (entryFrame m #[(.ref ob), (.int vx), (.int lx)] 4)) (T122.setTop (mkF m 131 #[.val (.ref ob), .val (.int vx), .val (.int lx), .val (.int v8)] [])) := fun t k => P121 t (st122.trans k)
        have P124 : Wy p.tables e below (s₁.setTop (entryFrame m #[(.ref ob), (.int vx), (.int lx)] 4)) (T122.setTop (mkF m 133 #[.val (.ref ob), .val (.int vx), .val (.int lx), .val (.int v8)] [(.ref ob), (.ref ob)])) := fun t k => P123 t (by
          show Steps p.tables e below (T122.setTop (mkF m 131 #[.val (.ref ob), .val (.int vx), .val (.int lx), .val (.int v8)] [])) _
          refine XS.aloadN X122.here hx rfl (hb hby d5_131) rfl rfl  ?_
          show Steps p.tables e below (T122.setTop (mkF m 132 #[.val (.ref ob), .val (.int vx), .val (.int lx), .val (.int v8)] [(.ref ob)])) _
          refine XS.dup X122.here hx rfl (hb hby d5_132) rfl rfl ?_
          exact k)
        obtain ⟨T125, X125, e125, st125⟩ := getF X122 hx hZ hown (host := "") (Or.inl (hw _ (List.mem_of_getElem? (i := 45) rfl))) Via.refl rfl F122_ob_size (g := (mkF m 133 #[.val (.ref ob), .val (.int vx), .val (.int lx), .val (.int v8)] [(.ref ob), (.ref ob)])) rfl rfl (hb hby d5_133)
        have P126 : Wy p.tables e below (s₁.setTop (entryFrame m #[(.ref ob), (.int vx), (.int lx)] 4)) (T125.setTop (mkF m 136 #[.val (.ref ob), .val (.int vx), .val (.int lx), .val (.int v8)] [(.int (sz - (1 : Int32))), (.ref ob)])) := fun t k => P124 t (st125 _ k)
        have P127 : Wy p.tables e below (s₁.setTop (entryFrame m #[(.ref ob), (.int vx), (.int lx)] 4)) (T125.setTop (mkF m 138 #[.val (.ref ob), .val (.int vx), .val (.int lx), .val (.int v8)] [(.int ((sz - (1 : Int32)) + (1 : Int32))), (.ref ob)])) := fun t k => P126 t (by
          show Steps p.tables e below (T125.setTop (mkF m 136 #[.val (.ref ob), .val (.int vx), .val (.int lx), .val (.int v8)] [(.int (sz - (1 : Int32))), (.ref ob)])) _
          refine XS.iconst X125.here hx rfl (hb hby d5_136) ?_
          show Steps p.tables e below (T125.setTop (mkF m 137 #[.val (.ref ob), .val (.int vx), .val (.int lx), .val (.int v8)] [(.int (1 : Int32)), (.int (sz - (1 : Int32))), (.ref ob)])) _
          refine XS.iadd X125.here hx rfl (hb hby d5_137) rfl ?_
          exact k)
        obtain ⟨T128, h128, X128, e128, W128, st128⟩ := putF X125 hx hZ hown (host := "") (Or.inl (hw _ (List.mem_of_getElem? (i := 45) rfl))) Via.refl e125 F122_ob_size A122_ob (Or.inl (hw _ (List.mem_of_getElem? (i := 46) rfl))) (hw _ (List.mem_of_getElem? (i := 6) rfl)) (ty := .int) (by decide) rfl rfl (g := (mkF m 138 #[.val (.ref ob), .val (.int vx), .val (.int lx), .val (.int v8)] [(.int ((sz - (1 : Int32)) + (1 : Int32))), (.ref ob)])) rfl rfl (hb hby d5_138)
        have Fw128 := F122_ob_size.same W128
        have N128 := Fr.snoc X128 N122 g_ob
        have z128 : n0 ≤ h128.size := Nat.le_trans z122k (Keep.of_wr W128).1
        have I128_a1 := I122_a1.other W128 (Ne.symm ne_ob_a1)
        have I128_a2 := I122_a2.other W128 (Ne.symm ne_ob_a2)
        have I128_a3 := I122_a3.other W128 (Ne.symm ne_ob_a3)
        have I128_a4 := I122q.other W128 (Ne.symm ne_ob_a4)
        have A128_ob := A122_ob.wr W128
        have F128_ob_lengths := F122_ob_lengths.other W128 (Or.inr (slot_ne (Or.inr (hw _ (List.mem_of_getElem? (i := 16) rfl))) (Or.inl (hw _ (List.mem_of_getElem? (i := 46) rfl))) (by decide) (t := (.array .int)) (t' := .int) (by decide) (by decide)))
        have F128_ob_countOfLength := F122_ob_countOfLength.other W128 (Or.inr (slot_ne (Or.inr (hw _ (List.mem_of_getElem? (i := 18) rfl))) (Or.inl (hw _ (List.mem_of_getElem? (i := 46) rfl))) (by decide) (t := (.array .int)) (t' := .int) (by decide) (by decide)))
        have F128_ob_valuesOfLength := F122_ob_valuesOfLength.other W128 (Or.inr (slot_ne (Or.inr (hw _ (List.mem_of_getElem? (i := 21) rfl))) (Or.inl (hw _ (List.mem_of_getElem? (i := 46) rfl))) (by decide) (t := (.array .long)) (t' := .int) (by decide) (by decide)))
        have F128_ob_kraft := F122_ob_kraft.other W128 (Or.inr (slot_ne (Or.inr (hw _ (List.mem_of_getElem? (i := 23) rfl))) (Or.inl (hw _ (List.mem_of_getElem? (i := 46) rfl))) (by decide) (t := (.array .long)) (t' := .int) (by decide) (by decide)))
        have F128_ob_changes := F122_ob_changes.other W128 (Or.inr (slot_ne (Or.inl (hw _ (List.mem_of_getElem? (i := 48) rfl))) (Or.inl (hw _ (List.mem_of_getElem? (i := 46) rfl))) (by decide) (t := .long) (t' := .int) (by decide) (by decide)))
        have K128 : Keep h0 h128 [ob, a1, a2, a3, a4] := K122.wr W128 (Or.inl (List.mem_of_getElem? (i := 0) rfl))
        have P129 : Wy p.tables e below (s₁.setTop (entryFrame m #[(.ref ob), (.int vx), (.int lx)] 4)) (T128.setTop (mkF m 141 #[.val (.ref ob), .val (.int vx), .val (.int lx), .val (.int v8)] [])) := fun t k => P127 t (st128 _ k)
        have P130 : Wy p.tables e below (s₁.setTop (entryFrame m #[(.ref ob), (.int vx), (.int lx)] 4)) (T128.setTop (mkF m 142 #[.val (.ref ob), .val (.int vx), .val (.int lx), .val (.int v8)] [(.ref ob)])) := fun t k => P129 t (by
          show Steps p.tables e below (T128.setTop (mkF m 141 #[.val (.ref ob), .val (.int vx), .val (.int lx), .val (.int v8)] [])) _
          refine XS.aloadN X128.here hx rfl (hb hby d5_141) rfl rfl  ?_
          exact k)
        obtain ⟨T131, X131, e131, st131⟩ := getF X128 hx hZ hown (host := "") (Or.inl (hw _ (List.mem_of_getElem? (i := 15) rfl))) Via.refl e128 F128_ob_lengths (g := (mkF m 142 #[.val (.ref ob), .val (.int vx), .val (.int lx), .val (.int v8)] [(.ref ob)])) rfl rfl (hb hby d5_142)
        have P132 : Wy p.tables e below (s₁.setTop (entryFrame m #[(.ref ob), (.int vx), (.int lx)] 4)) (T131.setTop (mkF m 145 #[.val (.ref ob), .val (.int vx), .val (.int lx), .val (.int v8)] [(.ref a1)])) := fun t k => P130 t (st131 _ k)
        have P133 : Wy p.tables e below (s₁.setTop (entryFrame m #[(.ref ob), (.int vx), (.int lx)] 4)) (T131.setTop (mkF m 147 #[.val (.ref ob), .val (.int vx), .val (.int lx), .val (.int v8)] [(.int lx), (.int vx), (.ref a1)])) := fun t k => P132 t (by
          show Steps p.tables e below (T131.setTop (mkF m 145 #[.val (.ref ob), .val (.int vx), .val (.int lx), .val (.int v8)] [(.ref a1)])) _
          refine XS.iloadN X131.here hx rfl (hb hby d5_145) rfl  ?_
          show Steps p.tables e below (T131.setTop (mkF m 146 #[.val (.ref ob), .val (.int vx), .val (.int lx), .val (.int v8)] [(.int vx), (.ref a1)])) _
          refine XS.iloadN X131.here hx rfl (hb hby d5_146) rfl  ?_
          exact k)
        obtain ⟨cl134, Ar134, hi134, -, up134⟩ := I128_a1.at (j := vx) (k := vn) hvx hvn (by decide)
        obtain ⟨T134, h134, X134, e134, W134, st134⟩ := stI X131 hx hZ e131 Ar134 (j := vx) hi134 (g := (mkF m 147 #[.val (.ref ob), .val (.int vx), .val (.int lx), .val (.int v8)] [(.int lx), (.int vx), (.ref a1)])) rfl rfl (hb hby d5_147)
        have I134 := up134 _ _ W134
        have N134 := Fr.snoc X134 N128 g_a1
        have z134 : n0 ≤ h134.size := Nat.le_trans z128 (Keep.of_wr W134).1
        have K134 : Keep h0 h134 [ob, a1, a2, a3, a4] := K128.wr W134 (Or.inl (List.mem_of_getElem? (i := 1) rfl))
        have I134_a2 := I128_a2.other W134 (Ne.symm ne_a1_a2)
        have I134_a3 := I128_a3.other W134 (Ne.symm ne_a1_a3)
        have I134_a4 := I128_a4.other W134 (Ne.symm ne_a1_a4)
        have A134_ob := A128_ob.wr W134
        have F134_ob_lengths := F128_ob_lengths.other W134 (Or.inl ne_ob_a1)
        have F134_ob_countOfLength := F128_ob_countOfLength.other W134 (Or.inl ne_ob_a1)
        have F134_ob_valuesOfLength := F128_ob_valuesOfLength.other W134 (Or.inl ne_ob_a1)
        have F134_ob_kraft := F128_ob_kraft.other W134 (Or.inl ne_ob_a1)
        have F134_ob_size := Fw128.other W134 (Or.inl ne_ob_a1)
        have F134_ob_changes := F128_ob_changes.other W134 (Or.inl ne_ob_a1)
        have P135 : Wy p.tables e below (s₁.setTop (entryFrame m #[(.ref ob), (.int vx), (.int lx)] 4)) (T134.setTop (mkF m 148 #[.val (.ref ob), .val (.int vx), .val (.int lx), .val (.int v8)] [])) := fun t k => P133 t (st134 _ k)
        have P136 : Wy p.tables e below (s₁.setTop (entryFrame m #[(.ref ob), (.int vx), (.int lx)] 4)) (T134.setTop (mkF m 150 #[.val (.ref ob), .val (.int vx), .val (.int lx), .val (.int v8)] [(.ref ob), (.ref ob)])) := fun t k => P135 t (by
          show Steps p.tables e below (T134.setTop (mkF m 148 #[.val (.ref ob), .val (.int vx), .val (.int lx), .val (.int v8)] [])) _
          refine XS.aloadN X134.here hx rfl (hb hby d5_148) rfl rfl  ?_
          show Steps p.tables e below (T134.setTop (mkF m 149 #[.val (.ref ob), .val (.int vx), .val (.int lx), .val (.int v8)] [(.ref ob)])) _
          refine XS.dup X134.here hx rfl (hb hby d5_149) rfl rfl ?_
          exact k)
        obtain ⟨T137, X137, e137, st137⟩ := getF X134 hx hZ hown (host := "") (Or.inl (hw _ (List.mem_of_getElem? (i := 47) rfl))) Via.refl e134 F134_ob_changes (g := (mkF m 150 #[.val (.ref ob), .val (.int vx), .val (.int lx), .val (.int v8)] [(.ref ob), (.ref ob)])) rfl rfl (hb hby d5_150)
        have P138 : Wy p.tables e below (s₁.setTop (entryFrame m #[(.ref ob), (.int vx), (.int lx)] 4)) (T137.setTop (mkF m 153 #[.val (.ref ob), .val (.int vx), .val (.int lx), .val (.int v8)] [(.long ch), (.ref ob)])) := fun t k => P136 t (st137 _ k)
        have P139 : Wy p.tables e below (s₁.setTop (entryFrame m #[(.ref ob), (.int vx), (.int lx)] 4)) (T137.setTop (mkF m 155 #[.val (.ref ob), .val (.int vx), .val (.int lx), .val (.int v8)] [(.long (ch + (1 : Int64))), (.ref ob)])) := fun t k => P138 t (by
          show Steps p.tables e below (T137.setTop (mkF m 153 #[.val (.ref ob), .val (.int vx), .val (.int lx), .val (.int v8)] [(.long ch), (.ref ob)])) _
          refine XS.lconst X137.here hx rfl (hb hby d5_153) ?_
          show Steps p.tables e below (T137.setTop (mkF m 154 #[.val (.ref ob), .val (.int vx), .val (.int lx), .val (.int v8)] [(.long (1 : Int64)), (.long ch), (.ref ob)])) _
          refine XS.ladd X137.here hx rfl (hb hby d5_154) rfl ?_
          exact k)
        obtain ⟨T140, h140, X140, e140, W140, st140⟩ := putF X137 hx hZ hown (host := "") (Or.inl (hw _ (List.mem_of_getElem? (i := 47) rfl))) Via.refl e137 F134_ob_changes A134_ob (Or.inl (hw _ (List.mem_of_getElem? (i := 48) rfl))) (hw _ (List.mem_of_getElem? (i := 6) rfl)) (ty := .long) (by decide) rfl rfl (g := (mkF m 155 #[.val (.ref ob), .val (.int vx), .val (.int lx), .val (.int v8)] [(.long (ch + (1 : Int64))), (.ref ob)])) rfl rfl (hb hby d5_155)
        have Fw140 := F134_ob_changes.same W140
        have N140 := Fr.snoc X140 N134 g_ob
        have z140 : n0 ≤ h140.size := Nat.le_trans z134 (Keep.of_wr W140).1
        have I140_a1 := I134.other W140 (Ne.symm ne_ob_a1)
        have I140_a2 := I134_a2.other W140 (Ne.symm ne_ob_a2)
        have I140_a3 := I134_a3.other W140 (Ne.symm ne_ob_a3)
        have I140_a4 := I134_a4.other W140 (Ne.symm ne_ob_a4)
        have A140_ob := A134_ob.wr W140
        have F140_ob_lengths := F134_ob_lengths.other W140 (Or.inr (slot_ne (Or.inr (hw _ (List.mem_of_getElem? (i := 16) rfl))) (Or.inl (hw _ (List.mem_of_getElem? (i := 48) rfl))) (by decide) (t := (.array .int)) (t' := .long) (by decide) (by decide)))
        have F140_ob_countOfLength := F134_ob_countOfLength.other W140 (Or.inr (slot_ne (Or.inr (hw _ (List.mem_of_getElem? (i := 18) rfl))) (Or.inl (hw _ (List.mem_of_getElem? (i := 48) rfl))) (by decide) (t := (.array .int)) (t' := .long) (by decide) (by decide)))
        have F140_ob_valuesOfLength := F134_ob_valuesOfLength.other W140 (Or.inr (slot_ne (Or.inr (hw _ (List.mem_of_getElem? (i := 21) rfl))) (Or.inl (hw _ (List.mem_of_getElem? (i := 48) rfl))) (by decide) (t := (.array .long)) (t' := .long) (by decide) (by decide)))
        have F140_ob_kraft := F134_ob_kraft.other W140 (Or.inr (slot_ne (Or.inr (hw _ (List.mem_of_getElem? (i := 23) rfl))) (Or.inl (hw _ (List.mem_of_getElem? (i := 48) rfl))) (by decide) (t := (.array .long)) (t' := .long) (by decide) (by decide)))
        have F140_ob_size := F134_ob_size.other W140 (Or.inr (slot_ne (Or.inl (hw _ (List.mem_of_getElem? (i := 46) rfl))) (Or.inl (hw _ (List.mem_of_getElem? (i := 48) rfl))) (by decide) (t := .int) (t' := .long) (by decide) (by decide)))
        have K140 : Keep h0 h140 [ob, a1, a2, a3, a4] := K134.wr W140 (Or.inl (List.mem_of_getElem? (i := 0) rfl))
        have P141 : Wy p.tables e below (s₁.setTop (entryFrame m #[(.ref ob), (.int vx), (.int lx)] 4)) (T140.setTop (mkF m 158 #[.val (.ref ob), .val (.int vx), .val (.int lx), .val (.int v8)] [])) := fun t k => P139 t (st140 _ k)
        obtain ⟨fs, hr, hrun, hended, hW, hsame⟩ := X140.leave (v := none) (fun _ => rfl)
        refine ⟨_, _, P141 _ ?_, hrun, hended, _, _, rfl, ?_, ⟨_, rfl⟩, hW, hsame.mono (by decide) (by decide)⟩
        · show Steps p.tables e below (T140.setTop (mkF m 158 #[.val (.ref ob), .val (.int vx), .val (.int lx), .val (.int v8)] [])) _
          exact X140.returnOut hx Bd.returns (hb hby d5_158) hr
        · show Q5 Z ob vx lx a1 a2 a3 a4 lf cf vf kr sz ch vn h0 n0 _ T140.heap _
          rw [e140]
          exact ⟨rfl, N140, K140, _, _, _, _, _, (own_kpD (own_wtN (x := lf vn) (by rw [← hv8]; exact hbx) hbn) (own_wtN hlx hln) hK122 hle), A140_ob, F140_ob_lengths, F140_ob_countOfLength, F140_ob_valuesOfLength, F140_ob_kraft, F140_ob_size, Fw140, I140_a1, I140_a2, I140_a3, I140_a4⟩
theorem own_nmlt {a b x y : Nat} (ha : a < x) (hb : y ≤ b) (h : x ≤ y) : ¬ (a = b) := by omega
theorem own_nmgt {a b x y : Nat} (ha : x ≤ a) (hb : b < y) (h : y ≤ x) : ¬ (a = b) := by omega
theorem own_v0 {ex v : Int32} (h : v = (ex &&& (63 : Int32))) : ∃ m : Nat, 0 ≤ m ∧ m < 64 ∧ v = Int32.ofNat m := by
  have a := c_and ex 63 (by decide)
  rw [← h, show (63 : Int32).toInt = 63 from rfl] at a
  exact ⟨v.toInt.toNat, by omega, by omega, own_nat a.1⟩
theorem own_vk {z v k : Int32} {n : Nat} (hk : k.toInt = n) (hn : n ≤ 192) (h : v = k + (z &&& (63 : Int32))) : ∃ m : Nat, n ≤ m ∧ m < n + 64 ∧ v = Int32.ofNat m := by
  have a := c_and z 63 (by decide)
  rw [show (63 : Int32).toInt = 63 from rfl] at a
  have b := c_iadd k (z &&& 63)
  have r := rng32 (k + (z &&& 63))
  rw [← h] at b r
  exact ⟨v.toInt.toNat, by omega, by omega, own_nat (by omega)⟩
theorem own_v1 {ex v : Int32} (h : v = (64 : Int32) + (((ex.toUInt32 >>> ((6 : Int32) &&& 31).toUInt32).toInt32) &&& (63 : Int32))) : ∃ m : Nat, 64 ≤ m ∧ m < 128 ∧ v = Int32.ofNat m := own_vk (n := 64) rfl (by decide) h
theorem own_v2 {ex v : Int32} (h : v = (128 : Int32) + (((ex.toUInt32 >>> ((12 : Int32) &&& 31).toUInt32).toInt32) &&& (63 : Int32))) : ∃ m : Nat, 128 ≤ m ∧ m < 192 ∧ v = Int32.ofNat m := own_vk (n := 128) rfl (by decide) h
theorem own_v3 {ex v : Int32} (h : v = (192 : Int32) + (((ex.toUInt32 >>> ((18 : Int32) &&& 31).toUInt32).toInt32) &&& (63 : Int32))) : ∃ m : Nat, 192 ≤ m ∧ m < 256 ∧ v = Int32.ofNat m := own_vk (n := 192) rfl (by decide) h
theorem own_okm {y : Int32} (h0 : 0 ≤ y.toInt) (h1 : y.toInt ≤ 256) : own_ok (y - (1 : Int32)) := by
  have a := c_isub y 1
  have r := rng32 (y - 1)
  rw [show (1 : Int32).toInt = 1 from rfl] at a
  by_cases q : y.toInt = 0
  · exact Or.inl (Int32.toInt_inj.mp (by rw [show (-1 : Int32).toInt = -1 from rfl]; omega))
  · exact Or.inr ⟨(y - 1).toInt.toNat, by omega, own_nat (by omega)⟩
theorem own_oklen (x : Int32) : own_ok (Flen x) := by
  unfold Flen
  split
  · have a := c_and x 2147483647 (by decide)
    have b := own_rem (x &&& 2147483647) 257 a.1 (by decide)
    rw [show (257 : Int32).toInt = 257 from rfl] at b
    exact own_okm (by omega) (by omega)
  · have a := c_and x 7 (by decide)
    rw [show (7 : Int32).toInt = 7 from rfl] at a
    exact own_okm (by omega) (by omega)
theorem own_le0 : 0 ≤ 2 ^ 255 := Nat.zero_le _
theorem own_small4 {a b c d : Nat} (ha : a ≤ 2 ^ 255) (hb : b ≤ 2 ^ 255) (hc : c ≤ 2 ^ 255) (hd : d ≤ 2 ^ 255) : a + b + c + d < 2 ^ 300 := by
  have f : (2 : Nat) ^ 300 = 2 ^ 255 * 35184372088832 := by decide +kernel
  have g : 0 < (2 : Nat) ^ 255 := Nat.pow_pos (by decide)
  omega
theorem own_code_eq (kr : Nat → Int64) : own_code kr = if own_K kr = 2 ^ 255 then 1 else 0 := by
  unfold own_code
  simp only [lw_eq, own_Kis]
  by_cases h1 : kr 3 = (-9223372036854775808 : Int64)
  · rw [if_pos h1]
    by_cases h2 : (((kr 0 ||| kr 1) ||| kr 2) ||| kr 4) = 0
    · rw [if_pos h2, if_pos ⟨h1, h2⟩]
    · rw [if_neg h2, if_neg (fun q => h2 q.2)]
  · rw [if_neg h1, if_neg (fun q => h1 q.1)]
def own_pw (a : Nat) : Prop := ∃ j : Fin 62, a = if j.val = 0 then 0 else 2 ^ (j.val - 1)
theorem own_noT : ∀ i j : Fin 62, 1 + (if i.val = 0 then 0 else 2 ^ (i.val - 1)) + (if j.val = 0 then 0 else 2 ^ (j.val - 1)) ≠ 1152921504606846976 := by decide +kernel
theorem own_no {a b : Nat} (ha : own_pw a) (hb : own_pw b) : 1 + a + b ≠ 1152921504606846976 := by
  obtain ⟨i, rfl⟩ := ha
  obtain ⟨j, rfl⟩ := hb
  exact own_noT i j
theorem own_pwT : ∀ j : Fin 62, (if j.val = 0 then 0 else 2 ^ (j.val - 1)) ≤ 1152921504606846976 := by decide +kernel
theorem own_pwle {a : Nat} (ha : own_pw a) : a ≤ 1152921504606846976 := by
  obtain ⟨j, rfl⟩ := ha
  exact own_pwT j
theorem own_pw0 : own_pw 0 := ⟨0, rfl⟩
theorem own_tmT : ∀ n : Fin 61, (Fterm (Int32.ofNat n.val)).toInt = ((2 ^ (60 - n.val) : Nat) : Int) ∧ 2 ^ (255 - n.val) = 2 ^ 195 * 2 ^ (60 - n.val) := by decide +kernel
/-- a length is tiny, or its weight is 2^195 times its term -/
theorem own_cls {f : Int32} (h : own_ok f) : ((60 : Int32) < f ∧ 0 < own_wt f ∧ own_wt f ≤ 2 ^ 194) ∨ (¬ (60 : Int32) < f ∧ ∃ a : Nat, own_pw a ∧ own_wt f = 2 ^ 195 * a ∧ (Fterm f).toInt = (a : Int)) := by
  rcases h with rfl | ⟨n, hn, hf⟩
  · exact Or.inr ⟨by decide, 0, own_pw0, rfl, rfl⟩
  · by_cases q : n ≤ 60
    · refine Or.inr ⟨?_, 2 ^ (60 - n), ⟨⟨61 - n, by omega⟩, ?_⟩, ?_, ?_⟩
      · rw [hf, own_lt, own_ofN (by omega), show (60 : Int32).toInt = 60 from rfl]; omega
      · simp only
        rw [if_neg (by omega), show 61 - n - 1 = 60 - n by omega]
      · rw [own_wtN hf hn]; exact (own_tmT ⟨n, by omega⟩).2
      · rw [hf]; exact (own_tmT ⟨n, by omega⟩).1
    · refine Or.inl ⟨?_, ?_, ?_⟩
      · rw [hf, own_lt, own_ofN (by omega), show (60 : Int32).toInt = 60 from rfl]; omega
      · rw [own_wtN hf hn]; exact Nat.pow_pos (by decide)
      · rw [own_wtN hf hn]; exact Nat.pow_le_pow_right (by decide) (by omega)
theorem own_law {f0 f1 f2 f3 g t r : Int32} {kr : Nat → Int64} {sm : Int64} (o0 : own_ok f0) (o1 : own_ok f1) (o2 : own_ok f2) (o3 : own_ok f3) (hK : own_K kr = own_wt f0 + own_wt f1 + own_wt f2 + own_wt f3) (hg : g = own_code kr)
    (ht : t = (if (60 : Int32) < f0 then (1 : Int32) else (if (60 : Int32) < f1 then (1 : Int32) else (if (60 : Int32) < f2 then (1 : Int32) else (if (60 : Int32) < f3 then (1 : Int32) else (0 : Int32)))))) (hs : sm = ((((Fterm f0) + (Fterm f1)) + (Fterm f2)) + (Fterm f3)))
    (hr : r = (if t = (0 : Int32) then (if (lcmpW sm (1152921504606846976 : Int64)) = (0 : Int32) then (1 : Int32) else (0 : Int32)) else (0 : Int32))) : g = r := by
  rw [hg, own_code_eq, hK, hr]
  rcases own_cls o0 with ⟨l0, l0'⟩ | ⟨l0, a0, p0, w0, t0⟩
  · rcases own_cls o1 with ⟨l1, l1'⟩ | ⟨l1, a1, p1, w1, t1⟩
    · rcases own_cls o2 with ⟨l2, l2'⟩ | ⟨l2, a2, p2, w2, t2⟩
      · rcases own_cls o3 with ⟨l3, l3'⟩ | ⟨l3, a3, p3, w3, t3⟩
        · have ht1 : t = 1 := by simp only [ht, if_pos l0]
          rw [ht1, if_neg (show ¬ ((1 : Int32) = 0) by decide), if_neg]
          intro q
          omega
        · have ht1 : t = 1 := by simp only [ht, if_pos l0]
          rw [ht1, if_neg (show ¬ ((1 : Int32) = 0) by decide), if_neg]
          intro q
          rw [w3] at q
          have nn := own_no p3 own_pw0
          omega
      · rcases own_cls o3 with ⟨l3, l3'⟩ | ⟨l3, a3, p3, w3, t3⟩
        · have ht1 : t = 1 := by simp only [ht, if_pos l0]
          rw [ht1, if_neg (show ¬ ((1 : Int32) = 0) by decide), if_neg]
          intro q
          rw [w2] at q
          have nn := own_no p2 own_pw0
          omega
        · have ht1 : t = 1 := by simp only [ht, if_pos l0]
          rw [ht1, if_neg (show ¬ ((1 : Int32) = 0) by decide), if_neg]
          intro q
          rw [w2, w3] at q
          have nn := own_no p2 p3
          omega
    · rcases own_cls o2 with ⟨l2, l2'⟩ | ⟨l2, a2, p2, w2, t2⟩
      · rcases own_cls o3 with ⟨l3, l3'⟩ | ⟨l3, a3, p3, w3, t3⟩
        · have ht1 : t = 1 := by simp only [ht, if_pos l0]
          rw [ht1, if_neg (show ¬ ((1 : Int32) = 0) by decide), if_neg]
          intro q
          rw [w1] at q
          have nn := own_no p1 own_pw0
          omega
        · have ht1 : t = 1 := by simp only [ht, if_pos l0]
          rw [ht1, if_neg (show ¬ ((1 : Int32) = 0) by decide), if_neg]
          intro q
          rw [w1, w3] at q
          have nn := own_no p1 p3
          omega
      · rcases own_cls o3 with ⟨l3, l3'⟩ | ⟨l3, a3, p3, w3, t3⟩
        · have ht1 : t = 1 := by simp only [ht, if_pos l0]
          rw [ht1, if_neg (show ¬ ((1 : Int32) = 0) by decide), if_neg]
          intro q
          rw [w1, w2] at q
          have nn := own_no p1 p2
          omega
        · have ht1 : t = 1 := by simp only [ht, if_pos l0]
          rw [ht1, if_neg (show ¬ ((1 : Int32) = 0) by decide), if_neg]
          intro q
          rw [w1, w2, w3] at q
          omega
  · rcases own_cls o1 with ⟨l1, l1'⟩ | ⟨l1, a1, p1, w1, t1⟩
    · rcases own_cls o2 with ⟨l2, l2'⟩ | ⟨l2, a2, p2, w2, t2⟩
      · rcases own_cls o3 with ⟨l3, l3'⟩ | ⟨l3, a3, p3, w3, t3⟩
        · have ht1 : t = 1 := by simp only [ht, if_neg l0, if_pos l1]
          rw [ht1, if_neg (show ¬ ((1 : Int32) = 0) by decide), if_neg]
          intro q
          rw [w0] at q
          have nn := own_no p0 own_pw0
          omega
        · have ht1 : t = 1 := by simp only [ht, if_neg l0, if_pos l1]
          rw [ht1, if_neg (show ¬ ((1 : Int32) = 0) by decide), if_neg]
          intro q
          rw [w0, w3] at q
          have nn := own_no p0 p3
          omega
      · rcases own_cls o3 with ⟨l3, l3'⟩ | ⟨l3, a3, p3, w3, t3⟩
        · have ht1 : t = 1 := by simp only [ht, if_neg l0, if_pos l1]
          rw [ht1, if_neg (show ¬ ((1 : Int32) = 0) by decide), if_neg]
          intro q
          rw [w0, w2] at q
          have nn := own_no p0 p2
          omega
        · have ht1 : t = 1 := by simp only [ht, if_neg l0, if_pos l1]
          rw [ht1, if_neg (show ¬ ((1 : Int32) = 0) by decide), if_neg]
          intro q
          rw [w0, w2, w3] at q
          omega
    · rcases own_cls o2 with ⟨l2, l2'⟩ | ⟨l2, a2, p2, w2, t2⟩
      · rcases own_cls o3 with ⟨l3, l3'⟩ | ⟨l3, a3, p3, w3, t3⟩
        · have ht1 : t = 1 := by simp only [ht, if_neg l0, if_neg l1, if_pos l2]
          rw [ht1, if_neg (show ¬ ((1 : Int32) = 0) by decide), if_neg]
          intro q
          rw [w0, w1] at q
          have nn := own_no p0 p1
          omega
        · have ht1 : t = 1 := by simp only [ht, if_neg l0, if_neg l1, if_pos l2]
          rw [ht1, if_neg (show ¬ ((1 : Int32) = 0) by decide), if_neg]
          intro q
          rw [w0, w1, w3] at q
          omega
      · rcases own_cls o3 with ⟨l3, l3'⟩ | ⟨l3, a3, p3, w3, t3⟩
        · have ht1 : t = 1 := by simp only [ht, if_neg l0, if_neg l1, if_neg l2, if_pos l3]
          rw [ht1, if_neg (show ¬ ((1 : Int32) = 0) by decide), if_neg]
          intro q
          rw [w0, w1, w2] at q
          omega
        · have ht0 : t = 0 := by simp only [ht, if_neg l0, if_neg l1, if_neg l2, if_neg l3]
          rw [ht0, if_pos rfl, w0, w1, w2, w3]
          have b0 := own_pwle p0
          have b1 := own_pwle p1
          have b2 := own_pwle p2
          have b3 := own_pwle p3
          have s1 := c_ladd (Fterm f0) (Fterm f1)
          have r1 := rng64 (Fterm f0 + Fterm f1)
          have s2 := c_ladd (Fterm f0 + Fterm f1) (Fterm f2)
          have r2 := rng64 (Fterm f0 + Fterm f1 + Fterm f2)
          have s3 := c_ladd (Fterm f0 + Fterm f1 + Fterm f2) (Fterm f3)
          have r3 := rng64 (Fterm f0 + Fterm f1 + Fterm f2 + Fterm f3)
          rw [← hs] at s3 r3
          have sv : sm.toInt = ((a0 + a1 + a2 + a3 : Nat) : Int) := by omega
          have eq1 : (lcmpW sm (1152921504606846976 : Int64)) = (0 : Int32) ↔ a0 + a1 + a2 + a3 = 1152921504606846976 := by
            rw [lw_eq, ← Int64.toInt_inj, sv, show (1152921504606846976 : Int64).toInt = 1152921504606846976 from rfl]
            omega
          have eq2 : 2 ^ 195 * a0 + 2 ^ 195 * a1 + 2 ^ 195 * a2 + 2 ^ 195 * a3 = 2 ^ 255 ↔ a0 + a1 + a2 + a3 = 1152921504606846976 := by omega
          simp only [eq1, eq2]

theorem pd_lIrI : parseMethodDescriptor "(I)I" = some ⟨[.int], some .int⟩ := by decide +kernel
theorem pd_lrV : parseMethodDescriptor "()V" = some ⟨[], none⟩ := by decide +kernel
theorem pd_lIIrV : parseMethodDescriptor "(II)V" = some ⟨[.int, .int], none⟩ := by decide +kernel
theorem pd_lrZ : parseMethodDescriptor "()Z" = some ⟨[], some .boolean⟩ := by decide +kernel
theorem pd_lIrJ : parseMethodDescriptor "(I)J" = some ⟨[.int], some .long⟩ := by decide +kernel
theorem ef_rm0 (m : MethodId) (ax : Int64) (bx : Int64) (cx : Int64) (dx : Int64) (ex : Int32)  : entryFrame m #[(.long ax), (.long bx), (.long cx), (.long dx), (.int ex)] maxLocals = (mkF m 0 #[.val (.long ax), .second, .val (.long bx), .second, .val (.long cx), .second, .val (.long dx), .second, .val (.int ex), .unset, .unset, .unset, .unset, .unset, .unset, .unset, .unset, .unset, .unset, .unset, .unset, .unset, .unset, .unset, .unset, .unset, .unset] []) := by first | (simp [entryFrame, mkF, argsToLocals, Value.category, maxLocals]; done) | rfl
def Q0 (Z : State) (ax bx cx dx : Int64) (ex : Int32) (h0 : Heap) (n0 : Nat) (v : Option Value) (h : Heap) (L : List Loc) : Prop := v = some (.int 1) ∧ Fr n0 L
set_option maxRecDepth 65536 in
set_option maxHeartbeats 40000000 in
theorem rm0 (l : Launch) (Z : State) (a0 : Array Value) (hw : ∀ d ∈ tables_1, d.before a0 Z = true) (ws : List Jvm.Cond) (ax bx cx dx : Int64) (ex : Int32) (h0 : Heap) (n0 : Nat) (Z0 : n0 ≤ h0.size)  :
    MetFree l x (head1 (Jvm.Cond.code x code maxLocals ret :: ws) room_1) (fun a U => a = #[(.long ax), (.long bx), (.long cx), (.long dx), (.int ex)] ∧ Z.Warmed39 U.vm ∧ U.heap = h0) (fun _ _ _ _ _ => True) (fun _ U o U' => ∃ v L, o = .returned v ∧ Q0 Z ax bx cx dx ex h0 n0 v U'.heap L ∧ FrameEnd U o U' L room_1.cells room_1.slots) := by
  refine MetFree.of_bodySF (plainFor_of_name pn_com_example_leafpack_leafpack_CodeTableIsCodePinLaw) hisR ?_
  intro p e s m args below meth c s₁ Bd hml0 hP hK
  obtain ⟨rfl, hZ, hh⟩ := hP
  have hx := Bd.exec
  have hby := Bd.bytes
  have hml : c.maxLocals = 27 := hml0
  have hown : s.vm.findClass "com/example/leafpack/leafpack/CodeTableIsCodePinLaw" = some m.cls := by have q := findClass_of_methodNamed Bd.named; exact q
  have hnm := (name_of_methodNamed Bd.named Bd.method).1
  have X0 : Stand p l e room_1 s m #[(.long ax), (.long bx), (.long cx), (.long dx), (.int ex)] below meth c s₁ [] 0 0 := Stand.of_body Bd
  have e0 : s₁.heap = h0 := by rw [← hh, Bd.state]; rfl
  have N0 := Fr.nil n0
  have P0 : Wy p.tables e below (s₁.setTop (entryFrame m #[(.long ax), (.long bx), (.long cx), (.long dx), (.int ex)] maxLocals)) (s₁.setTop (mkF m 0 #[.val (.long ax), .second, .val (.long bx), .second, .val (.long cx), .second, .val (.long dx), .second, .val (.int ex), .unset, .unset, .unset, .unset, .unset, .unset, .unset, .unset, .unset, .unset, .unset, .unset, .unset, .unset, .unset, .unset, .unset, .unset] [])) := fun t k => castTop (ef_rm0 m ax bx cx dx ex) k
  have P1 : Wy p.tables e below (s₁.setTop (entryFrame m #[(.long ax), (.long bx), (.long cx), (.long dx), (.int ex)] maxLocals)) (s₁.setTop (mkF m 7 #[.val (.long ax), .second, .val (.long bx), .second, .val (.long cx), .second, .val (.long dx), .second, .val (.int ex), .val (.int (ex &&& (63 : Int32))), .unset, .unset, .unset, .unset, .unset, .unset, .unset, .unset, .unset, .unset, .unset, .unset, .unset, .unset, .unset, .unset, .unset] [])) := fun t k => P0 t (by
    show Steps p.tables e below (s₁.setTop (mkF m 0 #[.val (.long ax), .second, .val (.long bx), .second, .val (.long cx), .second, .val (.long dx), .second, .val (.int ex), .unset, .unset, .unset, .unset, .unset, .unset, .unset, .unset, .unset, .unset, .unset, .unset, .unset, .unset, .unset, .unset, .unset, .unset] [])) _
    refine XS.iload X0.here hx rfl (hb hby at_0) rfl  ?_
    show Steps p.tables e below (s₁.setTop (mkF m 2 #[.val (.long ax), .second, .val (.long bx), .second, .val (.long cx), .second, .val (.long dx), .second, .val (.int ex), .unset, .unset, .unset, .unset, .unset, .unset, .unset, .unset, .unset, .unset, .unset, .unset, .unset, .unset, .unset, .unset, .unset, .unset] [(.int ex)])) _
    refine XS.bipush X0.here hx rfl (hb hby at_2) ?_
    show Steps p.tables e below (s₁.setTop (mkF m 4 #[.val (.long ax), .second, .val (.long bx), .second, .val (.long cx), .second, .val (.long dx), .second, .val (.int ex), .unset, .unset, .unset, .unset, .unset, .unset, .unset, .unset, .unset, .unset, .unset, .unset, .unset, .unset, .unset, .unset, .unset, .unset] [(.int (63 : Int32)), (.int ex)])) _
    refine XS.iand X0.here hx rfl (hb hby at_4) rfl ?_
    show Steps p.tables e below (s₁.setTop (mkF m 5 #[.val (.long ax), .second, .val (.long bx), .second, .val (.long cx), .second, .val (.long dx), .second, .val (.int ex), .unset, .unset, .unset, .unset, .unset, .unset, .unset, .unset, .unset, .unset, .unset, .unset, .unset, .unset, .unset, .unset, .unset, .unset] [(.int (ex &&& (63 : Int32)))])) _
    refine XS.istore X0.here hx rfl (hb hby at_5) rfl (l' := #[.val (.long ax), .second, .val (.long bx), .second, .val (.long cx), .second, .val (.long dx), .second, .val (.int ex), .val (.int (ex &&& (63 : Int32))), .unset, .unset, .unset, .unset, .unset, .unset, .unset, .unset, .unset, .unset, .unset, .unset, .unset, .unset, .unset, .unset, .unset]) rfl ?_
    exact k)
  obtain ⟨v2, hv2⟩ : ∃ z : Int32, z = (ex &&& (63 : Int32)) := ⟨_, rfl⟩
  have P3 : Wy p.tables e below (s₁.setTop (entryFrame m #[(.long ax), (.long bx), (.long cx), (.long dx), (.int ex)] maxLocals)) (s₁.setTop (mkF m 7 #[.val (.long ax), .second, .val (.long bx), .second, .val (.long cx), .second, .val (.long dx), .second, .val (.int ex), .val (.int v2), .unset, .unset, .unset, .unset, .unset, .unset, .unset, .unset, .unset, .unset, .unset, .unset, .unset, .unset, .unset, .unset, .unset] [])) := fun t k => by subst hv2; exact P1 t k
  have P4 : Wy p.tables e below (s₁.setTop (entryFrame m #[(.long ax), (.long bx), (.long cx), (.long dx), (.int ex)] maxLocals)) (s₁.setTop (mkF m 20 #[.val (.long ax), .second, .val (.long bx), .second, .val (.long cx), .second, .val (.long dx), .second, .val (.int ex), .val (.int v2), .val (.int ((64 : Int32) + (((ex.toUInt32 >>> ((6 : Int32) &&& 31).toUInt32).toInt32) &&& (63 : Int32)))), .unset, .unset, .unset, .unset, .unset, .unset, .unset, .unset, .unset, .unset, .unset, .unset, .unset, .unset, .unset, .unset] [])) := fun t k => P3 t (by
    show Steps p.tables e below (s₁.setTop (mkF m 7 #[.val (.long ax), .second, .val (.long bx), .second, .val (.long cx), .second, .val (.long dx), .second, .val (.int ex), .val (.int v2), .unset, .unset, .unset, .unset, .unset, .unset, .unset, .unset, .unset, .unset, .unset, .unset, .unset, .unset, .unset, .unset, .unset] [])) _
    refine XS.bipush X0.here hx rfl (hb hby at_7) ?_
    show Steps p.tables e below (s₁.setTop (mkF m 9 #[.val (.long ax), .second, .val (.long bx), .second, .val (.long cx), .second, .val (.long dx), .second, .val (.int ex), .val (.int v2), .unset, .unset, .unset, .unset, .unset, .unset, .unset, .unset, .unset, .unset, .unset, .unset, .unset, .unset, .unset, .unset, .unset] [(.int (64 : Int32))])) _
    refine XS.iload X0.here hx rfl (hb hby at_9) rfl  ?_
    show Steps p.tables e below (s₁.setTop (mkF m 11 #[.val (.long ax), .second, .val (.long bx), .second, .val (.long cx), .second, .val (.long dx), .second, .val (.int ex), .val (.int v2), .unset, .unset, .unset, .unset, .unset, .unset, .unset, .unset, .unset, .unset, .unset, .unset, .unset, .unset, .unset, .unset, .unset] [(.int ex), (.int (64 : Int32))])) _
    refine XS.bipush X0.here hx rfl (hb hby at_11) ?_
    show Steps p.tables e below (s₁.setTop (mkF m 13 #[.val (.long ax), .second, .val (.long bx), .second, .val (.long cx), .second, .val (.long dx), .second, .val (.int ex), .val (.int v2), .unset, .unset, .unset, .unset, .unset, .unset, .unset, .unset, .unset, .unset, .unset, .unset, .unset, .unset, .unset, .unset, .unset] [(.int (6 : Int32)), (.int ex), (.int (64 : Int32))])) _
    refine XS.iushr X0.here hx rfl (hb hby at_13) rfl ?_
    show Steps p.tables e below (s₁.setTop (mkF m 14 #[.val (.long ax), .second, .val (.long bx), .second, .val (.long cx), .second, .val (.long dx), .second, .val (.int ex), .val (.int v2), .unset, .unset, .unset, .unset, .unset, .unset, .unset, .unset, .unset, .unset, .unset, .unset, .unset, .unset, .unset, .unset, .unset] [(.int ((ex.toUInt32 >>> ((6 : Int32) &&& 31).toUInt32).toInt32)), (.int (64 : Int32))])) _
    refine XS.bipush X0.here hx rfl (hb hby at_14) ?_
    show Steps p.tables e below (s₁.setTop (mkF m 16 #[.val (.long ax), .second, .val (.long bx), .second, .val (.long cx), .second, .val (.long dx), .second, .val (.int ex), .val (.int v2), .unset, .unset, .unset, .unset, .unset, .unset, .unset, .unset, .unset, .unset, .unset, .unset, .unset, .unset, .unset, .unset, .unset] [(.int (63 : Int32)), (.int ((ex.toUInt32 >>> ((6 : Int32) &&& 31).toUInt32).toInt32)), (.int (64 : Int32))])) _
    refine XS.iand X0.here hx rfl (hb hby at_16) rfl ?_
    show Steps p.tables e below (s₁.setTop (mkF m 17 #[.val (.long ax), .second, .val (.long bx), .second, .val (.long cx), .second, .val (.long dx), .second, .val (.int ex), .val (.int v2), .unset, .unset, .unset, .unset, .unset, .unset, .unset, .unset, .unset, .unset, .unset, .unset, .unset, .unset, .unset, .unset, .unset] [(.int (((ex.toUInt32 >>> ((6 : Int32) &&& 31).toUInt32).toInt32) &&& (63 : Int32))), (.int (64 : Int32))])) _
    refine XS.iadd X0.here hx rfl (hb hby at_17) rfl ?_
    show Steps p.tables e below (s₁.setTop (mkF m 18 #[.val (.long ax), .second, .val (.long bx), .second, .val (.long cx), .second, .val (.long dx), .second, .val (.int ex), .val (.int v2), .unset, .unset, .unset, .unset, .unset, .unset, .unset, .unset, .unset, .unset, .unset, .unset, .unset, .unset, .unset, .unset, .unset] [(.int ((64 : Int32) + (((ex.toUInt32 >>> ((6 : Int32) &&& 31).toUInt32).toInt32) &&& (63 : Int32))))])) _
    refine XS.istore X0.here hx rfl (hb hby at_18) rfl (l' := #[.val (.long ax), .second, .val (.long bx), .second, .val (.long cx), .second, .val (.long dx), .second, .val (.int ex), .val (.int v2), .val (.int ((64 : Int32) + (((ex.toUInt32 >>> ((6 : Int32) &&& 31).toUInt32).toInt32) &&& (63 : Int32)))), .unset, .unset, .unset, .unset, .unset, .unset, .unset, .unset, .unset, .unset, .unset, .unset, .unset, .unset, .unset, .unset]) rfl ?_
    exact k)
  obtain ⟨v5, hv5⟩ : ∃ z : Int32, z = ((64 : Int32) + (((ex.toUInt32 >>> ((6 : Int32) &&& 31).toUInt32).toInt32) &&& (63 : Int32))) := ⟨_, rfl⟩
  have P6 : Wy p.tables e below (s₁.setTop (entryFrame m #[(.long ax), (.long bx), (.long cx), (.long dx), (.int ex)] maxLocals)) (s₁.setTop (mkF m 20 #[.val (.long ax), .second, .val (.long bx), .second, .val (.long cx), .second, .val (.long dx), .second, .val (.int ex), .val (.int v2), .val (.int v5), .unset, .unset, .unset, .unset, .unset, .unset, .unset, .unset, .unset, .unset, .unset, .unset, .unset, .unset, .unset, .unset] [])) := fun t k => by subst hv5; exact P4 t k
  have P7 : Wy p.tables e below (s₁.setTop (entryFrame m #[(.long ax), (.long bx), (.long cx), (.long dx), (.int ex)] maxLocals)) (s₁.setTop (mkF m 34 #[.val (.long ax), .second, .val (.long bx), .second, .val (.long cx), .second, .val (.long dx), .second, .val (.int ex), .val (.int v2), .val (.int v5), .val (.int ((128 : Int32) + (((ex.toUInt32 >>> ((12 : Int32) &&& 31).toUInt32).toInt32) &&& (63 : Int32)))), .unset, .unset, .unset, .unset, .unset, .unset, .unset, .unset, .unset, .unset, .unset, .unset, .unset, .unset, .unset] [])) := fun t k => P6 t (by
    show Steps p.tables e below (s₁.setTop (mkF m 20 #[.val (.long ax), .second, .val (.long bx), .second, .val (.long cx), .second, .val (.long dx), .second, .val (.int ex), .val (.int v2), .val (.int v5), .unset, .unset, .unset, .unset, .unset, .unset, .unset, .unset, .unset, .unset, .unset, .unset, .unset, .unset, .unset, .unset] [])) _
    refine XS.sipush X0.here hx rfl (hb hby at_20) ?_
    show Steps p.tables e below (s₁.setTop (mkF m 23 #[.val (.long ax), .second, .val (.long bx), .second, .val (.long cx), .second, .val (.long dx), .second, .val (.int ex), .val (.int v2), .val (.int v5), .unset, .unset, .unset, .unset, .unset, .unset, .unset, .unset, .unset, .unset, .unset, .unset, .unset, .unset, .unset, .unset] [(.int (128 : Int32))])) _
    refine XS.iload X0.here hx rfl (hb hby at_23) rfl  ?_
    show Steps p.tables e below (s₁.setTop (mkF m 25 #[.val (.long ax), .second, .val (.long bx), .second, .val (.long cx), .second, .val (.long dx), .second, .val (.int ex), .val (.int v2), .val (.int v5), .unset, .unset, .unset, .unset, .unset, .unset, .unset, .unset, .unset, .unset, .unset, .unset, .unset, .unset, .unset, .unset] [(.int ex), (.int (128 : Int32))])) _
    refine XS.bipush X0.here hx rfl (hb hby at_25) ?_
    show Steps p.tables e below (s₁.setTop (mkF m 27 #[.val (.long ax), .second, .val (.long bx), .second, .val (.long cx), .second, .val (.long dx), .second, .val (.int ex), .val (.int v2), .val (.int v5), .unset, .unset, .unset, .unset, .unset, .unset, .unset, .unset, .unset, .unset, .unset, .unset, .unset, .unset, .unset, .unset] [(.int (12 : Int32)), (.int ex), (.int (128 : Int32))])) _
    refine XS.iushr X0.here hx rfl (hb hby at_27) rfl ?_
    show Steps p.tables e below (s₁.setTop (mkF m 28 #[.val (.long ax), .second, .val (.long bx), .second, .val (.long cx), .second, .val (.long dx), .second, .val (.int ex), .val (.int v2), .val (.int v5), .unset, .unset, .unset, .unset, .unset, .unset, .unset, .unset, .unset, .unset, .unset, .unset, .unset, .unset, .unset, .unset] [(.int ((ex.toUInt32 >>> ((12 : Int32) &&& 31).toUInt32).toInt32)), (.int (128 : Int32))])) _
    refine XS.bipush X0.here hx rfl (hb hby at_28) ?_
    show Steps p.tables e below (s₁.setTop (mkF m 30 #[.val (.long ax), .second, .val (.long bx), .second, .val (.long cx), .second, .val (.long dx), .second, .val (.int ex), .val (.int v2), .val (.int v5), .unset, .unset, .unset, .unset, .unset, .unset, .unset, .unset, .unset, .unset, .unset, .unset, .unset, .unset, .unset, .unset] [(.int (63 : Int32)), (.int ((ex.toUInt32 >>> ((12 : Int32) &&& 31).toUInt32).toInt32)), (.int (128 : Int32))])) _
    refine XS.iand X0.here hx rfl (hb hby at_30) rfl ?_
    show Steps p.tables e below (s₁.setTop (mkF m 31 #[.val (.long ax), .second, .val (.long bx), .second, .val (.long cx), .second, .val (.long dx), .second, .val (.int ex), .val (.int v2), .val (.int v5), .unset, .unset, .unset, .unset, .unset, .unset, .unset, .unset, .unset, .unset, .unset, .unset, .unset, .unset, .unset, .unset] [(.int (((ex.toUInt32 >>> ((12 : Int32) &&& 31).toUInt32).toInt32) &&& (63 : Int32))), (.int (128 : Int32))])) _
    refine XS.iadd X0.here hx rfl (hb hby at_31) rfl ?_
    show Steps p.tables e below (s₁.setTop (mkF m 32 #[.val (.long ax), .second, .val (.long bx), .second, .val (.long cx), .second, .val (.long dx), .second, .val (.int ex), .val (.int v2), .val (.int v5), .unset, .unset, .unset, .unset, .unset, .unset, .unset, .unset, .unset, .unset, .unset, .unset, .unset, .unset, .unset, .unset] [(.int ((128 : Int32) + (((ex.toUInt32 >>> ((12 : Int32) &&& 31).toUInt32).toInt32) &&& (63 : Int32))))])) _
    refine XS.istore X0.here hx rfl (hb hby at_32) rfl (l' := #[.val (.long ax), .second, .val (.long bx), .second, .val (.long cx), .second, .val (.long dx), .second, .val (.int ex), .val (.int v2), .val (.int v5), .val (.int ((128 : Int32) + (((ex.toUInt32 >>> ((12 : Int32) &&& 31).toUInt32).toInt32) &&& (63 : Int32)))), .unset, .unset, .unset, .unset, .unset, .unset, .unset, .unset, .unset, .unset, .unset, .unset, .unset, .unset, .unset]) rfl ?_
    exact k)
  obtain ⟨v8, hv8⟩ : ∃ z : Int32, z = ((128 : Int32) + (((ex.toUInt32 >>> ((12 : Int32) &&& 31).toUInt32).toInt32) &&& (63 : Int32))) := ⟨_, rfl⟩
  have P9 : Wy p.tables e below (s₁.setTop (entryFrame m #[(.long ax), (.long bx), (.long cx), (.long dx), (.int ex)] maxLocals)) (s₁.setTop (mkF m 34 #[.val (.long ax), .second, .val (.long bx), .second, .val (.long cx), .second, .val (.long dx), .second, .val (.int ex), .val (.int v2), .val (.int v5), .val (.int v8), .unset, .unset, .unset, .unset, .unset, .unset, .unset, .unset, .unset, .unset, .unset, .unset, .unset, .unset, .unset] [])) := fun t k => by subst hv8; exact P7 t k
  have P10 : Wy p.tables e below (s₁.setTop (entryFrame m #[(.long ax), (.long bx), (.long cx), (.long dx), (.int ex)] maxLocals)) (s₁.setTop (mkF m 48 #[.val (.long ax), .second, .val (.long bx), .second, .val (.long cx), .second, .val (.long dx), .second, .val (.int ex), .val (.int v2), .val (.int v5), .val (.int v8), .val (.int ((192 : Int32) + (((ex.toUInt32 >>> ((18 : Int32) &&& 31).toUInt32).toInt32) &&& (63 : Int32)))), .unset, .unset, .unset, .unset, .unset, .unset, .unset, .unset, .unset, .unset, .unset, .unset, .unset, .unset] [])) := fun t k => P9 t (by
    show Steps p.tables e below (s₁.setTop (mkF m 34 #[.val (.long ax), .second, .val (.long bx), .second, .val (.long cx), .second, .val (.long dx), .second, .val (.int ex), .val (.int v2), .val (.int v5), .val (.int v8), .unset, .unset, .unset, .unset, .unset, .unset, .unset, .unset, .unset, .unset, .unset, .unset, .unset, .unset, .unset] [])) _
    refine XS.sipush X0.here hx rfl (hb hby at_34) ?_
    show Steps p.tables e below (s₁.setTop (mkF m 37 #[.val (.long ax), .second, .val (.long bx), .second, .val (.long cx), .second, .val (.long dx), .second, .val (.int ex), .val (.int v2), .val (.int v5), .val (.int v8), .unset, .unset, .unset, .unset, .unset, .unset, .unset, .unset, .unset, .unset, .unset, .unset, .unset, .unset, .unset] [(.int (192 : Int32))])) _
    refine XS.iload X0.here hx rfl (hb hby at_37) rfl  ?_
    show Steps p.tables e below (s₁.setTop (mkF m 39 #[.val (.long ax), .second, .val (.long bx), .second, .val (.long cx), .second, .val (.long dx), .second, .val (.int ex), .val (.int v2), .val (.int v5), .val (.int v8), .unset, .unset, .unset, .unset, .unset, .unset, .unset, .unset, .unset, .unset, .unset, .unset, .unset, .unset, .unset] [(.int ex), (.int (192 : Int32))])) _
    refine XS.bipush X0.here hx rfl (hb hby at_39) ?_
    show Steps p.tables e below (s₁.setTop (mkF m 41 #[.val (.long ax), .second, .val (.long bx), .second, .val (.long cx), .second, .val (.long dx), .second, .val (.int ex), .val (.int v2), .val (.int v5), .val (.int v8), .unset, .unset, .unset, .unset, .unset, .unset, .unset, .unset, .unset, .unset, .unset, .unset, .unset, .unset, .unset] [(.int (18 : Int32)), (.int ex), (.int (192 : Int32))])) _
    refine XS.iushr X0.here hx rfl (hb hby at_41) rfl ?_
    show Steps p.tables e below (s₁.setTop (mkF m 42 #[.val (.long ax), .second, .val (.long bx), .second, .val (.long cx), .second, .val (.long dx), .second, .val (.int ex), .val (.int v2), .val (.int v5), .val (.int v8), .unset, .unset, .unset, .unset, .unset, .unset, .unset, .unset, .unset, .unset, .unset, .unset, .unset, .unset, .unset] [(.int ((ex.toUInt32 >>> ((18 : Int32) &&& 31).toUInt32).toInt32)), (.int (192 : Int32))])) _
    refine XS.bipush X0.here hx rfl (hb hby at_42) ?_
    show Steps p.tables e below (s₁.setTop (mkF m 44 #[.val (.long ax), .second, .val (.long bx), .second, .val (.long cx), .second, .val (.long dx), .second, .val (.int ex), .val (.int v2), .val (.int v5), .val (.int v8), .unset, .unset, .unset, .unset, .unset, .unset, .unset, .unset, .unset, .unset, .unset, .unset, .unset, .unset, .unset] [(.int (63 : Int32)), (.int ((ex.toUInt32 >>> ((18 : Int32) &&& 31).toUInt32).toInt32)), (.int (192 : Int32))])) _
    refine XS.iand X0.here hx rfl (hb hby at_44) rfl ?_
    show Steps p.tables e below (s₁.setTop (mkF m 45 #[.val (.long ax), .second, .val (.long bx), .second, .val (.long cx), .second, .val (.long dx), .second, .val (.int ex), .val (.int v2), .val (.int v5), .val (.int v8), .unset, .unset, .unset, .unset, .unset, .unset, .unset, .unset, .unset, .unset, .unset, .unset, .unset, .unset, .unset] [(.int (((ex.toUInt32 >>> ((18 : Int32) &&& 31).toUInt32).toInt32) &&& (63 : Int32))), (.int (192 : Int32))])) _
    refine XS.iadd X0.here hx rfl (hb hby at_45) rfl ?_
    show Steps p.tables e below (s₁.setTop (mkF m 46 #[.val (.long ax), .second, .val (.long bx), .second, .val (.long cx), .second, .val (.long dx), .second, .val (.int ex), .val (.int v2), .val (.int v5), .val (.int v8), .unset, .unset, .unset, .unset, .unset, .unset, .unset, .unset, .unset, .unset, .unset, .unset, .unset, .unset, .unset] [(.int ((192 : Int32) + (((ex.toUInt32 >>> ((18 : Int32) &&& 31).toUInt32).toInt32) &&& (63 : Int32))))])) _
    refine XS.istore X0.here hx rfl (hb hby at_46) rfl (l' := #[.val (.long ax), .second, .val (.long bx), .second, .val (.long cx), .second, .val (.long dx), .second, .val (.int ex), .val (.int v2), .val (.int v5), .val (.int v8), .val (.int ((192 : Int32) + (((ex.toUInt32 >>> ((18 : Int32) &&& 31).toUInt32).toInt32) &&& (63 : Int32)))), .unset, .unset, .unset, .unset, .unset, .unset, .unset, .unset, .unset, .unset, .unset, .unset, .unset, .unset]) rfl ?_
    exact k)
  obtain ⟨v11, hv11⟩ : ∃ z : Int32, z = ((192 : Int32) + (((ex.toUInt32 >>> ((18 : Int32) &&& 31).toUInt32).toInt32) &&& (63 : Int32))) := ⟨_, rfl⟩
  have P12 : Wy p.tables e below (s₁.setTop (entryFrame m #[(.long ax), (.long bx), (.long cx), (.long dx), (.int ex)] maxLocals)) (s₁.setTop (mkF m 48 #[.val (.long ax), .second, .val (.long bx), .second, .val (.long cx), .second, .val (.long dx), .second, .val (.int ex), .val (.int v2), .val (.int v5), .val (.int v8), .val (.int v11), .unset, .unset, .unset, .unset, .unset, .unset, .unset, .unset, .unset, .unset, .unset, .unset, .unset, .unset] [])) := fun t k => by subst hv11; exact P10 t k
  have P13 : Wy p.tables e below (s₁.setTop (entryFrame m #[(.long ax), (.long bx), (.long cx), (.long dx), (.int ex)] maxLocals)) (s₁.setTop (mkF m 53 #[.val (.long ax), .second, .val (.long bx), .second, .val (.long cx), .second, .val (.long dx), .second, .val (.int ex), .val (.int v2), .val (.int v5), .val (.int v8), .val (.int v11), .unset, .unset, .unset, .unset, .unset, .unset, .unset, .unset, .unset, .unset, .unset, .unset, .unset, .unset] [(.int (((ax.toUInt64 >>> ((32 : Int32) &&& 0x3f).toInt64.toUInt64).toInt64).toInt32))])) := fun t k => P12 t (by
    show Steps p.tables e below (s₁.setTop (mkF m 48 #[.val (.long ax), .second, .val (.long bx), .second, .val (.long cx), .second, .val (.long dx), .second, .val (.int ex), .val (.int v2), .val (.int v5), .val (.int v8), .val (.int v11), .unset, .unset, .unset, .unset, .unset, .unset, .unset, .unset, .unset, .unset, .unset, .unset, .unset, .unset] [])) _
    refine XS.lloadN X0.here hx rfl (hb hby at_48) rfl  ?_
    show Steps p.tables e below (s₁.setTop (mkF m 49 #[.val (.long ax), .second, .val (.long bx), .second, .val (.long cx), .second, .val (.long dx), .second, .val (.int ex), .val (.int v2), .val (.int v5), .val (.int v8), .val (.int v11), .unset, .unset, .unset, .unset, .unset, .unset, .unset, .unset, .unset, .unset, .unset, .unset, .unset, .unset] [(.long ax)])) _
    refine XS.bipush X0.here hx rfl (hb hby at_49) ?_
    show Steps p.tables e below (s₁.setTop (mkF m 51 #[.val (.long ax), .second, .val (.long bx), .second, .val (.long cx), .second, .val (.long dx), .second, .val (.int ex), .val (.int v2), .val (.int v5), .val (.int v8), .val (.int v11), .unset, .unset, .unset, .unset, .unset, .unset, .unset, .unset, .unset, .unset, .unset, .unset, .unset, .unset] [(.int (32 : Int32)), (.long ax)])) _
    refine XS.lushr X0.here hx rfl (hb hby at_51) rfl ?_
    show Steps p.tables e below (s₁.setTop (mkF m 52 #[.val (.long ax), .second, .val (.long bx), .second, .val (.long cx), .second, .val (.long dx), .second, .val (.int ex), .val (.int v2), .val (.int v5), .val (.int v8), .val (.int v11), .unset, .unset, .unset, .unset, .unset, .unset, .unset, .unset, .unset, .unset, .unset, .unset, .unset, .unset] [(.long ((ax.toUInt64 >>> ((32 : Int32) &&& 0x3f).toInt64.toUInt64).toInt64))])) _
    refine XS.l2i X0.here hx rfl (hb hby at_52) rfl ?_
    exact k)
  obtain ⟨_, _, ⟨T14, L14, k14, n14⟩, -, X14, ⟨Lc14, hQ14, l14, y14, z14⟩, st14⟩ := Jvm.LawKit.callS X0 hx (y := (⟨"com/example/leafpack/leafpack/CodeTableIsCodePinLaw", "len", "(I)I"⟩ : MethodName)) hown (mvT hZ (hw _ (List.mem_of_getElem? (i := 0) rfl))) (mvT hZ (hw _ (List.mem_of_getElem? (i := 1) rfl))) (mvT hZ (hw _ (List.mem_of_getElem? (i := 2) rfl))) (mvT hZ (hw _ (List.mem_of_getElem? (i := 3) rfl))) (by decide) (backOf (W := 0) (rm1 l Z a0 hw [] (((ax.toUInt64 >>> ((32 : Int32) &&& 0x3f).toInt64.toUInt64).toInt64).toInt32) h0 n0 Z0 ) hZ (hw _ (List.mem_of_getElem? (i := 3) rfl)) (hw _ (List.mem_of_getElem? (i := 2) rfl)) (by decide) (by decide)) (g := (mkF m 53 #[.val (.long ax), .second, .val (.long bx), .second, .val (.long cx), .second, .val (.long dx), .second, .val (.int ex), .val (.int v2), .val (.int v5), .val (.int v8), .val (.int v11), .unset, .unset, .unset, .unset, .unset, .unset, .unset, .unset, .unset, .unset, .unset, .unset, .unset, .unset] [(.int (((ax.toUInt64 >>> ((32 : Int32) &&& 0x3f).toInt64.toUInt64).toInt64).toInt32))])) rfl (by rw [hml]; rfl) (argsL := [(.int (((ax.toUInt64 >>> ((32 : Int32) &&& 0x3f).toInt64.toUInt64).toInt64).toInt32))]) (rest := []) (lenOf pd_lIrI rfl) rfl (by show 2 * 0 + _ ≤ _; exact Nat.le_of_eq rfl) (hb hby at_53) (fun _ _ => ⟨rfl, e0, (by decide : 0 + 0 ≤ _), (by decide : 0 + 0 ≤ _)⟩)
  dsimp only [Pt.U, Pt.locs, Pt.cells, Pt.slots] at X14 l14 y14 z14 st14 hQ14
  subst l14 y14 z14
  obtain ⟨rfl, N14q, e14⟩ := hQ14
  have N14 := Fr.app N0 N14q
  have P15 : Wy p.tables e below (s₁.setTop (entryFrame m #[(.long ax), (.long bx), (.long cx), (.long dx), (.int ex)] maxLocals)) (T14.setTop (mkF m 56 #[.val (.long ax), .second, .val (.long bx), .second, .val (.long cx), .second, .val (.long dx), .second, .val (.int ex), .val (.int v2), .val (.int v5), .val (.int v8), .val (.int v11), .unset, .unset, .unset, .unset, .unset, .unset, .unset, .unset, .unset, .unset, .unset, .unset, .unset, .unset] [(.int (Flen (((ax.toUInt64 >>> ((32 : Int32) &&& 0x3f).toInt64.toUInt64).toInt64).toInt32)))])) := fun t k => P13 t (st14 _ k)
  have P16 : Wy p.tables e below (s₁.setTop (entryFrame m #[(.long ax), (.long bx), (.long cx), (.long dx), (.int ex)] maxLocals)) (T14.setTop (mkF m 58 #[.val (.long ax), .second, .val (.long bx), .second, .val (.long cx), .second, .val (.long dx), .second, .val (.int ex), .val (.int v2), .val (.int v5), .val (.int v8), .val (.int v11), .val (.int (Flen (((ax.toUInt64 >>> ((32 : Int32) &&& 0x3f).toInt64.toUInt64).toInt64).toInt32))), .unset, .unset, .unset, .unset, .unset, .unset, .unset, .unset, .unset, .unset, .unset, .unset, .unset] [])) := fun t k => P15 t (by
    show Steps p.tables e below (T14.setTop (mkF m 56 #[.val (.long ax), .second, .val (.long bx), .second, .val (.long cx), .second, .val (.long dx), .second, .val (.int ex), .val (.int v2), .val (.int v5), .val (.int v8), .val (.int v11), .unset, .unset, .unset, .unset, .unset, .unset, .unset, .unset, .unset, .unset, .unset, .unset, .unset, .unset] [(.int (Flen (((ax.toUInt64 >>> ((32 : Int32) &&& 0x3f).toInt64.toUInt64).toInt64).toInt32)))])) _
    refine XS.istore X14.here hx rfl (hb hby at_56) rfl (l' := #[.val (.long ax), .second, .val (.long bx), .second, .val (.long cx), .second, .val (.long dx), .second, .val (.int ex), .val (.int v2), .val (.int v5), .val (.int v8), .val (.int v11), .val (.int (Flen (((ax.toUInt64 >>> ((32 : Int32) &&& 0x3f).toInt64.toUInt64).toInt64).toInt32))), .unset, .unset, .unset, .unset, .unset, .unset, .unset, .unset, .unset, .unset, .unset, .unset, .unset]) rfl ?_
    exact k)
  obtain ⟨v17, hv17⟩ : ∃ z : Int32, z = (Flen (((ax.toUInt64 >>> ((32 : Int32) &&& 0x3f).toInt64.toUInt64).toInt64).toInt32)) := ⟨_, rfl⟩
  have P18 : Wy p.tables e below (s₁.setTop (entryFrame m #[(.long ax), (.long bx), (.long cx), (.long dx), (.int ex)] maxLocals)) (T14.setTop (mkF m 58 #[.val (.long ax), .second, .val (.long bx), .second, .val (.long cx), .second, .val (.long dx), .second, .val (.int ex), .val (.int v2), .val (.int v5), .val (.int v8), .val (.int v11), .val (.int v17), .unset, .unset, .unset, .unset, .unset, .unset, .unset, .unset, .unset, .unset, .unset, .unset, .unset] [])) := fun t k => by subst hv17; exact P16 t k
  have P19 : Wy p.tables e below (s₁.setTop (entryFrame m #[(.long ax), (.long bx), (.long cx), (.long dx), (.int ex)] maxLocals)) (T14.setTop (mkF m 63 #[.val (.long ax), .second, .val (.long bx), .second, .val (.long cx), .second, .val (.long dx), .second, .val (.int ex), .val (.int v2), .val (.int v5), .val (.int v8), .val (.int v11), .val (.int v17), .unset, .unset, .unset, .unset, .unset, .unset, .unset, .unset, .unset, .unset, .unset, .unset, .unset] [(.int (((bx.toUInt64 >>> ((32 : Int32) &&& 0x3f).toInt64.toUInt64).toInt64).toInt32))])) := fun t k => P18 t (by
    show Steps p.tables e below (T14.setTop (mkF m 58 #[.val (.long ax), .second, .val (.long bx), .second, .val (.long cx), .second, .val (.long dx), .second, .val (.int ex), .val (.int v2), .val (.int v5), .val (.int v8), .val (.int v11), .val (.int v17), .unset, .unset, .unset, .unset, .unset, .unset, .unset, .unset, .unset, .unset, .unset, .unset, .unset] [])) _
    refine XS.lloadN X14.here hx rfl (hb hby at_58) rfl  ?_
    show Steps p.tables e below (T14.setTop (mkF m 59 #[.val (.long ax), .second, .val (.long bx), .second, .val (.long cx), .second, .val (.long dx), .second, .val (.int ex), .val (.int v2), .val (.int v5), .val (.int v8), .val (.int v11), .val (.int v17), .unset, .unset, .unset, .unset, .unset, .unset, .unset, .unset, .unset, .unset, .unset, .unset, .unset] [(.long bx)])) _
    refine XS.bipush X14.here hx rfl (hb hby at_59) ?_
    show Steps p.tables e below (T14.setTop (mkF m 61 #[.val (.long ax), .second, .val (.long bx), .second, .val (.long cx), .second, .val (.long dx), .second, .val (.int ex), .val (.int v2), .val (.int v5), .val (.int v8), .val (.int v11), .val (.int v17), .unset, .unset, .unset, .unset, .unset, .unset, .unset, .unset, .unset, .unset, .unset, .unset, .unset] [(.int (32 : Int32)), (.long bx)])) _
    refine XS.lushr X14.here hx rfl (hb hby at_61) rfl ?_
    show Steps p.tables e below (T14.setTop (mkF m 62 #[.val (.long ax), .second, .val (.long bx), .second, .val (.long cx), .second, .val (.long dx), .second, .val (.int ex), .val (.int v2), .val (.int v5), .val (.int v8), .val (.int v11), .val (.int v17), .unset, .unset, .unset, .unset, .unset, .unset, .unset, .unset, .unset, .unset, .unset, .unset, .unset] [(.long ((bx.toUInt64 >>> ((32 : Int32) &&& 0x3f).toInt64.toUInt64).toInt64))])) _
    refine XS.l2i X14.here hx rfl (hb hby at_62) rfl ?_
    exact k)
  obtain ⟨_, _, ⟨T20, L20, k20, n20⟩, -, X20, ⟨Lc20, hQ20, l20, y20, z20⟩, st20⟩ := Jvm.LawKit.callS X14 hx (y := (⟨"com/example/leafpack/leafpack/CodeTableIsCodePinLaw", "len", "(I)I"⟩ : MethodName)) hown (mvT hZ (hw _ (List.mem_of_getElem? (i := 0) rfl))) (mvT hZ (hw _ (List.mem_of_getElem? (i := 1) rfl))) (mvT hZ (hw _ (List.mem_of_getElem? (i := 2) rfl))) (mvT hZ (hw _ (List.mem_of_getElem? (i := 3) rfl))) (by decide) (backOf (W := 0) (rm1 l Z a0 hw [] (((bx.toUInt64 >>> ((32 : Int32) &&& 0x3f).toInt64.toUInt64).toInt64).toInt32) h0 n0 Z0 ) hZ (hw _ (List.mem_of_getElem? (i := 3) rfl)) (hw _ (List.mem_of_getElem? (i := 2) rfl)) (by decide) (by decide)) (g := (mkF m 63 #[.val (.long ax), .second, .val (.long bx), .second, .val (.long cx), .second, .val (.long dx), .second, .val (.int ex), .val (.int v2), .val (.int v5), .val (.int v8), .val (.int v11), .val (.int v17), .unset, .unset, .unset, .unset, .unset, .unset, .unset, .unset, .unset, .unset, .unset, .unset, .unset] [(.int (((bx.toUInt64 >>> ((32 : Int32) &&& 0x3f).toInt64.toUInt64).toInt64).toInt32))])) rfl (by rw [hml]; rfl) (argsL := [(.int (((bx.toUInt64 >>> ((32 : Int32) &&& 0x3f).toInt64.toUInt64).toInt64).toInt32))]) (rest := []) (lenOf pd_lIrI rfl) rfl (by show 2 * 0 + _ ≤ _; exact Nat.le_of_eq rfl) (hb hby at_63) (fun _ _ => ⟨rfl, e14, (by decide : 0 + 0 ≤ _), (by decide : 0 + 0 ≤ _)⟩)
  dsimp only [Pt.U, Pt.locs, Pt.cells, Pt.slots] at X20 l20 y20 z20 st20 hQ20
  subst l20 y20 z20
  obtain ⟨rfl, N20q, e20⟩ := hQ20
  have N20 := Fr.app N14 N20q
  have P21 : Wy p.tables e below (s₁.setTop (entryFrame m #[(.long ax), (.long bx), (.long cx), (.long dx), (.int ex)] maxLocals)) (T20.setTop (mkF m 66 #[.val (.long ax), .second, .val (.long bx), .second, .val (.long cx), .second, .val (.long dx), .second, .val (.int ex), .val (.int v2), .val (.int v5), .val (.int v8), .val (.int v11), .val (.int v17), .unset, .unset, .unset, .unset, .unset, .unset, .unset, .unset, .unset, .unset, .unset, .unset, .unset] [(.int (Flen (((bx.toUInt64 >>> ((32 : Int32) &&& 0x3f).toInt64.toUInt64).toInt64).toInt32)))])) := fun t k => P19 t (st20 _ k)
  have P22 : Wy p.tables e below (s₁.setTop (entryFrame m #[(.long ax), (.long bx), (.long cx), (.long dx), (.int ex)] maxLocals)) (T20.setTop (mkF m 68 #[.val (.long ax), .second, .val (.long bx), .second, .val (.long cx), .second, .val (.long dx), .second, .val (.int ex), .val (.int v2), .val (.int v5), .val (.int v8), .val (.int v11), .val (.int v17), .val (.int (Flen (((bx.toUInt64 >>> ((32 : Int32) &&& 0x3f).toInt64.toUInt64).toInt64).toInt32))), .unset, .unset, .unset, .unset, .unset, .unset, .unset, .unset, .unset, .unset, .unset, .unset] [])) := fun t k => P21 t (by
    show Steps p.tables e below (T20.setTop (mkF m 66 #[.val (.long ax), .second, .val (.long bx), .second, .val (.long cx), .second, .val (.long dx), .second, .val (.int ex), .val (.int v2), .val (.int v5), .val (.int v8), .val (.int v11), .val (.int v17), .unset, .unset, .unset, .unset, .unset, .unset, .unset, .unset, .unset, .unset, .unset, .unset, .unset] [(.int (Flen (((bx.toUInt64 >>> ((32 : Int32) &&& 0x3f).toInt64.toUInt64).toInt64).toInt32)))])) _
    refine XS.istore X20.here hx rfl (hb hby at_66) rfl (l' := #[.val (.long ax), .second, .val (.long bx), .second, .val (.long cx), .second, .val (.long dx), .second, .val (.int ex), .val (.int v2), .val (.int v5), .val (.int v8), .val (.int v11), .val (.int v17), .val (.int (Flen (((bx.toUInt64 >>> ((32 : Int32) &&& 0x3f).toInt64.toUInt64).toInt64).toInt32))), .unset, .unset, .unset, .unset, .unset, .unset, .unset, .unset, .unset, .unset, .unset, .unset]) rfl ?_
    exact k)
  obtain ⟨v23, hv23⟩ : ∃ z : Int32, z = (Flen (((bx.toUInt64 >>> ((32 : Int32) &&& 0x3f).toInt64.toUInt64).toInt64).toInt32)) := ⟨_, rfl⟩
  have P24 : Wy p.tables e below (s₁.setTop (entryFrame m #[(.long ax), (.long bx), (.long cx), (.long dx), (.int ex)] maxLocals)) (T20.setTop (mkF m 68 #[.val (.long ax), .second, .val (.long bx), .second, .val (.long cx), .second, .val (.long dx), .second, .val (.int ex), .val (.int v2), .val (.int v5), .val (.int v8), .val (.int v11), .val (.int v17), .val (.int v23), .unset, .unset, .unset, .unset, .unset, .unset, .unset, .unset, .unset, .unset, .unset, .unset] [])) := fun t k => by subst hv23; exact P22 t k
  have P25 : Wy p.tables e below (s₁.setTop (entryFrame m #[(.long ax), (.long bx), (.long cx), (.long dx), (.int ex)] maxLocals)) (T20.setTop (mkF m 74 #[.val (.long ax), .second, .val (.long bx), .second, .val (.long cx), .second, .val (.long dx), .second, .val (.int ex), .val (.int v2), .val (.int v5), .val (.int v8), .val (.int v11), .val (.int v17), .val (.int v23), .unset, .unset, .unset, .unset, .unset, .unset, .unset, .unset, .unset, .unset, .unset, .unset] [(.int (((cx.toUInt64 >>> ((32 : Int32) &&& 0x3f).toInt64.toUInt64).toInt64).toInt32))])) := fun t k => P24 t (by
    show Steps p.tables e below (T20.setTop (mkF m 68 #[.val (.long ax), .second, .val (.long bx), .second, .val (.long cx), .second, .val (.long dx), .second, .val (.int ex), .val (.int v2), .val (.int v5), .val (.int v8), .val (.int v11), .val (.int v17), .val (.int v23), .unset, .unset, .unset, .unset, .unset, .unset, .unset, .unset, .unset, .unset, .unset, .unset] [])) _
    refine XS.lload X20.here hx rfl (hb hby at_68) rfl  ?_
    show Steps p.tables e below (T20.setTop (mkF m 70 #[.val (.long ax), .second, .val (.long bx), .second, .val (.long cx), .second, .val (.long dx), .second, .val (.int ex), .val (.int v2), .val (.int v5), .val (.int v8), .val (.int v11), .val (.int v17), .val (.int v23), .unset, .unset, .unset, .unset, .unset, .unset, .unset, .unset, .unset, .unset, .unset, .unset] [(.long cx)])) _
    refine XS.bipush X20.here hx rfl (hb hby at_70) ?_
    show Steps p.tables e below (T20.setTop (mkF m 72 #[.val (.long ax), .second, .val (.long bx), .second, .val (.long cx), .second, .val (.long dx), .second, .val (.int ex), .val (.int v2), .val (.int v5), .val (.int v8), .val (.int v11), .val (.int v17), .val (.int v23), .unset, .unset, .unset, .unset, .unset, .unset, .unset, .unset, .unset, .unset, .unset, .unset] [(.int (32 : Int32)), (.long cx)])) _
    refine XS.lushr X20.here hx rfl (hb hby at_72) rfl ?_
    show Steps p.tables e below (T20.setTop (mkF m 73 #[.val (.long ax), .second, .val (.long bx), .second, .val (.long cx), .second, .val (.long dx), .second, .val (.int ex), .val (.int v2), .val (.int v5), .val (.int v8), .val (.int v11), .val (.int v17), .val (.int v23), .unset, .unset, .unset, .unset, .unset, .unset, .unset, .unset, .unset, .unset, .unset, .unset] [(.long ((cx.toUInt64 >>> ((32 : Int32) &&& 0x3f).toInt64.toUInt64).toInt64))])) _
    refine XS.l2i X20.here hx rfl (hb hby at_73) rfl ?_
    exact k)
  obtain ⟨_, _, ⟨T26, L26, k26, n26⟩, -, X26, ⟨Lc26, hQ26, l26, y26, z26⟩, st26⟩ := Jvm.LawKit.callS X20 hx (y := (⟨"com/example/leafpack/leafpack/CodeTableIsCodePinLaw", "len", "(I)I"⟩ : MethodName)) hown (mvT hZ (hw _ (List.mem_of_getElem? (i := 0) rfl))) (mvT hZ (hw _ (List.mem_of_getElem? (i := 1) rfl))) (mvT hZ (hw _ (List.mem_of_getElem? (i := 2) rfl))) (mvT hZ (hw _ (List.mem_of_getElem? (i := 3) rfl))) (by decide) (backOf (W := 0) (rm1 l Z a0 hw [] (((cx.toUInt64 >>> ((32 : Int32) &&& 0x3f).toInt64.toUInt64).toInt64).toInt32) h0 n0 Z0 ) hZ (hw _ (List.mem_of_getElem? (i := 3) rfl)) (hw _ (List.mem_of_getElem? (i := 2) rfl)) (by decide) (by decide)) (g := (mkF m 74 #[.val (.long ax), .second, .val (.long bx), .second, .val (.long cx), .second, .val (.long dx), .second, .val (.int ex), .val (.int v2), .val (.int v5), .val (.int v8), .val (.int v11), .val (.int v17), .val (.int v23), .unset, .unset, .unset, .unset, .unset, .unset, .unset, .unset, .unset, .unset, .unset, .unset] [(.int (((cx.toUInt64 >>> ((32 : Int32) &&& 0x3f).toInt64.toUInt64).toInt64).toInt32))])) rfl (by rw [hml]; rfl) (argsL := [(.int (((cx.toUInt64 >>> ((32 : Int32) &&& 0x3f).toInt64.toUInt64).toInt64).toInt32))]) (rest := []) (lenOf pd_lIrI rfl) rfl (by show 2 * 0 + _ ≤ _; exact Nat.le_of_eq rfl) (hb hby at_74) (fun _ _ => ⟨rfl, e20, (by decide : 0 + 0 ≤ _), (by decide : 0 + 0 ≤ _)⟩)
  dsimp only [Pt.U, Pt.locs, Pt.cells, Pt.slots] at X26 l26 y26 z26 st26 hQ26
  subst l26 y26 z26
  obtain ⟨rfl, N26q, e26⟩ := hQ26
  have N26 := Fr.app N20 N26q
  have P27 : Wy p.tables e below (s₁.setTop (entryFrame m #[(.long ax), (.long bx), (.long cx), (.long dx), (.int ex)] maxLocals)) (T26.setTop (mkF m 77 #[.val (.long ax), .second, .val (.long bx), .second, .val (.long cx), .second, .val (.long dx), .second, .val (.int ex), .val (.int v2), .val (.int v5), .val (.int v8), .val (.int v11), .val (.int v17), .val (.int v23), .unset, .unset, .unset, .unset, .unset, .unset, .unset, .unset, .unset, .unset, .unset, .unset] [(.int (Flen (((cx.toUInt64 >>> ((32 : Int32) &&& 0x3f).toInt64.toUInt64).toInt64).toInt32)))])) := fun t k => P25 t (st26 _ k)
  have P28 : Wy p.tables e below (s₁.setTop (entryFrame m #[(.long ax), (.long bx), (.long cx), (.long dx), (.int ex)] maxLocals)) (T26.setTop (mkF m 79 #[.val (.long ax), .second, .val (.long bx), .second, .val (.long cx), .second, .val (.long dx), .second, .val (.int ex), .val (.int v2), .val (.int v5), .val (.int v8), .val (.int v11), .val (.int v17), .val (.int v23), .val (.int (Flen (((cx.toUInt64 >>> ((32 : Int32) &&& 0x3f).toInt64.toUInt64).toInt64).toInt32))), .unset, .unset, .unset, .unset, .unset, .unset, .unset, .unset, .unset, .unset, .unset] [])) := fun t k => P27 t (by
    show Steps p.tables e below (T26.setTop (mkF m 77 #[.val (.long ax), .second, .val (.long bx), .second, .val (.long cx), .second, .val (.long dx), .second, .val (.int ex), .val (.int v2), .val (.int v5), .val (.int v8), .val (.int v11), .val (.int v17), .val (.int v23), .unset, .unset, .unset, .unset, .unset, .unset, .unset, .unset, .unset, .unset, .unset, .unset] [(.int (Flen (((cx.toUInt64 >>> ((32 : Int32) &&& 0x3f).toInt64.toUInt64).toInt64).toInt32)))])) _
    refine XS.istore X26.here hx rfl (hb hby at_77) rfl (l' := #[.val (.long ax), .second, .val (.long bx), .second, .val (.long cx), .second, .val (.long dx), .second, .val (.int ex), .val (.int v2), .val (.int v5), .val (.int v8), .val (.int v11), .val (.int v17), .val (.int v23), .val (.int (Flen (((cx.toUInt64 >>> ((32 : Int32) &&& 0x3f).toInt64.toUInt64).toInt64).toInt32))), .unset, .unset, .unset, .unset, .unset, .unset, .unset, .unset, .unset, .unset, .unset]) rfl ?_
    exact k)
  obtain ⟨v29, hv29⟩ : ∃ z : Int32, z = (Flen (((cx.toUInt64 >>> ((32 : Int32) &&& 0x3f).toInt64.toUInt64).toInt64).toInt32)) := ⟨_, rfl⟩
  have P30 : Wy p.tables e below (s₁.setTop (entryFrame m #[(.long ax), (.long bx), (.long cx), (.long dx), (.int ex)] maxLocals)) (T26.setTop (mkF m 79 #[.val (.long ax), .second, .val (.long bx), .second, .val (.long cx), .second, .val (.long dx), .second, .val (.int ex), .val (.int v2), .val (.int v5), .val (.int v8), .val (.int v11), .val (.int v17), .val (.int v23), .val (.int v29), .unset, .unset, .unset, .unset, .unset, .unset, .unset, .unset, .unset, .unset, .unset] [])) := fun t k => by subst hv29; exact P28 t k
  have P31 : Wy p.tables e below (s₁.setTop (entryFrame m #[(.long ax), (.long bx), (.long cx), (.long dx), (.int ex)] maxLocals)) (T26.setTop (mkF m 85 #[.val (.long ax), .second, .val (.long bx), .second, .val (.long cx), .second, .val (.long dx), .second, .val (.int ex), .val (.int v2), .val (.int v5), .val (.int v8), .val (.int v11), .val (.int v17), .val (.int v23), .val (.int v29), .unset, .unset, .unset, .unset, .unset, .unset, .unset, .unset, .unset, .unset, .unset] [(.int (((dx.toUInt64 >>> ((32 : Int32) &&& 0x3f).toInt64.toUInt64).toInt64).toInt32))])) := fun t k => P30 t (by
    show Steps p.tables e below (T26.setTop (mkF m 79 #[.val (.long ax), .second, .val (.long bx), .second, .val (.long cx), .second, .val (.long dx), .second, .val (.int ex), .val (.int v2), .val (.int v5), .val (.int v8), .val (.int v11), .val (.int v17), .val (.int v23), .val (.int v29), .unset, .unset, .unset, .unset, .unset, .unset, .unset, .unset, .unset, .unset, .unset] [])) _
    refine XS.lload X26.here hx rfl (hb hby at_79) rfl  ?_
    show Steps p.tables e below (T26.setTop (mkF m 81 #[.val (.long ax), .second, .val (.long bx), .second, .val (.long cx), .second, .val (.long dx), .second, .val (.int ex), .val (.int v2), .val (.int v5), .val (.int v8), .val (.int v11), .val (.int v17), .val (.int v23), .val (.int v29), .unset, .unset, .unset, .unset, .unset, .unset, .unset, .unset, .unset, .unset, .unset] [(.long dx)])) _
    refine XS.bipush X26.here hx rfl (hb hby at_81) ?_
    show Steps p.tables e below (T26.setTop (mkF m 83 #[.val (.long ax), .second, .val (.long bx), .second, .val (.long cx), .second, .val (.long dx), .second, .val (.int ex), .val (.int v2), .val (.int v5), .val (.int v8), .val (.int v11), .val (.int v17), .val (.int v23), .val (.int v29), .unset, .unset, .unset, .unset, .unset, .unset, .unset, .unset, .unset, .unset, .unset] [(.int (32 : Int32)), (.long dx)])) _
    refine XS.lushr X26.here hx rfl (hb hby at_83) rfl ?_
    show Steps p.tables e below (T26.setTop (mkF m 84 #[.val (.long ax), .second, .val (.long bx), .second, .val (.long cx), .second, .val (.long dx), .second, .val (.int ex), .val (.int v2), .val (.int v5), .val (.int v8), .val (.int v11), .val (.int v17), .val (.int v23), .val (.int v29), .unset, .unset, .unset, .unset, .unset, .unset, .unset, .unset, .unset, .unset, .unset] [(.long ((dx.toUInt64 >>> ((32 : Int32) &&& 0x3f).toInt64.toUInt64).toInt64))])) _
    refine XS.l2i X26.here hx rfl (hb hby at_84) rfl ?_
    exact k)
  obtain ⟨_, _, ⟨T32, L32, k32, n32⟩, -, X32, ⟨Lc32, hQ32, l32, y32, z32⟩, st32⟩ := Jvm.LawKit.callS X26 hx (y := (⟨"com/example/leafpack/leafpack/CodeTableIsCodePinLaw", "len", "(I)I"⟩ : MethodName)) hown (mvT hZ (hw _ (List.mem_of_getElem? (i := 0) rfl))) (mvT hZ (hw _ (List.mem_of_getElem? (i := 1) rfl))) (mvT hZ (hw _ (List.mem_of_getElem? (i := 2) rfl))) (mvT hZ (hw _ (List.mem_of_getElem? (i := 3) rfl))) (by decide) (backOf (W := 0) (rm1 l Z a0 hw [] (((dx.toUInt64 >>> ((32 : Int32) &&& 0x3f).toInt64.toUInt64).toInt64).toInt32) h0 n0 Z0 ) hZ (hw _ (List.mem_of_getElem? (i := 3) rfl)) (hw _ (List.mem_of_getElem? (i := 2) rfl)) (by decide) (by decide)) (g := (mkF m 85 #[.val (.long ax), .second, .val (.long bx), .second, .val (.long cx), .second, .val (.long dx), .second, .val (.int ex), .val (.int v2), .val (.int v5), .val (.int v8), .val (.int v11), .val (.int v17), .val (.int v23), .val (.int v29), .unset, .unset, .unset, .unset, .unset, .unset, .unset, .unset, .unset, .unset, .unset] [(.int (((dx.toUInt64 >>> ((32 : Int32) &&& 0x3f).toInt64.toUInt64).toInt64).toInt32))])) rfl (by rw [hml]; rfl) (argsL := [(.int (((dx.toUInt64 >>> ((32 : Int32) &&& 0x3f).toInt64.toUInt64).toInt64).toInt32))]) (rest := []) (lenOf pd_lIrI rfl) rfl (by show 2 * 0 + _ ≤ _; exact Nat.le_of_eq rfl) (hb hby at_85) (fun _ _ => ⟨rfl, e26, (by decide : 0 + 0 ≤ _), (by decide : 0 + 0 ≤ _)⟩)
  dsimp only [Pt.U, Pt.locs, Pt.cells, Pt.slots] at X32 l32 y32 z32 st32 hQ32
  subst l32 y32 z32
  obtain ⟨rfl, N32q, e32⟩ := hQ32
  have N32 := Fr.app N26 N32q
  have P33 : Wy p.tables e below (s₁.setTop (entryFrame m #[(.long ax), (.long bx), (.long cx), (.long dx), (.int ex)] maxLocals)) (T32.setTop (mkF m 88 #[.val (.long ax), .second, .val (.long bx), .second, .val (.long cx), .second, .val (.long dx), .second, .val (.int ex), .val (.int v2), .val (.int v5), .val (.int v8), .val (.int v11), .val (.int v17), .val (.int v23), .val (.int v29), .unset, .unset, .unset, .unset, .unset, .unset, .unset, .unset, .unset, .unset, .unset] [(.int (Flen (((dx.toUInt64 >>> ((32 : Int32) &&& 0x3f).toInt64.toUInt64).toInt64).toInt32)))])) := fun t k => P31 t (st32 _ k)
  have P34 : Wy p.tables e below (s₁.setTop (entryFrame m #[(.long ax), (.long bx), (.long cx), (.long dx), (.int ex)] maxLocals)) (T32.setTop (mkF m 90 #[.val (.long ax), .second, .val (.long bx), .second, .val (.long cx), .second, .val (.long dx), .second, .val (.int ex), .val (.int v2), .val (.int v5), .val (.int v8), .val (.int v11), .val (.int v17), .val (.int v23), .val (.int v29), .val (.int (Flen (((dx.toUInt64 >>> ((32 : Int32) &&& 0x3f).toInt64.toUInt64).toInt64).toInt32))), .unset, .unset, .unset, .unset, .unset, .unset, .unset, .unset, .unset, .unset] [])) := fun t k => P33 t (by
    show Steps p.tables e below (T32.setTop (mkF m 88 #[.val (.long ax), .second, .val (.long bx), .second, .val (.long cx), .second, .val (.long dx), .second, .val (.int ex), .val (.int v2), .val (.int v5), .val (.int v8), .val (.int v11), .val (.int v17), .val (.int v23), .val (.int v29), .unset, .unset, .unset, .unset, .unset, .unset, .unset, .unset, .unset, .unset, .unset] [(.int (Flen (((dx.toUInt64 >>> ((32 : Int32) &&& 0x3f).toInt64.toUInt64).toInt64).toInt32)))])) _
    refine XS.istore X32.here hx rfl (hb hby at_88) rfl (l' := #[.val (.long ax), .second, .val (.long bx), .second, .val (.long cx), .second, .val (.long dx), .second, .val (.int ex), .val (.int v2), .val (.int v5), .val (.int v8), .val (.int v11), .val (.int v17), .val (.int v23), .val (.int v29), .val (.int (Flen (((dx.toUInt64 >>> ((32 : Int32) &&& 0x3f).toInt64.toUInt64).toInt64).toInt32))), .unset, .unset, .unset, .unset, .unset, .unset, .unset, .unset, .unset, .unset]) rfl ?_
    exact k)
  obtain ⟨v35, hv35⟩ : ∃ z : Int32, z = (Flen (((dx.toUInt64 >>> ((32 : Int32) &&& 0x3f).toInt64.toUInt64).toInt64).toInt32)) := ⟨_, rfl⟩
  have P36 : Wy p.tables e below (s₁.setTop (entryFrame m #[(.long ax), (.long bx), (.long cx), (.long dx), (.int ex)] maxLocals)) (T32.setTop (mkF m 90 #[.val (.long ax), .second, .val (.long bx), .second, .val (.long cx), .second, .val (.long dx), .second, .val (.int ex), .val (.int v2), .val (.int v5), .val (.int v8), .val (.int v11), .val (.int v17), .val (.int v23), .val (.int v29), .val (.int v35), .unset, .unset, .unset, .unset, .unset, .unset, .unset, .unset, .unset, .unset] [])) := fun t k => by subst hv35; exact P34 t k
  have P37 : Wy p.tables e below (s₁.setTop (entryFrame m #[(.long ax), (.long bx), (.long cx), (.long dx), (.int ex)] maxLocals)) (T32.setTop (mkF m 92 #[.val (.long ax), .second, .val (.long bx), .second, .val (.long cx), .second, .val (.long dx), .second, .val (.int ex), .val (.int v2), .val (.int v5), .val (.int v8), .val (.int v11), .val (.int v17), .val (.int v23), .val (.int v29), .val (.int v35), .unset, .unset, .unset, .unset, .unset, .unset, .unset, .unset, .unset, .unset] [(.int (ax.toInt32))])) := fun t k => P36 t (by
    show Steps p.tables e below (T32.setTop (mkF m 90 #[.val (.long ax), .second, .val (.long bx), .second, .val (.long cx), .second, .val (.long dx), .second, .val (.int ex), .val (.int v2), .val (.int v5), .val (.int v8), .val (.int v11), .val (.int v17), .val (.int v23), .val (.int v29), .val (.int v35), .unset, .unset, .unset, .unset, .unset, .unset, .unset, .unset, .unset, .unset] [])) _
    refine XS.lloadN X32.here hx rfl (hb hby at_90) rfl  ?_
    show Steps p.tables e below (T32.setTop (mkF m 91 #[.val (.long ax), .second, .val (.long bx), .second, .val (.long cx), .second, .val (.long dx), .second, .val (.int ex), .val (.int v2), .val (.int v5), .val (.int v8), .val (.int v11), .val (.int v17), .val (.int v23), .val (.int v29), .val (.int v35), .unset, .unset, .unset, .unset, .unset, .unset, .unset, .unset, .unset, .unset] [(.long ax)])) _
    refine XS.l2i X32.here hx rfl (hb hby at_91) rfl ?_
    exact k)
  obtain ⟨_, _, ⟨T38, L38, k38, n38⟩, -, X38, ⟨Lc38, hQ38, l38, y38, z38⟩, st38⟩ := Jvm.LawKit.callS X32 hx (y := (⟨"com/example/leafpack/leafpack/CodeTableIsCodePinLaw", "len", "(I)I"⟩ : MethodName)) hown (mvT hZ (hw _ (List.mem_of_getElem? (i := 0) rfl))) (mvT hZ (hw _ (List.mem_of_getElem? (i := 1) rfl))) (mvT hZ (hw _ (List.mem_of_getElem? (i := 2) rfl))) (mvT hZ (hw _ (List.mem_of_getElem? (i := 3) rfl))) (by decide) (backOf (W := 0) (rm1 l Z a0 hw [] (ax.toInt32) h0 n0 Z0 ) hZ (hw _ (List.mem_of_getElem? (i := 3) rfl)) (hw _ (List.mem_of_getElem? (i := 2) rfl)) (by decide) (by decide)) (g := (mkF m 92 #[.val (.long ax), .second, .val (.long bx), .second, .val (.long cx), .second, .val (.long dx), .second, .val (.int ex), .val (.int v2), .val (.int v5), .val (.int v8), .val (.int v11), .val (.int v17), .val (.int v23), .val (.int v29), .val (.int v35), .unset, .unset, .unset, .unset, .unset, .unset, .unset, .unset, .unset, .unset] [(.int (ax.toInt32))])) rfl (by rw [hml]; rfl) (argsL := [(.int (ax.toInt32))]) (rest := []) (lenOf pd_lIrI rfl) rfl (by show 2 * 0 + _ ≤ _; exact Nat.le_of_eq rfl) (hb hby at_92) (fun _ _ => ⟨rfl, e32, (by decide : 0 + 0 ≤ _), (by decide : 0 + 0 ≤ _)⟩)
  dsimp only [Pt.U, Pt.locs, Pt.cells, Pt.slots] at X38 l38 y38 z38 st38 hQ38
  subst l38 y38 z38
  obtain ⟨rfl, N38q, e38⟩ := hQ38
  have N38 := Fr.app N32 N38q
  have P39 : Wy p.tables e below (s₁.setTop (entryFrame m #[(.long ax), (.long bx), (.long cx), (.long dx), (.int ex)] maxLocals)) (T38.setTop (mkF m 95 #[.val (.long ax), .second, .val (.long bx), .second, .val (.long cx), .second, .val (.long dx), .second, .val (.int ex), .val (.int v2), .val (.int v5), .val (.int v8), .val (.int v11), .val (.int v17), .val (.int v23), .val (.int v29), .val (.int v35), .unset, .unset, .unset, .unset, .unset, .unset, .unset, .unset, .unset, .unset] [(.int (Flen (ax.toInt32)))])) := fun t k => P37 t (st38 _ k)
  have P40 : Wy p.tables e below (s₁.setTop (entryFrame m #[(.long ax), (.long bx), (.long cx), (.long dx), (.int ex)] maxLocals)) (T38.setTop (mkF m 97 #[.val (.long ax), .second, .val (.long bx), .second, .val (.long cx), .second, .val (.long dx), .second, .val (.int ex), .val (.int v2), .val (.int v5), .val (.int v8), .val (.int v11), .val (.int v17), .val (.int v23), .val (.int v29), .val (.int v35), .val (.int (Flen (ax.toInt32))), .unset, .unset, .unset, .unset, .unset, .unset, .unset, .unset, .unset] [])) := fun t k => P39 t (by
    show Steps p.tables e below (T38.setTop (mkF m 95 #[.val (.long ax), .second, .val (.long bx), .second, .val (.long cx), .second, .val (.long dx), .second, .val (.int ex), .val (.int v2), .val (.int v5), .val (.int v8), .val (.int v11), .val (.int v17), .val (.int v23), .val (.int v29), .val (.int v35), .unset, .unset, .unset, .unset, .unset, .unset, .unset, .unset, .unset, .unset] [(.int (Flen (ax.toInt32)))])) _
    refine XS.istore X38.here hx rfl (hb hby at_95) rfl (l' := #[.val (.long ax), .second, .val (.long bx), .second, .val (.long cx), .second, .val (.long dx), .second, .val (.int ex), .val (.int v2), .val (.int v5), .val (.int v8), .val (.int v11), .val (.int v17), .val (.int v23), .val (.int v29), .val (.int v35), .val (.int (Flen (ax.toInt32))), .unset, .unset, .unset, .unset, .unset, .unset, .unset, .unset, .unset]) rfl ?_
    exact k)
  obtain ⟨v41, hv41⟩ : ∃ z : Int32, z = (Flen (ax.toInt32)) := ⟨_, rfl⟩
  have P42 : Wy p.tables e below (s₁.setTop (entryFrame m #[(.long ax), (.long bx), (.long cx), (.long dx), (.int ex)] maxLocals)) (T38.setTop (mkF m 97 #[.val (.long ax), .second, .val (.long bx), .second, .val (.long cx), .second, .val (.long dx), .second, .val (.int ex), .val (.int v2), .val (.int v5), .val (.int v8), .val (.int v11), .val (.int v17), .val (.int v23), .val (.int v29), .val (.int v35), .val (.int v41), .unset, .unset, .unset, .unset, .unset, .unset, .unset, .unset, .unset] [])) := fun t k => by subst hv41; exact P40 t k
  have P43 : Wy p.tables e below (s₁.setTop (entryFrame m #[(.long ax), (.long bx), (.long cx), (.long dx), (.int ex)] maxLocals)) (T38.setTop (mkF m 99 #[.val (.long ax), .second, .val (.long bx), .second, .val (.long cx), .second, .val (.long dx), .second, .val (.int ex), .val (.int v2), .val (.int v5), .val (.int v8), .val (.int v11), .val (.int v17), .val (.int v23), .val (.int v29), .val (.int v35), .val (.int v41), .unset, .unset, .unset, .unset, .unset, .unset, .unset, .unset, .unset] [(.int (bx.toInt32))])) := fun t k => P42 t (by
    show Steps p.tables e below (T38.setTop (mkF m 97 #[.val (.long ax), .second, .val (.long bx), .second, .val (.long cx), .second, .val (.long dx), .second, .val (.int ex), .val (.int v2), .val (.int v5), .val (.int v8), .val (.int v11), .val (.int v17), .val (.int v23), .val (.int v29), .val (.int v35), .val (.int v41), .unset, .unset, .unset, .unset, .unset, .unset, .unset, .unset, .unset] [])) _
    refine XS.lloadN X38.here hx rfl (hb hby at_97) rfl  ?_
    show Steps p.tables e below (T38.setTop (mkF m 98 #[.val (.long ax), .second, .val (.long bx), .second, .val (.long cx), .second, .val (.long dx), .second, .val (.int ex), .val (.int v2), .val (.int v5), .val (.int v8), .val (.int v11), .val (.int v17), .val (.int v23), .val (.int v29), .val (.int v35), .val (.int v41), .unset, .unset, .unset, .unset, .unset, .unset, .unset, .unset, .unset] [(.long bx)])) _
    refine XS.l2i X38.here hx rfl (hb hby at_98) rfl ?_
    exact k)
  obtain ⟨_, _, ⟨T44, L44, k44, n44⟩, -, X44, ⟨Lc44, hQ44, l44, y44, z44⟩, st44⟩ := Jvm.LawKit.callS X38 hx (y := (⟨"com/example/leafpack/leafpack/CodeTableIsCodePinLaw", "len", "(I)I"⟩ : MethodName)) hown (mvT hZ (hw _ (List.mem_of_getElem? (i := 0) rfl))) (mvT hZ (hw _ (List.mem_of_getElem? (i := 1) rfl))) (mvT hZ (hw _ (List.mem_of_getElem? (i := 2) rfl))) (mvT hZ (hw _ (List.mem_of_getElem? (i := 3) rfl))) (by decide) (backOf (W := 0) (rm1 l Z a0 hw [] (bx.toInt32) h0 n0 Z0 ) hZ (hw _ (List.mem_of_getElem? (i := 3) rfl)) (hw _ (List.mem_of_getElem? (i := 2) rfl)) (by decide) (by decide)) (g := (mkF m 99 #[.val (.long ax), .second, .val (.long bx), .second, .val (.long cx), .second, .val (.long dx), .second, .val (.int ex), .val (.int v2), .val (.int v5), .val (.int v8), .val (.int v11), .val (.int v17), .val (.int v23), .val (.int v29), .val (.int v35), .val (.int v41), .unset, .unset, .unset, .unset, .unset, .unset, .unset, .unset, .unset] [(.int (bx.toInt32))])) rfl (by rw [hml]; rfl) (argsL := [(.int (bx.toInt32))]) (rest := []) (lenOf pd_lIrI rfl) rfl (by show 2 * 0 + _ ≤ _; exact Nat.le_of_eq rfl) (hb hby at_99) (fun _ _ => ⟨rfl, e38, (by decide : 0 + 0 ≤ _), (by decide : 0 + 0 ≤ _)⟩)
  dsimp only [Pt.U, Pt.locs, Pt.cells, Pt.slots] at X44 l44 y44 z44 st44 hQ44
  subst l44 y44 z44
  obtain ⟨rfl, N44q, e44⟩ := hQ44
  have N44 := Fr.app N38 N44q
  have P45 : Wy p.tables e below (s₁.setTop (entryFrame m #[(.long ax), (.long bx), (.long cx), (.long dx), (.int ex)] maxLocals)) (T44.setTop (mkF m 102 #[.val (.long ax), .second, .val (.long bx), .second, .val (.long cx), .second, .val (.long dx), .second, .val (.int ex), .val (.int v2), .val (.int v5), .val (.int v8), .val (.int v11), .val (.int v17), .val (.int v23), .val (.int v29), .val (.int v35), .val (.int v41), .unset, .unset, .unset, .unset, .unset, .unset, .unset, .unset, .unset] [(.int (Flen (bx.toInt32)))])) := fun t k => P43 t (st44 _ k)
  have P46 : Wy p.tables e below (s₁.setTop (entryFrame m #[(.long ax), (.long bx), (.long cx), (.long dx), (.int ex)] maxLocals)) (T44.setTop (mkF m 104 #[.val (.long ax), .second, .val (.long bx), .second, .val (.long cx), .second, .val (.long dx), .second, .val (.int ex), .val (.int v2), .val (.int v5), .val (.int v8), .val (.int v11), .val (.int v17), .val (.int v23), .val (.int v29), .val (.int v35), .val (.int v41), .val (.int (Flen (bx.toInt32))), .unset, .unset, .unset, .unset, .unset, .unset, .unset, .unset] [])) := fun t k => P45 t (by
    show Steps p.tables e below (T44.setTop (mkF m 102 #[.val (.long ax), .second, .val (.long bx), .second, .val (.long cx), .second, .val (.long dx), .second, .val (.int ex), .val (.int v2), .val (.int v5), .val (.int v8), .val (.int v11), .val (.int v17), .val (.int v23), .val (.int v29), .val (.int v35), .val (.int v41), .unset, .unset, .unset, .unset, .unset, .unset, .unset, .unset, .unset] [(.int (Flen (bx.toInt32)))])) _
    refine XS.istore X44.here hx rfl (hb hby at_102) rfl (l' := #[.val (.long ax), .second, .val (.long bx), .second, .val (.long cx), .second, .val (.long dx), .second, .val (.int ex), .val (.int v2), .val (.int v5), .val (.int v8), .val (.int v11), .val (.int v17), .val (.int v23), .val (.int v29), .val (.int v35), .val (.int v41), .val (.int (Flen (bx.toInt32))), .unset, .unset, .unset, .unset, .unset, .unset, .unset, .unset]) rfl ?_
    exact k)
  obtain ⟨v47, hv47⟩ : ∃ z : Int32, z = (Flen (bx.toInt32)) := ⟨_, rfl⟩
  have P48 : Wy p.tables e below (s₁.setTop (entryFrame m #[(.long ax), (.long bx), (.long cx), (.long dx), (.int ex)] maxLocals)) (T44.setTop (mkF m 104 #[.val (.long ax), .second, .val (.long bx), .second, .val (.long cx), .second, .val (.long dx), .second, .val (.int ex), .val (.int v2), .val (.int v5), .val (.int v8), .val (.int v11), .val (.int v17), .val (.int v23), .val (.int v29), .val (.int v35), .val (.int v41), .val (.int v47), .unset, .unset, .unset, .unset, .unset, .unset, .unset, .unset] [])) := fun t k => by subst hv47; exact P46 t k
  have P49 : Wy p.tables e below (s₁.setTop (entryFrame m #[(.long ax), (.long bx), (.long cx), (.long dx), (.int ex)] maxLocals)) (T44.setTop (mkF m 107 #[.val (.long ax), .second, .val (.long bx), .second, .val (.long cx), .second, .val (.long dx), .second, .val (.int ex), .val (.int v2), .val (.int v5), .val (.int v8), .val (.int v11), .val (.int v17), .val (.int v23), .val (.int v29), .val (.int v35), .val (.int v41), .val (.int v47), .unset, .unset, .unset, .unset, .unset, .unset, .unset, .unset] [(.int (cx.toInt32))])) := fun t k => P48 t (by
    show Steps p.tables e below (T44.setTop (mkF m 104 #[.val (.long ax), .second, .val (.long bx), .second, .val (.long cx), .second, .val (.long dx), .second, .val (.int ex), .val (.int v2), .val (.int v5), .val (.int v8), .val (.int v11), .val (.int v17), .val (.int v23), .val (.int v29), .val (.int v35), .val (.int v41), .val (.int v47), .unset, .unset, .unset, .unset, .unset, .unset, .unset, .unset] [])) _
    refine XS.lload X44.here hx rfl (hb hby at_104) rfl  ?_
    show Steps p.tables e below (T44.setTop (mkF m 106 #[.val (.long ax), .second, .val (.long bx), .second, .val (.long cx), .second, .val (.long dx), .second, .val (.int ex), .val (.int v2), .val (.int v5), .val (.int v8), .val (.int v11), .val (.int v17), .val (.int v23), .val (.int v29), .val (.int v35), .val (.int v41), .val (.int v47), .unset, .unset, .unset, .unset, .unset, .unset, .unset, .unset] [(.long cx)])) _
    refine XS.l2i X44.here hx rfl (hb hby at_106) rfl ?_
    exact k)
  obtain ⟨_, _, ⟨T50, L50, k50, n50⟩, -, X50, ⟨Lc50, hQ50, l50, y50, z50⟩, st50⟩ := Jvm.LawKit.callS X44 hx (y := (⟨"com/example/leafpack/leafpack/CodeTableIsCodePinLaw", "len", "(I)I"⟩ : MethodName)) hown (mvT hZ (hw _ (List.mem_of_getElem? (i := 0) rfl))) (mvT hZ (hw _ (List.mem_of_getElem? (i := 1) rfl))) (mvT hZ (hw _ (List.mem_of_getElem? (i := 2) rfl))) (mvT hZ (hw _ (List.mem_of_getElem? (i := 3) rfl))) (by decide) (backOf (W := 0) (rm1 l Z a0 hw [] (cx.toInt32) h0 n0 Z0 ) hZ (hw _ (List.mem_of_getElem? (i := 3) rfl)) (hw _ (List.mem_of_getElem? (i := 2) rfl)) (by decide) (by decide)) (g := (mkF m 107 #[.val (.long ax), .second, .val (.long bx), .second, .val (.long cx), .second, .val (.long dx), .second, .val (.int ex), .val (.int v2), .val (.int v5), .val (.int v8), .val (.int v11), .val (.int v17), .val (.int v23), .val (.int v29), .val (.int v35), .val (.int v41), .val (.int v47), .unset, .unset, .unset, .unset, .unset, .unset, .unset, .unset] [(.int (cx.toInt32))])) rfl (by rw [hml]; rfl) (argsL := [(.int (cx.toInt32))]) (rest := []) (lenOf pd_lIrI rfl) rfl (by show 2 * 0 + _ ≤ _; exact Nat.le_of_eq rfl) (hb hby at_107) (fun _ _ => ⟨rfl, e44, (by decide : 0 + 0 ≤ _), (by decide : 0 + 0 ≤ _)⟩)
  dsimp only [Pt.U, Pt.locs, Pt.cells, Pt.slots] at X50 l50 y50 z50 st50 hQ50
  subst l50 y50 z50
  obtain ⟨rfl, N50q, e50⟩ := hQ50
  have N50 := Fr.app N44 N50q
  have P51 : Wy p.tables e below (s₁.setTop (entryFrame m #[(.long ax), (.long bx), (.long cx), (.long dx), (.int ex)] maxLocals)) (T50.setTop (mkF m 110 #[.val (.long ax), .second, .val (.long bx), .second, .val (.long cx), .second, .val (.long dx), .second, .val (.int ex), .val (.int v2), .val (.int v5), .val (.int v8), .val (.int v11), .val (.int v17), .val (.int v23), .val (.int v29), .val (.int v35), .val (.int v41), .val (.int v47), .unset, .unset, .unset, .unset, .unset, .unset, .unset, .unset] [(.int (Flen (cx.toInt32)))])) := fun t k => P49 t (st50 _ k)
  have P52 : Wy p.tables e below (s₁.setTop (entryFrame m #[(.long ax), (.long bx), (.long cx), (.long dx), (.int ex)] maxLocals)) (T50.setTop (mkF m 112 #[.val (.long ax), .second, .val (.long bx), .second, .val (.long cx), .second, .val (.long dx), .second, .val (.int ex), .val (.int v2), .val (.int v5), .val (.int v8), .val (.int v11), .val (.int v17), .val (.int v23), .val (.int v29), .val (.int v35), .val (.int v41), .val (.int v47), .val (.int (Flen (cx.toInt32))), .unset, .unset, .unset, .unset, .unset, .unset, .unset] [])) := fun t k => P51 t (by
    show Steps p.tables e below (T50.setTop (mkF m 110 #[.val (.long ax), .second, .val (.long bx), .second, .val (.long cx), .second, .val (.long dx), .second, .val (.int ex), .val (.int v2), .val (.int v5), .val (.int v8), .val (.int v11), .val (.int v17), .val (.int v23), .val (.int v29), .val (.int v35), .val (.int v41), .val (.int v47), .unset, .unset, .unset, .unset, .unset, .unset, .unset, .unset] [(.int (Flen (cx.toInt32)))])) _
    refine XS.istore X50.here hx rfl (hb hby at_110) rfl (l' := #[.val (.long ax), .second, .val (.long bx), .second, .val (.long cx), .second, .val (.long dx), .second, .val (.int ex), .val (.int v2), .val (.int v5), .val (.int v8), .val (.int v11), .val (.int v17), .val (.int v23), .val (.int v29), .val (.int v35), .val (.int v41), .val (.int v47), .val (.int (Flen (cx.toInt32))), .unset, .unset, .unset, .unset, .unset, .unset, .unset]) rfl ?_
    exact k)
  obtain ⟨v53, hv53⟩ : ∃ z : Int32, z = (Flen (cx.toInt32)) := ⟨_, rfl⟩
  have P54 : Wy p.tables e below (s₁.setTop (entryFrame m #[(.long ax), (.long bx), (.long cx), (.long dx), (.int ex)] maxLocals)) (T50.setTop (mkF m 112 #[.val (.long ax), .second, .val (.long bx), .second, .val (.long cx), .second, .val (.long dx), .second, .val (.int ex), .val (.int v2), .val (.int v5), .val (.int v8), .val (.int v11), .val (.int v17), .val (.int v23), .val (.int v29), .val (.int v35), .val (.int v41), .val (.int v47), .val (.int v53), .unset, .unset, .unset, .unset, .unset, .unset, .unset] [])) := fun t k => by subst hv53; exact P52 t k
  have P55 : Wy p.tables e below (s₁.setTop (entryFrame m #[(.long ax), (.long bx), (.long cx), (.long dx), (.int ex)] maxLocals)) (T50.setTop (mkF m 115 #[.val (.long ax), .second, .val (.long bx), .second, .val (.long cx), .second, .val (.long dx), .second, .val (.int ex), .val (.int v2), .val (.int v5), .val (.int v8), .val (.int v11), .val (.int v17), .val (.int v23), .val (.int v29), .val (.int v35), .val (.int v41), .val (.int v47), .val (.int v53), .unset, .unset, .unset, .unset, .unset, .unset, .unset] [(.int (dx.toInt32))])) := fun t k => P54 t (by
    show Steps p.tables e below (T50.setTop (mkF m 112 #[.val (.long ax), .second, .val (.long bx), .second, .val (.long cx), .second, .val (.long dx), .second, .val (.int ex), .val (.int v2), .val (.int v5), .val (.int v8), .val (.int v11), .val (.int v17), .val (.int v23), .val (.int v29), .val (.int v35), .val (.int v41), .val (.int v47), .val (.int v53), .unset, .unset, .unset, .unset, .unset, .unset, .unset] [])) _
    refine XS.lload X50.here hx rfl (hb hby at_112) rfl  ?_
    show Steps p.tables e below (T50.setTop (mkF m 114 #[.val (.long ax), .second, .val (.long bx), .second, .val (.long cx), .second, .val (.long dx), .second, .val (.int ex), .val (.int v2), .val (.int v5), .val (.int v8), .val (.int v11), .val (.int v17), .val (.int v23), .val (.int v29), .val (.int v35), .val (.int v41), .val (.int v47), .val (.int v53), .unset, .unset, .unset, .unset, .unset, .unset, .unset] [(.long dx)])) _
    refine XS.l2i X50.here hx rfl (hb hby at_114) rfl ?_
    exact k)
  obtain ⟨_, _, ⟨T56, L56, k56, n56⟩, -, X56, ⟨Lc56, hQ56, l56, y56, z56⟩, st56⟩ := Jvm.LawKit.callS X50 hx (y := (⟨"com/example/leafpack/leafpack/CodeTableIsCodePinLaw", "len", "(I)I"⟩ : MethodName)) hown (mvT hZ (hw _ (List.mem_of_getElem? (i := 0) rfl))) (mvT hZ (hw _ (List.mem_of_getElem? (i := 1) rfl))) (mvT hZ (hw _ (List.mem_of_getElem? (i := 2) rfl))) (mvT hZ (hw _ (List.mem_of_getElem? (i := 3) rfl))) (by decide) (backOf (W := 0) (rm1 l Z a0 hw [] (dx.toInt32) h0 n0 Z0 ) hZ (hw _ (List.mem_of_getElem? (i := 3) rfl)) (hw _ (List.mem_of_getElem? (i := 2) rfl)) (by decide) (by decide)) (g := (mkF m 115 #[.val (.long ax), .second, .val (.long bx), .second, .val (.long cx), .second, .val (.long dx), .second, .val (.int ex), .val (.int v2), .val (.int v5), .val (.int v8), .val (.int v11), .val (.int v17), .val (.int v23), .val (.int v29), .val (.int v35), .val (.int v41), .val (.int v47), .val (.int v53), .unset, .unset, .unset, .unset, .unset, .unset, .unset] [(.int (dx.toInt32))])) rfl (by rw [hml]; rfl) (argsL := [(.int (dx.toInt32))]) (rest := []) (lenOf pd_lIrI rfl) rfl (by show 2 * 0 + _ ≤ _; exact Nat.le_of_eq rfl) (hb hby at_115) (fun _ _ => ⟨rfl, e50, (by decide : 0 + 0 ≤ _), (by decide : 0 + 0 ≤ _)⟩)
  dsimp only [Pt.U, Pt.locs, Pt.cells, Pt.slots] at X56 l56 y56 z56 st56 hQ56
  subst l56 y56 z56
  obtain ⟨rfl, N56q, e56⟩ := hQ56
  have N56 := Fr.app N50 N56q
  have P57 : Wy p.tables e below (s₁.setTop (entryFrame m #[(.long ax), (.long bx), (.long cx), (.long dx), (.int ex)] maxLocals)) (T56.setTop (mkF m 118 #[.val (.long ax), .second, .val (.long bx), .second, .val (.long cx), .second, .val (.long dx), .second, .val (.int ex), .val (.int v2), .val (.int v5), .val (.int v8), .val (.int v11), .val (.int v17), .val (.int v23), .val (.int v29), .val (.int v35), .val (.int v41), .val (.int v47), .val (.int v53), .unset, .unset, .unset, .unset, .unset, .unset, .unset] [(.int (Flen (dx.toInt32)))])) := fun t k => P55 t (st56 _ k)
  have P58 : Wy p.tables e below (s₁.setTop (entryFrame m #[(.long ax), (.long bx), (.long cx), (.long dx), (.int ex)] maxLocals)) (T56.setTop (mkF m 120 #[.val (.long ax), .second, .val (.long bx), .second, .val (.long cx), .second, .val (.long dx), .second, .val (.int ex), .val (.int v2), .val (.int v5), .val (.int v8), .val (.int v11), .val (.int v17), .val (.int v23), .val (.int v29), .val (.int v35), .val (.int v41), .val (.int v47), .val (.int v53), .val (.int (Flen (dx.toInt32))), .unset, .unset, .unset, .unset, .unset, .unset] [])) := fun t k => P57 t (by
    show Steps p.tables e below (T56.setTop (mkF m 118 #[.val (.long ax), .second, .val (.long bx), .second, .val (.long cx), .second, .val (.long dx), .second, .val (.int ex), .val (.int v2), .val (.int v5), .val (.int v8), .val (.int v11), .val (.int v17), .val (.int v23), .val (.int v29), .val (.int v35), .val (.int v41), .val (.int v47), .val (.int v53), .unset, .unset, .unset, .unset, .unset, .unset, .unset] [(.int (Flen (dx.toInt32)))])) _
    refine XS.istore X56.here hx rfl (hb hby at_118) rfl (l' := #[.val (.long ax), .second, .val (.long bx), .second, .val (.long cx), .second, .val (.long dx), .second, .val (.int ex), .val (.int v2), .val (.int v5), .val (.int v8), .val (.int v11), .val (.int v17), .val (.int v23), .val (.int v29), .val (.int v35), .val (.int v41), .val (.int v47), .val (.int v53), .val (.int (Flen (dx.toInt32))), .unset, .unset, .unset, .unset, .unset, .unset]) rfl ?_
    exact k)
  obtain ⟨v59, hv59⟩ : ∃ z : Int32, z = (Flen (dx.toInt32)) := ⟨_, rfl⟩
  have P60 : Wy p.tables e below (s₁.setTop (entryFrame m #[(.long ax), (.long bx), (.long cx), (.long dx), (.int ex)] maxLocals)) (T56.setTop (mkF m 120 #[.val (.long ax), .second, .val (.long bx), .second, .val (.long cx), .second, .val (.long dx), .second, .val (.int ex), .val (.int v2), .val (.int v5), .val (.int v8), .val (.int v11), .val (.int v17), .val (.int v23), .val (.int v29), .val (.int v35), .val (.int v41), .val (.int v47), .val (.int v53), .val (.int v59), .unset, .unset, .unset, .unset, .unset, .unset] [])) := fun t k => by subst hv59; exact P58 t k
  obtain ⟨m0, hml0, hmu0, hm0⟩ := own_v0 hv2
  obtain ⟨m1, hml1, hmu1, hm1⟩ := own_v1 hv5
  obtain ⟨m2, hml2, hmu2, hm2⟩ := own_v2 hv8
  obtain ⟨m3, hml3, hmu3, hm3⟩ := own_v3 hv11
  have nm_0_1 : ¬ (m0 = m1) := own_nmlt hmu0 hml1 (by decide)
  have nm_0_2 : ¬ (m0 = m2) := own_nmlt hmu0 hml2 (by decide)
  have nm_0_3 : ¬ (m0 = m3) := own_nmlt hmu0 hml3 (by decide)
  have nm_1_0 : ¬ (m1 = m0) := own_nmgt hml1 hmu0 (by decide)
  have nm_1_2 : ¬ (m1 = m2) := own_nmlt hmu1 hml2 (by decide)
  have nm_1_3 : ¬ (m1 = m3) := own_nmlt hmu1 hml3 (by decide)
  have nm_2_0 : ¬ (m2 = m0) := own_nmgt hml2 hmu0 (by decide)
  have nm_2_1 : ¬ (m2 = m1) := own_nmgt hml2 hmu1 (by decide)
  have nm_2_3 : ¬ (m2 = m3) := own_nmlt hmu2 hml3 (by decide)
  have nm_3_0 : ¬ (m3 = m0) := own_nmgt hml3 hmu0 (by decide)
  have nm_3_1 : ¬ (m3 = m1) := own_nmgt hml3 hmu1 (by decide)
  have nm_3_2 : ¬ (m3 = m2) := own_nmgt hml3 hmu2 (by decide)
  have okp0 : own_ok v17 := by rw [hv17]; exact own_oklen _
  have okf0 : own_ok v41 := by rw [hv41]; exact own_oklen _
  have okp1 : own_ok v23 := by rw [hv23]; exact own_oklen _
  have okf1 : own_ok v47 := by rw [hv47]; exact own_oklen _
  have okp2 : own_ok v29 := by rw [hv29]; exact own_oklen _
  have okf2 : own_ok v53 := by rw [hv53]; exact own_oklen _
  have okp3 : own_ok v35 := by rw [hv35]; exact own_oklen _
  have okf3 : own_ok v59 := by rw [hv59]; exact own_oklen _
  obtain ⟨T61, h61, X61, e61, E61, A61, D61, -, st61⟩ := newO X56 hx hZ hown (hw _ (List.mem_of_getElem? (i := 5) rfl)) (hw _ (List.mem_of_getElem? (i := 6) rfl)) (hw _ (List.mem_of_getElem? (i := 7) rfl)) e56 (g := (mkF m 120 #[.val (.long ax), .second, .val (.long bx), .second, .val (.long cx), .second, .val (.long dx), .second, .val (.int ex), .val (.int v2), .val (.int v5), .val (.int v8), .val (.int v11), .val (.int v17), .val (.int v23), .val (.int v29), .val (.int v35), .val (.int v41), .val (.int v47), .val (.int v53), .val (.int v59), .unset, .unset, .unset, .unset, .unset, .unset] [])) rfl (hb hby at_120) (by decide) (by decide)
  obtain ⟨b61, g61⟩ : ∃ z, z = h0.size := ⟨_, rfl⟩
  rw [← g61] at A61 D61 st61
  have g_b61 : n0 ≤ b61 := Nat.le_trans Z0 (Nat.le_of_eq g61.symm)
  have z61 : n0 ≤ h61.size := Nat.le_trans Z0 E61.1
  have F61_lengths : Fld Z h61 b61 "com/example/leafpack/leafpack/CodeTable" "lengths" "[I" .null := D61 (Or.inr (hw _ (List.mem_of_getElem? (i := 16) rfl))) (ty := (.array .int)) (by decide)
  have F61_countOfLength : Fld Z h61 b61 "com/example/leafpack/leafpack/CodeTable" "countOfLength" "[I" .null := D61 (Or.inr (hw _ (List.mem_of_getElem? (i := 18) rfl))) (ty := (.array .int)) (by decide)
  have F61_valuesOfLength : Fld Z h61 b61 "com/example/leafpack/leafpack/CodeTable" "valuesOfLength" "[J" .null := D61 (Or.inr (hw _ (List.mem_of_getElem? (i := 21) rfl))) (ty := (.array .long)) (by decide)
  have F61_kraft : Fld Z h61 b61 "com/example/leafpack/leafpack/CodeTable" "kraft" "[J" .null := D61 (Or.inr (hw _ (List.mem_of_getElem? (i := 23) rfl))) (ty := (.array .long)) (by decide)
  have F61_size : Fld Z h61 b61 "com/example/leafpack/leafpack/CodeTable" "size" "I" (.int (0 : Int32)) := D61 (Or.inl (hw _ (List.mem_of_getElem? (i := 46) rfl))) (ty := .int) (by decide)
  have F61_changes : Fld Z h61 b61 "com/example/leafpack/leafpack/CodeTable" "changes" "J" (.long (0 : Int64)) := D61 (Or.inl (hw _ (List.mem_of_getElem? (i := 48) rfl))) (ty := .long) (by decide)
  have P62 : Wy p.tables e below (s₁.setTop (entryFrame m #[(.long ax), (.long bx), (.long cx), (.long dx), (.int ex)] maxLocals)) (T61.setTop (mkF m 123 #[.val (.long ax), .second, .val (.long bx), .second, .val (.long cx), .second, .val (.long dx), .second, .val (.int ex), .val (.int v2), .val (.int v5), .val (.int v8), .val (.int v11), .val (.int v17), .val (.int v23), .val (.int v29), .val (.int v35), .val (.int v41), .val (.int v47), .val (.int v53), .val (.int v59), .unset, .unset, .unset, .unset, .unset, .unset] [(.ref b61)])) := fun t k => P60 t (st61 _ k)
  have P63 : Wy p.tables e below (s₁.setTop (entryFrame m #[(.long ax), (.long bx), (.long cx), (.long dx), (.int ex)] maxLocals)) (T61.setTop (mkF m 124 #[.val (.long ax), .second, .val (.long bx), .second, .val (.long cx), .second, .val (.long dx), .second, .val (.int ex), .val (.int v2), .val (.int v5), .val (.int v8), .val (.int v11), .val (.int v17), .val (.int v23), .val (.int v29), .val (.int v35), .val (.int v41), .val (.int v47), .val (.int v53), .val (.int v59), .unset, .unset, .unset, .unset, .unset, .unset] [(.ref b61), (.ref b61)])) := fun t k => P62 t (by
    show Steps p.tables e below (T61.setTop (mkF m 123 #[.val (.long ax), .second, .val (.long bx), .second, .val (.long cx), .second, .val (.long dx), .second, .val (.int ex), .val (.int v2), .val (.int v5), .val (.int v8), .val (.int v11), .val (.int v17), .val (.int v23), .val (.int v29), .val (.int v35), .val (.int v41), .val (.int v47), .val (.int v53), .val (.int v59), .unset, .unset, .unset, .unset, .unset, .unset] [(.ref b61)])) _
    refine XS.dup X61.here hx rfl (hb hby at_123) rfl rfl ?_
    exact k)
  obtain ⟨_, _, ⟨T64, L64, k64, n64⟩, -, X64, ⟨Lc64, hQ64, l64, y64, z64⟩, st64⟩ := X61.specialBack hx (y := (⟨"com/example/leafpack/leafpack/CodeTable", "<init>", "()V"⟩ : MethodName)) rfl hown (mvT hZ (hw _ (List.mem_of_getElem? (i := 8) rfl))) (mvT hZ (hw _ (List.mem_of_getElem? (i := 9) rfl))) (mvT hZ (hw _ (List.mem_of_getElem? (i := 10) rfl))) (by decide) (backOf (W := 1) (rm2 l Z a0 hw [] b61 h61 n0 z61 A61 F61_lengths F61_countOfLength F61_valuesOfLength F61_kraft F61_size F61_changes g_b61) hZ (hw _ (List.mem_of_getElem? (i := 10) rfl)) (hw _ (List.mem_of_getElem? (i := 7) rfl)) (by decide) (by decide)) (g := (mkF m 124 #[.val (.long ax), .second, .val (.long bx), .second, .val (.long cx), .second, .val (.long dx), .second, .val (.int ex), .val (.int v2), .val (.int v5), .val (.int v8), .val (.int v11), .val (.int v17), .val (.int v23), .val (.int v29), .val (.int v35), .val (.int v41), .val (.int v47), .val (.int v53), .val (.int v59), .unset, .unset, .unset, .unset, .unset, .unset] [(.ref b61), (.ref b61)])) rfl (by rw [hml]; rfl) (Steps.refl _) (a := b61) (argsL := []) (rest := [(.ref b61)]) (lenOf pd_lrV rfl) rfl (by show 2 * 0 + _ ≤ _; exact Nat.le_of_eq rfl) (hb hby at_124) (fun _ _ => ⟨rfl, e61, (by decide : 1 + 4 ≤ _), (by decide : 6 + 1541 ≤ _)⟩)
  dsimp only [Pt.U, Pt.locs, Pt.cells, Pt.slots] at X64 l64 y64 z64 st64 hQ64
  subst l64 y64 z64
  obtain ⟨rfl, N64q, K64q, a1, a2, a3, a4, hN, hT64⟩ := hQ64
  have N64 := Fr.app N56 N64q
  have z64k : n0 ≤ T64.heap.size := Nat.le_trans z61 K64q.1
  have A64_b61 := A61.keep K64q
  obtain ⟨-, g_a1, g_a2, g_a3, g_a4, ne_b61_a1, ne_b61_a2, ne_b61_a3, ne_b61_a4, ne_a1_a2, ne_a1_a3, ne_a1_a4, ne_a2_a3, ne_a2_a4, ne_a3_a4⟩ := hN
  have hN := own_Nof g_b61 g_a1 g_a2 g_a3 g_a4 ne_b61_a1 ne_b61_a2 ne_b61_a3 ne_b61_a4 ne_a1_a2 ne_a1_a3 ne_a1_a4 ne_a2_a3 ne_a2_a4 ne_a3_a4
  obtain ⟨E64, F64lengths, F64countOfLength, F64valuesOfLength, F64kraft, F64size, F64changes, I64a1, I64a2, I64a3, I64a4⟩ := id hT64
  have P65 : Wy p.tables e below (s₁.setTop (entryFrame m #[(.long ax), (.long bx), (.long cx), (.long dx), (.int ex)] maxLocals)) (T64.setTop (mkF m 127 #[.val (.long ax), .second, .val (.long bx), .second, .val (.long cx), .second, .val (.long dx), .second, .val (.int ex), .val (.int v2), .val (.int v5), .val (.int v8), .val (.int v11), .val (.int v17), .val (.int v23), .val (.int v29), .val (.int v35), .val (.int v41), .val (.int v47), .val (.int v53), .val (.int v59), .unset, .unset, .unset, .unset, .unset, .unset] [(.ref b61)])) := fun t k => P63 t (st64.trans k)
  have P66 : Wy p.tables e below (s₁.setTop (entryFrame m #[(.long ax), (.long bx), (.long cx), (.long dx), (.int ex)] maxLocals)) (T64.setTop (mkF m 129 #[.val (.long ax), .second, .val (.long bx), .second, .val (.long cx), .second, .val (.long dx), .second, .val (.int ex), .val (.int v2), .val (.int v5), .val (.int v8), .val (.int v11), .val (.int v17), .val (.int v23), .val (.int v29), .val (.int v35), .val (.int v41), .val (.int v47), .val (.int v53), .val (.int v59), .val (.ref b61), .unset, .unset, .unset, .unset, .unset] [])) := fun t k => P65 t (by
    show Steps p.tables e below (T64.setTop (mkF m 127 #[.val (.long ax), .second, .val (.long bx), .second, .val (.long cx), .second, .val (.long dx), .second, .val (.int ex), .val (.int v2), .val (.int v5), .val (.int v8), .val (.int v11), .val (.int v17), .val (.int v23), .val (.int v29), .val (.int v35), .val (.int v41), .val (.int v47), .val (.int v53), .val (.int v59), .unset, .unset, .unset, .unset, .unset, .unset] [(.ref b61)])) _
    refine XS.astore X64.here hx rfl (hb hby at_127) rfl rfl (l' := #[.val (.long ax), .second, .val (.long bx), .second, .val (.long cx), .second, .val (.long dx), .second, .val (.int ex), .val (.int v2), .val (.int v5), .val (.int v8), .val (.int v11), .val (.int v17), .val (.int v23), .val (.int v29), .val (.int v35), .val (.int v41), .val (.int v47), .val (.int v53), .val (.int v59), .val (.ref b61), .unset, .unset, .unset, .unset, .unset]) rfl ?_
    exact k)
  have hs0 : own_K own_k0 = 0 + 0 + 0 + 0 := rfl
  have hat0 : own_l0 m0 = (-1 : Int32) := rfl
  have hb0 : own_ok (own_l0 m0) := by rw [hat0]; exact Or.inl rfl
  have hl0 : own_wt (own_l0 m0) ≤ own_K own_k0 := by rw [hat0, hs0]; exact Nat.zero_le _
  have hk0 : own_K own_k0 < 2 ^ 300 := by rw [hs0]; exact own_small4 (own_le0) (own_le0) (own_le0) (own_le0)
  have P67 : Wy p.tables e below (s₁.setTop (entryFrame m #[(.long ax), (.long bx), (.long cx), (.long dx), (.int ex)] maxLocals)) (T64.setTop (mkF m 135 #[.val (.long ax), .second, .val (.long bx), .second, .val (.long cx), .second, .val (.long dx), .second, .val (.int ex), .val (.int v2), .val (.int v5), .val (.int v8), .val (.int v11), .val (.int v17), .val (.int v23), .val (.int v29), .val (.int v35), .val (.int v41), .val (.int v47), .val (.int v53), .val (.int v59), .val (.ref b61), .unset, .unset, .unset, .unset, .unset] [(.int v17), (.int v2), (.ref b61)])) := fun t k => P66 t (by
    show Steps p.tables e below (T64.setTop (mkF m 129 #[.val (.long ax), .second, .val (.long bx), .second, .val (.long cx), .second, .val (.long dx), .second, .val (.int ex), .val (.int v2), .val (.int v5), .val (.int v8), .val (.int v11), .val (.int v17), .val (.int v23), .val (.int v29), .val (.int v35), .val (.int v41), .val (.int v47), .val (.int v53), .val (.int v59), .val (.ref b61), .unset, .unset, .unset, .unset, .unset] [])) _
    refine XS.aload X64.here hx rfl (hb hby at_129) rfl rfl  ?_
    show Steps p.tables e below (T64.setTop (mkF m 131 #[.val (.long ax), .second, .val (.long bx), .second, .val (.long cx), .second, .val (.long dx), .second, .val (.int ex), .val (.int v2), .val (.int v5), .val (.int v8), .val (.int v11), .val (.int v17), .val (.int v23), .val (.int v29), .val (.int v35), .val (.int v41), .val (.int v47), .val (.int v53), .val (.int v59), .val (.ref b61), .unset, .unset, .unset, .unset, .unset] [(.ref b61)])) _
    refine XS.iload X64.here hx rfl (hb hby at_131) rfl  ?_
    show Steps p.tables e below (T64.setTop (mkF m 133 #[.val (.long ax), .second, .val (.long bx), .second, .val (.long cx), .second, .val (.long dx), .second, .val (.int ex), .val (.int v2), .val (.int v5), .val (.int v8), .val (.int v11), .val (.int v17), .val (.int v23), .val (.int v29), .val (.int v35), .val (.int v41), .val (.int v47), .val (.int v53), .val (.int v59), .val (.ref b61), .unset, .unset, .unset, .unset, .unset] [(.int v2), (.ref b61)])) _
    refine XS.iload X64.here hx rfl (hb hby at_133) rfl  ?_
    exact k)
  obtain ⟨cq68, kq68, q68a, q68b, q68c⟩ := isOf hZ rfl E64
  obtain ⟨_, _, ⟨T68, L68, k68, n68⟩, -, X68, ⟨Lc68, hQ68, l68, y68, z68⟩, st68⟩ := X64.virtualBack hx (y := (⟨"com/example/leafpack/leafpack/CodeTable", "set", "(II)V"⟩ : MethodName)) (z := (⟨"com/example/leafpack/leafpack/CodeTable", "set", "(II)V"⟩ : MethodName)) hown (mvT hZ (hw _ (List.mem_of_getElem? (i := 28) rfl))) (mvT hZ (hw _ (List.mem_of_getElem? (i := 29) rfl))) (notFace_of_selects (args := #[]) (mvT hZ (hw _ (List.mem_of_getElem? (i := 31) rfl)))) (mvT hZ (hw _ (List.mem_of_getElem? (i := 31) rfl))) (mvT hZ (hw _ (List.mem_of_getElem? (i := 30) rfl))) (by decide) (backOf (W := 0) (rm5 l Z a0 hw [] b61 v2 v17 a1 a2 a3 a4 own_l0 (fun _ => (0 : Int32)) (fun _ => (0 : Int64)) own_k0 (0 : Int32) (0 : Int64) m0 T64.heap n0 z64k hN hT64 hm0 (Nat.lt_of_lt_of_le hmu0 (by decide)) okp0 hb0 hl0 hk0) hZ (hw _ (List.mem_of_getElem? (i := 32) rfl)) (hw _ (List.mem_of_getElem? (i := 7) rfl)) (by decide) (by decide)) q68a q68c (g := (mkF m 135 #[.val (.long ax), .second, .val (.long bx), .second, .val (.long cx), .second, .val (.long dx), .second, .val (.int ex), .val (.int v2), .val (.int v5), .val (.int v8), .val (.int v11), .val (.int v17), .val (.int v23), .val (.int v29), .val (.int v35), .val (.int v41), .val (.int v47), .val (.int v53), .val (.int v59), .val (.ref b61), .unset, .unset, .unset, .unset, .unset] [(.int v17), (.int v2), (.ref b61)])) rfl (by rw [hml]; rfl) (Steps.refl _) (argsL := [(.int v2), (.int v17)]) (rest := []) (lenOf pd_lIIrV rfl) rfl (by show 2 * 0 + _ ≤ _; exact Nat.le_of_eq rfl) (hb hby at_135) (fun _ _ => ⟨rfl, rfl, (by decide : 5 + 0 ≤ _), (by decide : 1547 + 0 ≤ _)⟩)
  dsimp only [Pt.U, Pt.locs, Pt.cells, Pt.slots] at X68 l68 y68 z68 st68 hQ68
  subst l68 y68 z68
  obtain ⟨rfl, N68q, K68q, cf68, vf68, kr68, sz68, ch68, hK68, hT68⟩ := hQ68
  have N68 := Fr.app N64 N68q
  have z68k : n0 ≤ T68.heap.size := Nat.le_trans z64k K68q.1
  obtain ⟨E68, F68lengths, F68countOfLength, F68valuesOfLength, F68kraft, F68size, F68changes, I68a1, I68a2, I68a3, I68a4⟩ := id hT68
  have P69 : Wy p.tables e below (s₁.setTop (entryFrame m #[(.long ax), (.long bx), (.long cx), (.long dx), (.int ex)] maxLocals)) (T68.setTop (mkF m 138 #[.val (.long ax), .second, .val (.long bx), .second, .val (.long cx), .second, .val (.long dx), .second, .val (.int ex), .val (.int v2), .val (.int v5), .val (.int v8), .val (.int v11), .val (.int v17), .val (.int v23), .val (.int v29), .val (.int v35), .val (.int v41), .val (.int v47), .val (.int v53), .val (.int v59), .val (.ref b61), .unset, .unset, .unset, .unset, .unset] [])) := fun t k => P67 t (st68.trans k)
  have hs1 : own_K kr68 = own_wt v17 + 0 + 0 + 0 := own_st0 hK68 hs0 (by rw [hat0]; try rfl)
  have hat1 : (own_upd own_l0 m0 v17) m1 = (-1 : Int32) := by simp only [own_upd]; repeat' (first | rfl | rw [if_neg (by assumption)] | rw [if_pos rfl])
  have hb1 : own_ok ((own_upd own_l0 m0 v17) m1) := by rw [hat1]; exact Or.inl rfl
  have hl1 : own_wt ((own_upd own_l0 m0 v17) m1) ≤ own_K kr68 := by rw [hat1, hs1]; exact Nat.zero_le _
  have hk1 : own_K kr68 < 2 ^ 300 := by rw [hs1]; exact own_small4 (own_wtle okp0) (own_le0) (own_le0) (own_le0)
  have P70 : Wy p.tables e below (s₁.setTop (entryFrame m #[(.long ax), (.long bx), (.long cx), (.long dx), (.int ex)] maxLocals)) (T68.setTop (mkF m 144 #[.val (.long ax), .second, .val (.long bx), .second, .val (.long cx), .second, .val (.long dx), .second, .val (.int ex), .val (.int v2), .val (.int v5), .val (.int v8), .val (.int v11), .val (.int v17), .val (.int v23), .val (.int v29), .val (.int v35), .val (.int v41), .val (.int v47), .val (.int v53), .val (.int v59), .val (.ref b61), .unset, .unset, .unset, .unset, .unset] [(.int v23), (.int v5), (.ref b61)])) := fun t k => P69 t (by
    show Steps p.tables e below (T68.setTop (mkF m 138 #[.val (.long ax), .second, .val (.long bx), .second, .val (.long cx), .second, .val (.long dx), .second, .val (.int ex), .val (.int v2), .val (.int v5), .val (.int v8), .val (.int v11), .val (.int v17), .val (.int v23), .val (.int v29), .val (.int v35), .val (.int v41), .val (.int v47), .val (.int v53), .val (.int v59), .val (.ref b61), .unset, .unset, .unset, .unset, .unset] [])) _
    refine XS.aload X68.here hx rfl (hb hby at_138) rfl rfl  ?_
    show Steps p.tables e below (T68.setTop (mkF m 140 #[.val (.long ax), .second, .val (.long bx), .second, .val (.long cx), .second, .val (.long dx), .second, .val (.int ex), .val (.int v2), .val (.int v5), .val (.int v8), .val (.int v11), .val (.int v17), .val (.int v23), .val (.int v29), .val (.int v35), .val (.int v41), .val (.int v47), .val (.int v53), .val (.int v59), .val (.ref b61), .unset, .unset, .unset, .unset, .unset] [(.ref b61)])) _
    refine XS.iload X68.here hx rfl (hb hby at_140) rfl  ?_
    show Steps p.tables e below (T68.setTop (mkF m 142 #[.val (.long ax), .second, .val (.long bx), .second, .val (.long cx), .second, .val (.long dx), .second, .val (.int ex), .val (.int v2), .val (.int v5), .val (.int v8), .val (.int v11), .val (.int v17), .val (.int v23), .val (.int v29), .val (.int v35), .val (.int v41), .val (.int v47), .val (.int v53), .val (.int v59), .val (.ref b61), .unset, .unset, .unset, .unset, .unset] [(.int v5), (.ref b61)])) _
    refine XS.iload X68.here hx rfl (hb hby at_142) rfl  ?_
    exact k)
  obtain ⟨cq71, kq71, q71a, q71b, q71c⟩ := isOf hZ rfl E68
  obtain ⟨_, _, ⟨T71, L71, k71, n71⟩, -, X71, ⟨Lc71, hQ71, l71, y71, z71⟩, st71⟩ := X68.virtualBack hx (y := (⟨"com/example/leafpack/leafpack/CodeTable", "set", "(II)V"⟩ : MethodName)) (z := (⟨"com/example/leafpack/leafpack/CodeTable", "set", "(II)V"⟩ : MethodName)) hown (mvT hZ (hw _ (List.mem_of_getElem? (i := 28) rfl))) (mvT hZ (hw _ (List.mem_of_getElem? (i := 29) rfl))) (notFace_of_selects (args := #[]) (mvT hZ (hw _ (List.mem_of_getElem? (i := 31) rfl)))) (mvT hZ (hw _ (List.mem_of_getElem? (i := 31) rfl))) (mvT hZ (hw _ (List.mem_of_getElem? (i := 30) rfl))) (by decide) (backOf (W := 0) (rm5 l Z a0 hw [] b61 v5 v23 a1 a2 a3 a4 (own_upd own_l0 m0 v17) cf68 vf68 kr68 sz68 ch68 m1 T68.heap n0 z68k hN hT68 hm1 (Nat.lt_of_lt_of_le hmu1 (by decide)) okp1 hb1 hl1 hk1) hZ (hw _ (List.mem_of_getElem? (i := 32) rfl)) (hw _ (List.mem_of_getElem? (i := 7) rfl)) (by decide) (by decide)) q71a q71c (g := (mkF m 144 #[.val (.long ax), .second, .val (.long bx), .second, .val (.long cx), .second, .val (.long dx), .second, .val (.int ex), .val (.int v2), .val (.int v5), .val (.int v8), .val (.int v11), .val (.int v17), .val (.int v23), .val (.int v29), .val (.int v35), .val (.int v41), .val (.int v47), .val (.int v53), .val (.int v59), .val (.ref b61), .unset, .unset, .unset, .unset, .unset] [(.int v23), (.int v5), (.ref b61)])) rfl (by rw [hml]; rfl) (Steps.refl _) (argsL := [(.int v5), (.int v23)]) (rest := []) (lenOf pd_lIIrV rfl) rfl (by show 2 * 0 + _ ≤ _; exact Nat.le_of_eq rfl) (hb hby at_144) (fun _ _ => ⟨rfl, rfl, (by decide : 5 + 0 ≤ _), (by decide : 1547 + 0 ≤ _)⟩)
  dsimp only [Pt.U, Pt.locs, Pt.cells, Pt.slots] at X71 l71 y71 z71 st71 hQ71
  subst l71 y71 z71
  obtain ⟨rfl, N71q, K71q, cf71, vf71, kr71, sz71, ch71, hK71, hT71⟩ := hQ71
  have N71 := Fr.app N68 N71q
  have z71k : n0 ≤ T71.heap.size := Nat.le_trans z68k K71q.1
  obtain ⟨E71, F71lengths, F71countOfLength, F71valuesOfLength, F71kraft, F71size, F71changes, I71a1, I71a2, I71a3, I71a4⟩ := id hT71
  have P72 : Wy p.tables e below (s₁.setTop (entryFrame m #[(.long ax), (.long bx), (.long cx), (.long dx), (.int ex)] maxLocals)) (T71.setTop (mkF m 147 #[.val (.long ax), .second, .val (.long bx), .second, .val (.long cx), .second, .val (.long dx), .second, .val (.int ex), .val (.int v2), .val (.int v5), .val (.int v8), .val (.int v11), .val (.int v17), .val (.int v23), .val (.int v29), .val (.int v35), .val (.int v41), .val (.int v47), .val (.int v53), .val (.int v59), .val (.ref b61), .unset, .unset, .unset, .unset, .unset] [])) := fun t k => P70 t (st71.trans k)
  have hs2 : own_K kr71 = own_wt v17 + own_wt v23 + 0 + 0 := own_st1 hK71 hs1 (by rw [hat1]; try rfl)
  have hat2 : (own_upd (own_upd own_l0 m0 v17) m1 v23) m2 = (-1 : Int32) := by simp only [own_upd]; repeat' (first | rfl | rw [if_neg (by assumption)] | rw [if_pos rfl])
  have hb2 : own_ok ((own_upd (own_upd own_l0 m0 v17) m1 v23) m2) := by rw [hat2]; exact Or.inl rfl
  have hl2 : own_wt ((own_upd (own_upd own_l0 m0 v17) m1 v23) m2) ≤ own_K kr71 := by rw [hat2, hs2]; exact Nat.zero_le _
  have hk2 : own_K kr71 < 2 ^ 300 := by rw [hs2]; exact own_small4 (own_wtle okp0) (own_wtle okp1) (own_le0) (own_le0)
  have P73 : Wy p.tables e below (s₁.setTop (entryFrame m #[(.long ax), (.long bx), (.long cx), (.long dx), (.int ex)] maxLocals)) (T71.setTop (mkF m 153 #[.val (.long ax), .second, .val (.long bx), .second, .val (.long cx), .second, .val (.long dx), .second, .val (.int ex), .val (.int v2), .val (.int v5), .val (.int v8), .val (.int v11), .val (.int v17), .val (.int v23), .val (.int v29), .val (.int v35), .val (.int v41), .val (.int v47), .val (.int v53), .val (.int v59), .val (.ref b61), .unset, .unset, .unset, .unset, .unset] [(.int v29), (.int v8), (.ref b61)])) := fun t k => P72 t (by
    show Steps p.tables e below (T71.setTop (mkF m 147 #[.val (.long ax), .second, .val (.long bx), .second, .val (.long cx), .second, .val (.long dx), .second, .val (.int ex), .val (.int v2), .val (.int v5), .val (.int v8), .val (.int v11), .val (.int v17), .val (.int v23), .val (.int v29), .val (.int v35), .val (.int v41), .val (.int v47), .val (.int v53), .val (.int v59), .val (.ref b61), .unset, .unset, .unset, .unset, .unset] [])) _
    refine XS.aload X71.here hx rfl (hb hby at_147) rfl rfl  ?_
    show Steps p.tables e below (T71.setTop (mkF m 149 #[.val (.long ax), .second, .val (.long bx), .second, .val (.long cx), .second, .val (.long dx), .second, .val (.int ex), .val (.int v2), .val (.int v5), .val (.int v8), .val (.int v11), .val (.int v17), .val (.int v23), .val (.int v29), .val (.int v35), .val (.int v41), .val (.int v47), .val (.int v53), .val (.int v59), .val (.ref b61), .unset, .unset, .unset, .unset, .unset] [(.ref b61)])) _
    refine XS.iload X71.here hx rfl (hb hby at_149) rfl  ?_
    show Steps p.tables e below (T71.setTop (mkF m 151 #[.val (.long ax), .second, .val (.long bx), .second, .val (.long cx), .second, .val (.long dx), .second, .val (.int ex), .val (.int v2), .val (.int v5), .val (.int v8), .val (.int v11), .val (.int v17), .val (.int v23), .val (.int v29), .val (.int v35), .val (.int v41), .val (.int v47), .val (.int v53), .val (.int v59), .val (.ref b61), .unset, .unset, .unset, .unset, .unset] [(.int v8), (.ref b61)])) _
    refine XS.iload X71.here hx rfl (hb hby at_151) rfl  ?_
    exact k)
  obtain ⟨cq74, kq74, q74a, q74b, q74c⟩ := isOf hZ rfl E71
  obtain ⟨_, _, ⟨T74, L74, k74, n74⟩, -, X74, ⟨Lc74, hQ74, l74, y74, z74⟩, st74⟩ := X71.virtualBack hx (y := (⟨"com/example/leafpack/leafpack/CodeTable", "set", "(II)V"⟩ : MethodName)) (z := (⟨"com/example/leafpack/leafpack/CodeTable", "set", "(II)V"⟩ : MethodName)) hown (mvT hZ (hw _ (List.mem_of_getElem? (i := 28) rfl))) (mvT hZ (hw _ (List.mem_of_getElem? (i := 29) rfl))) (notFace_of_selects (args := #[]) (mvT hZ (hw _ (List.mem_of_getElem? (i := 31) rfl)))) (mvT hZ (hw _ (List.mem_of_getElem? (i := 31) rfl))) (mvT hZ (hw _ (List.mem_of_getElem? (i := 30) rfl))) (by decide) (backOf (W := 0) (rm5 l Z a0 hw [] b61 v8 v29 a1 a2 a3 a4 (own_upd (own_upd own_l0 m0 v17) m1 v23) cf71 vf71 kr71 sz71 ch71 m2 T71.heap n0 z71k hN hT71 hm2 (Nat.lt_of_lt_of_le hmu2 (by decide)) okp2 hb2 hl2 hk2) hZ (hw _ (List.mem_of_getElem? (i := 32) rfl)) (hw _ (List.mem_of_getElem? (i := 7) rfl)) (by decide) (by decide)) q74a q74c (g := (mkF m 153 #[.val (.long ax), .second, .val (.long bx), .second, .val (.long cx), .second, .val (.long dx), .second, .val (.int ex), .val (.int v2), .val (.int v5), .val (.int v8), .val (.int v11), .val (.int v17), .val (.int v23), .val (.int v29), .val (.int v35), .val (.int v41), .val (.int v47), .val (.int v53), .val (.int v59), .val (.ref b61), .unset, .unset, .unset, .unset, .unset] [(.int v29), (.int v8), (.ref b61)])) rfl (by rw [hml]; rfl) (Steps.refl _) (argsL := [(.int v8), (.int v29)]) (rest := []) (lenOf pd_lIIrV rfl) rfl (by show 2 * 0 + _ ≤ _; exact Nat.le_of_eq rfl) (hb hby at_153) (fun _ _ => ⟨rfl, rfl, (by decide : 5 + 0 ≤ _), (by decide : 1547 + 0 ≤ _)⟩)
  dsimp only [Pt.U, Pt.locs, Pt.cells, Pt.slots] at X74 l74 y74 z74 st74 hQ74
  subst l74 y74 z74
  obtain ⟨rfl, N74q, K74q, cf74, vf74, kr74, sz74, ch74, hK74, hT74⟩ := hQ74
  have N74 := Fr.app N71 N74q
  have z74k : n0 ≤ T74.heap.size := Nat.le_trans z71k K74q.1
  obtain ⟨E74, F74lengths, F74countOfLength, F74valuesOfLength, F74kraft, F74size, F74changes, I74a1, I74a2, I74a3, I74a4⟩ := id hT74
  have P75 : Wy p.tables e below (s₁.setTop (entryFrame m #[(.long ax), (.long bx), (.long cx), (.long dx), (.int ex)] maxLocals)) (T74.setTop (mkF m 156 #[.val (.long ax), .second, .val (.long bx), .second, .val (.long cx), .second, .val (.long dx), .second, .val (.int ex), .val (.int v2), .val (.int v5), .val (.int v8), .val (.int v11), .val (.int v17), .val (.int v23), .val (.int v29), .val (.int v35), .val (.int v41), .val (.int v47), .val (.int v53), .val (.int v59), .val (.ref b61), .unset, .unset, .unset, .unset, .unset] [])) := fun t k => P73 t (st74.trans k)
  have hs3 : own_K kr74 = own_wt v17 + own_wt v23 + own_wt v29 + 0 := own_st2 hK74 hs2 (by rw [hat2]; try rfl)
  have hat3 : (own_upd (own_upd (own_upd own_l0 m0 v17) m1 v23) m2 v29) m3 = (-1 : Int32) := by simp only [own_upd]; repeat' (first | rfl | rw [if_neg (by assumption)] | rw [if_pos rfl])
  have hb3 : own_ok ((own_upd (own_upd (own_upd own_l0 m0 v17) m1 v23) m2 v29) m3) := by rw [hat3]; exact Or.inl rfl
  have hl3 : own_wt ((own_upd (own_upd (own_upd own_l0 m0 v17) m1 v23) m2 v29) m3) ≤ own_K kr74 := by rw [hat3, hs3]; exact Nat.zero_le _
  have hk3 : own_K kr74 < 2 ^ 300 := by rw [hs3]; exact own_small4 (own_wtle okp0) (own_wtle okp1) (own_wtle okp2) (own_le0)
  have P76 : Wy p.tables e below (s₁.setTop (entryFrame m #[(.long ax), (.long bx), (.long cx), (.long dx), (.int ex)] maxLocals)) (T74.setTop (mkF m 162 #[.val (.long ax), .second, .val (.long bx), .second, .val (.long cx), .second, .val (.long dx), .second, .val (.int ex), .val (.int v2), .val (.int v5), .val (.int v8), .val (.int v11), .val (.int v17), .val (.int v23), .val (.int v29), .val (.int v35), .val (.int v41), .val (.int v47), .val (.int v53), .val (.int v59), .val (.ref b61), .unset, .unset, .unset, .unset, .unset] [(.int v35), (.int v11), (.ref b61)])) := fun t k => P75 t (by
    show Steps p.tables e below (T74.setTop (mkF m 156 #[.val (.long ax), .second, .val (.long bx), .second, .val (.long cx), .second, .val (.long dx), .second, .val (.int ex), .val (.int v2), .val (.int v5), .val (.int v8), .val (.int v11), .val (.int v17), .val (.int v23), .val (.int v29), .val (.int v35), .val (.int v41), .val (.int v47), .val (.int v53), .val (.int v59), .val (.ref b61), .unset, .unset, .unset, .unset, .unset] [])) _
    refine XS.aload X74.here hx rfl (hb hby at_156) rfl rfl  ?_
    show Steps p.tables e below (T74.setTop (mkF m 158 #[.val (.long ax), .second, .val (.long bx), .second, .val (.long cx), .second, .val (.long dx), .second, .val (.int ex), .val (.int v2), .val (.int v5), .val (.int v8), .val (.int v11), .val (.int v17), .val (.int v23), .val (.int v29), .val (.int v35), .val (.int v41), .val (.int v47), .val (.int v53), .val (.int v59), .val (.ref b61), .unset, .unset, .unset, .unset, .unset] [(.ref b61)])) _
    refine XS.iload X74.here hx rfl (hb hby at_158) rfl  ?_
    show Steps p.tables e below (T74.setTop (mkF m 160 #[.val (.long ax), .second, .val (.long bx), .second, .val (.long cx), .second, .val (.long dx), .second, .val (.int ex), .val (.int v2), .val (.int v5), .val (.int v8), .val (.int v11), .val (.int v17), .val (.int v23), .val (.int v29), .val (.int v35), .val (.int v41), .val (.int v47), .val (.int v53), .val (.int v59), .val (.ref b61), .unset, .unset, .unset, .unset, .unset] [(.int v11), (.ref b61)])) _
    refine XS.iload X74.here hx rfl (hb hby at_160) rfl  ?_
    exact k)
  obtain ⟨cq77, kq77, q77a, q77b, q77c⟩ := isOf hZ rfl E74
  obtain ⟨_, _, ⟨T77, L77, k77, n77⟩, -, X77, ⟨Lc77, hQ77, l77, y77, z77⟩, st77⟩ := X74.virtualBack hx (y := (⟨"com/example/leafpack/leafpack/CodeTable", "set", "(II)V"⟩ : MethodName)) (z := (⟨"com/example/leafpack/leafpack/CodeTable", "set", "(II)V"⟩ : MethodName)) hown (mvT hZ (hw _ (List.mem_of_getElem? (i := 28) rfl))) (mvT hZ (hw _ (List.mem_of_getElem? (i := 29) rfl))) (notFace_of_selects (args := #[]) (mvT hZ (hw _ (List.mem_of_getElem? (i := 31) rfl)))) (mvT hZ (hw _ (List.mem_of_getElem? (i := 31) rfl))) (mvT hZ (hw _ (List.mem_of_getElem? (i := 30) rfl))) (by decide) (backOf (W := 0) (rm5 l Z a0 hw [] b61 v11 v35 a1 a2 a3 a4 (own_upd (own_upd (own_upd own_l0 m0 v17) m1 v23) m2 v29) cf74 vf74 kr74 sz74 ch74 m3 T74.heap n0 z74k hN hT74 hm3 (Nat.lt_of_lt_of_le hmu3 (by decide)) okp3 hb3 hl3 hk3) hZ (hw _ (List.mem_of_getElem? (i := 32) rfl)) (hw _ (List.mem_of_getElem? (i := 7) rfl)) (by decide) (by decide)) q77a q77c (g := (mkF m 162 #[.val (.long ax), .second, .val (.long bx), .second, .val (.long cx), .second, .val (.long dx), .second, .val (.int ex), .val (.int v2), .val (.int v5), .val (.int v8), .val (.int v11), .val (.int v17), .val (.int v23), .val (.int v29), .val (.int v35), .val (.int v41), .val (.int v47), .val (.int v53), .val (.int v59), .val (.ref b61), .unset, .unset, .unset, .unset, .unset] [(.int v35), (.int v11), (.ref b61)])) rfl (by rw [hml]; rfl) (Steps.refl _) (argsL := [(.int v11), (.int v35)]) (rest := []) (lenOf pd_lIIrV rfl) rfl (by show 2 * 0 + _ ≤ _; exact Nat.le_of_eq rfl) (hb hby at_162) (fun _ _ => ⟨rfl, rfl, (by decide : 5 + 0 ≤ _), (by decide : 1547 + 0 ≤ _)⟩)
  dsimp only [Pt.U, Pt.locs, Pt.cells, Pt.slots] at X77 l77 y77 z77 st77 hQ77
  subst l77 y77 z77
  obtain ⟨rfl, N77q, K77q, cf77, vf77, kr77, sz77, ch77, hK77, hT77⟩ := hQ77
  have N77 := Fr.app N74 N77q
  have z77k : n0 ≤ T77.heap.size := Nat.le_trans z74k K77q.1
  obtain ⟨E77, F77lengths, F77countOfLength, F77valuesOfLength, F77kraft, F77size, F77changes, I77a1, I77a2, I77a3, I77a4⟩ := id hT77
  have P78 : Wy p.tables e below (s₁.setTop (entryFrame m #[(.long ax), (.long bx), (.long cx), (.long dx), (.int ex)] maxLocals)) (T77.setTop (mkF m 165 #[.val (.long ax), .second, .val (.long bx), .second, .val (.long cx), .second, .val (.long dx), .second, .val (.int ex), .val (.int v2), .val (.int v5), .val (.int v8), .val (.int v11), .val (.int v17), .val (.int v23), .val (.int v29), .val (.int v35), .val (.int v41), .val (.int v47), .val (.int v53), .val (.int v59), .val (.ref b61), .unset, .unset, .unset, .unset, .unset] [])) := fun t k => P76 t (st77.trans k)
  have hs4 : own_K kr77 = own_wt v17 + own_wt v23 + own_wt v29 + own_wt v35 := own_st3 hK77 hs3 (by rw [hat3]; try rfl)
  have hat4 : (own_upd (own_upd (own_upd (own_upd own_l0 m0 v17) m1 v23) m2 v29) m3 v35) m0 = v17 := by simp only [own_upd]; repeat' (first | rfl | rw [if_neg (by assumption)] | rw [if_pos rfl])
  have hb4 : own_ok ((own_upd (own_upd (own_upd (own_upd own_l0 m0 v17) m1 v23) m2 v29) m3 v35) m0) := by rw [hat4]; exact okp0
  have hl4 : own_wt ((own_upd (own_upd (own_upd (own_upd own_l0 m0 v17) m1 v23) m2 v29) m3 v35) m0) ≤ own_K kr77 := by rw [hat4, hs4]; exact (own_le4 _ _ _ _).1
  have hk4 : own_K kr77 < 2 ^ 300 := by rw [hs4]; exact own_small4 (own_wtle okp0) (own_wtle okp1) (own_wtle okp2) (own_wtle okp3)
  have P79 : Wy p.tables e below (s₁.setTop (entryFrame m #[(.long ax), (.long bx), (.long cx), (.long dx), (.int ex)] maxLocals)) (T77.setTop (mkF m 171 #[.val (.long ax), .second, .val (.long bx), .second, .val (.long cx), .second, .val (.long dx), .second, .val (.int ex), .val (.int v2), .val (.int v5), .val (.int v8), .val (.int v11), .val (.int v17), .val (.int v23), .val (.int v29), .val (.int v35), .val (.int v41), .val (.int v47), .val (.int v53), .val (.int v59), .val (.ref b61), .unset, .unset, .unset, .unset, .unset] [(.int v41), (.int v2), (.ref b61)])) := fun t k => P78 t (by
    show Steps p.tables e below (T77.setTop (mkF m 165 #[.val (.long ax), .second, .val (.long bx), .second, .val (.long cx), .second, .val (.long dx), .second, .val (.int ex), .val (.int v2), .val (.int v5), .val (.int v8), .val (.int v11), .val (.int v17), .val (.int v23), .val (.int v29), .val (.int v35), .val (.int v41), .val (.int v47), .val (.int v53), .val (.int v59), .val (.ref b61), .unset, .unset, .unset, .unset, .unset] [])) _
    refine XS.aload X77.here hx rfl (hb hby at_165) rfl rfl  ?_
    show Steps p.tables e below (T77.setTop (mkF m 167 #[.val (.long ax), .second, .val (.long bx), .second, .val (.long cx), .second, .val (.long dx), .second, .val (.int ex), .val (.int v2), .val (.int v5), .val (.int v8), .val (.int v11), .val (.int v17), .val (.int v23), .val (.int v29), .val (.int v35), .val (.int v41), .val (.int v47), .val (.int v53), .val (.int v59), .val (.ref b61), .unset, .unset, .unset, .unset, .unset] [(.ref b61)])) _
    refine XS.iload X77.here hx rfl (hb hby at_167) rfl  ?_
    show Steps p.tables e below (T77.setTop (mkF m 169 #[.val (.long ax), .second, .val (.long bx), .second, .val (.long cx), .second, .val (.long dx), .second, .val (.int ex), .val (.int v2), .val (.int v5), .val (.int v8), .val (.int v11), .val (.int v17), .val (.int v23), .val (.int v29), .val (.int v35), .val (.int v41), .val (.int v47), .val (.int v53), .val (.int v59), .val (.ref b61), .unset, .unset, .unset, .unset, .unset] [(.int v2), (.ref b61)])) _
    refine XS.iload X77.here hx rfl (hb hby at_169) rfl  ?_
    exact k)
  obtain ⟨cq80, kq80, q80a, q80b, q80c⟩ := isOf hZ rfl E77
  obtain ⟨_, _, ⟨T80, L80, k80, n80⟩, -, X80, ⟨Lc80, hQ80, l80, y80, z80⟩, st80⟩ := X77.virtualBack hx (y := (⟨"com/example/leafpack/leafpack/CodeTable", "set", "(II)V"⟩ : MethodName)) (z := (⟨"com/example/leafpack/leafpack/CodeTable", "set", "(II)V"⟩ : MethodName)) hown (mvT hZ (hw _ (List.mem_of_getElem? (i := 28) rfl))) (mvT hZ (hw _ (List.mem_of_getElem? (i := 29) rfl))) (notFace_of_selects (args := #[]) (mvT hZ (hw _ (List.mem_of_getElem? (i := 31) rfl)))) (mvT hZ (hw _ (List.mem_of_getElem? (i := 31) rfl))) (mvT hZ (hw _ (List.mem_of_getElem? (i := 30) rfl))) (by decide) (backOf (W := 0) (rm5 l Z a0 hw [] b61 v2 v41 a1 a2 a3 a4 (own_upd (own_upd (own_upd (own_upd own_l0 m0 v17) m1 v23) m2 v29) m3 v35) cf77 vf77 kr77 sz77 ch77 m0 T77.heap n0 z77k hN hT77 hm0 (Nat.lt_of_lt_of_le hmu0 (by decide)) okf0 hb4 hl4 hk4) hZ (hw _ (List.mem_of_getElem? (i := 32) rfl)) (hw _ (List.mem_of_getElem? (i := 7) rfl)) (by decide) (by decide)) q80a q80c (g := (mkF m 171 #[.val (.long ax), .second, .val (.long bx), .second, .val (.long cx), .second, .val (.long dx), .second, .val (.int ex), .val (.int v2), .val (.int v5), .val (.int v8), .val (.int v11), .val (.int v17), .val (.int v23), .val (.int v29), .val (.int v35), .val (.int v41), .val (.int v47), .val (.int v53), .val (.int v59), .val (.ref b61), .unset, .unset, .unset, .unset, .unset] [(.int v41), (.int v2), (.ref b61)])) rfl (by rw [hml]; rfl) (Steps.refl _) (argsL := [(.int v2), (.int v41)]) (rest := []) (lenOf pd_lIIrV rfl) rfl (by show 2 * 0 + _ ≤ _; exact Nat.le_of_eq rfl) (hb hby at_171) (fun _ _ => ⟨rfl, rfl, (by decide : 5 + 0 ≤ _), (by decide : 1547 + 0 ≤ _)⟩)
  dsimp only [Pt.U, Pt.locs, Pt.cells, Pt.slots] at X80 l80 y80 z80 st80 hQ80
  subst l80 y80 z80
  obtain ⟨rfl, N80q, K80q, cf80, vf80, kr80, sz80, ch80, hK80, hT80⟩ := hQ80
  have N80 := Fr.app N77 N80q
  have z80k : n0 ≤ T80.heap.size := Nat.le_trans z77k K80q.1
  obtain ⟨E80, F80lengths, F80countOfLength, F80valuesOfLength, F80kraft, F80size, F80changes, I80a1, I80a2, I80a3, I80a4⟩ := id hT80
  have P81 : Wy p.tables e below (s₁.setTop (entryFrame m #[(.long ax), (.long bx), (.long cx), (.long dx), (.int ex)] maxLocals)) (T80.setTop (mkF m 174 #[.val (.long ax), .second, .val (.long bx), .second, .val (.long cx), .second, .val (.long dx), .second, .val (.int ex), .val (.int v2), .val (.int v5), .val (.int v8), .val (.int v11), .val (.int v17), .val (.int v23), .val (.int v29), .val (.int v35), .val (.int v41), .val (.int v47), .val (.int v53), .val (.int v59), .val (.ref b61), .unset, .unset, .unset, .unset, .unset] [])) := fun t k => P79 t (st80.trans k)
  have hs5 : own_K kr80 = own_wt v41 + own_wt v23 + own_wt v29 + own_wt v35 := own_st0 hK80 hs4 (by rw [hat4])
  have hat5 : (own_upd (own_upd (own_upd (own_upd (own_upd own_l0 m0 v17) m1 v23) m2 v29) m3 v35) m0 v41) m1 = v23 := by simp only [own_upd]; repeat' (first | rfl | rw [if_neg (by assumption)] | rw [if_pos rfl])
  have hb5 : own_ok ((own_upd (own_upd (own_upd (own_upd (own_upd own_l0 m0 v17) m1 v23) m2 v29) m3 v35) m0 v41) m1) := by rw [hat5]; exact okp1
  have hl5 : own_wt ((own_upd (own_upd (own_upd (own_upd (own_upd own_l0 m0 v17) m1 v23) m2 v29) m3 v35) m0 v41) m1) ≤ own_K kr80 := by rw [hat5, hs5]; exact (own_le4 _ _ _ _).2.1
  have hk5 : own_K kr80 < 2 ^ 300 := by rw [hs5]; exact own_small4 (own_wtle okf0) (own_wtle okp1) (own_wtle okp2) (own_wtle okp3)
  have P82 : Wy p.tables e below (s₁.setTop (entryFrame m #[(.long ax), (.long bx), (.long cx), (.long dx), (.int ex)] maxLocals)) (T80.setTop (mkF m 180 #[.val (.long ax), .second, .val (.long bx), .second, .val (.long cx), .second, .val (.long dx), .second, .val (.int ex), .val (.int v2), .val (.int v5), .val (.int v8), .val (.int v11), .val (.int v17), .val (.int v23), .val (.int v29), .val (.int v35), .val (.int v41), .val (.int v47), .val (.int v53), .val (.int v59), .val (.ref b61), .unset, .unset, .unset, .unset, .unset] [(.int v47), (.int v5), (.ref b61)])) := fun t k => P81 t (by
    show Steps p.tables e below (T80.setTop (mkF m 174 #[.val (.long ax), .second, .val (.long bx), .second, .val (.long cx), .second, .val (.long dx), .second, .val (.int ex), .val (.int v2), .val (.int v5), .val (.int v8), .val (.int v11), .val (.int v17), .val (.int v23), .val (.int v29), .val (.int v35), .val (.int v41), .val (.int v47), .val (.int v53), .val (.int v59), .val (.ref b61), .unset, .unset, .unset, .unset, .unset] [])) _
    refine XS.aload X80.here hx rfl (hb hby at_174) rfl rfl  ?_
    show Steps p.tables e below (T80.setTop (mkF m 176 #[.val (.long ax), .second, .val (.long bx), .second, .val (.long cx), .second, .val (.long dx), .second, .val (.int ex), .val (.int v2), .val (.int v5), .val (.int v8), .val (.int v11), .val (.int v17), .val (.int v23), .val (.int v29), .val (.int v35), .val (.int v41), .val (.int v47), .val (.int v53), .val (.int v59), .val (.ref b61), .unset, .unset, .unset, .unset, .unset] [(.ref b61)])) _
    refine XS.iload X80.here hx rfl (hb hby at_176) rfl  ?_
    show Steps p.tables e below (T80.setTop (mkF m 178 #[.val (.long ax), .second, .val (.long bx), .second, .val (.long cx), .second, .val (.long dx), .second, .val (.int ex), .val (.int v2), .val (.int v5), .val (.int v8), .val (.int v11), .val (.int v17), .val (.int v23), .val (.int v29), .val (.int v35), .val (.int v41), .val (.int v47), .val (.int v53), .val (.int v59), .val (.ref b61), .unset, .unset, .unset, .unset, .unset] [(.int v5), (.ref b61)])) _
    refine XS.iload X80.here hx rfl (hb hby at_178) rfl  ?_
    exact k)
  obtain ⟨cq83, kq83, q83a, q83b, q83c⟩ := isOf hZ rfl E80
  obtain ⟨_, _, ⟨T83, L83, k83, n83⟩, -, X83, ⟨Lc83, hQ83, l83, y83, z83⟩, st83⟩ := X80.virtualBack hx (y := (⟨"com/example/leafpack/leafpack/CodeTable", "set", "(II)V"⟩ : MethodName)) (z := (⟨"com/example/leafpack/leafpack/CodeTable", "set", "(II)V"⟩ : MethodName)) hown (mvT hZ (hw _ (List.mem_of_getElem? (i := 28) rfl))) (mvT hZ (hw _ (List.mem_of_getElem? (i := 29) rfl))) (notFace_of_selects (args := #[]) (mvT hZ (hw _ (List.mem_of_getElem? (i := 31) rfl)))) (mvT hZ (hw _ (List.mem_of_getElem? (i := 31) rfl))) (mvT hZ (hw _ (List.mem_of_getElem? (i := 30) rfl))) (by decide) (backOf (W := 0) (rm5 l Z a0 hw [] b61 v5 v47 a1 a2 a3 a4 (own_upd (own_upd (own_upd (own_upd (own_upd own_l0 m0 v17) m1 v23) m2 v29) m3 v35) m0 v41) cf80 vf80 kr80 sz80 ch80 m1 T80.heap n0 z80k hN hT80 hm1 (Nat.lt_of_lt_of_le hmu1 (by decide)) okf1 hb5 hl5 hk5) hZ (hw _ (List.mem_of_getElem? (i := 32) rfl)) (hw _ (List.mem_of_getElem? (i := 7) rfl)) (by decide) (by decide)) q83a q83c (g := (mkF m 180 #[.val (.long ax), .second, .val (.long bx), .second, .val (.long cx), .second, .val (.long dx), .second, .val (.int ex), .val (.int v2), .val (.int v5), .val (.int v8), .val (.int v11), .val (.int v17), .val (.int v23), .val (.int v29), .val (.int v35), .val (.int v41), .val (.int v47), .val (.int v53), .val (.int v59), .val (.ref b61), .unset, .unset, .unset, .unset, .unset] [(.int v47), (.int v5), (.ref b61)])) rfl (by rw [hml]; rfl) (Steps.refl _) (argsL := [(.int v5), (.int v47)]) (rest := []) (lenOf pd_lIIrV rfl) rfl (by show 2 * 0 + _ ≤ _; exact Nat.le_of_eq rfl) (hb hby at_180) (fun _ _ => ⟨rfl, rfl, (by decide : 5 + 0 ≤ _), (by decide : 1547 + 0 ≤ _)⟩)
  dsimp only [Pt.U, Pt.locs, Pt.cells, Pt.slots] at X83 l83 y83 z83 st83 hQ83
  subst l83 y83 z83
  obtain ⟨rfl, N83q, K83q, cf83, vf83, kr83, sz83, ch83, hK83, hT83⟩ := hQ83
  have N83 := Fr.app N80 N83q
  have z83k : n0 ≤ T83.heap.size := Nat.le_trans z80k K83q.1
  obtain ⟨E83, F83lengths, F83countOfLength, F83valuesOfLength, F83kraft, F83size, F83changes, I83a1, I83a2, I83a3, I83a4⟩ := id hT83
  have P84 : Wy p.tables e below (s₁.setTop (entryFrame m #[(.long ax), (.long bx), (.long cx), (.long dx), (.int ex)] maxLocals)) (T83.setTop (mkF m 183 #[.val (.long ax), .second, .val (.long bx), .second, .val (.long cx), .second, .val (.long dx), .second, .val (.int ex), .val (.int v2), .val (.int v5), .val (.int v8), .val (.int v11), .val (.int v17), .val (.int v23), .val (.int v29), .val (.int v35), .val (.int v41), .val (.int v47), .val (.int v53), .val (.int v59), .val (.ref b61), .unset, .unset, .unset, .unset, .unset] [])) := fun t k => P82 t (st83.trans k)
  have hs6 : own_K kr83 = own_wt v41 + own_wt v47 + own_wt v29 + own_wt v35 := own_st1 hK83 hs5 (by rw [hat5])
  have hat6 : (own_upd (own_upd (own_upd (own_upd (own_upd (own_upd own_l0 m0 v17) m1 v23) m2 v29) m3 v35) m0 v41) m1 v47) m2 = v29 := by simp only [own_upd]; repeat' (first | rfl | rw [if_neg (by assumption)] | rw [if_pos rfl])
  have hb6 : own_ok ((own_upd (own_upd (own_upd (own_upd (own_upd (own_upd own_l0 m0 v17) m1 v23) m2 v29) m3 v35) m0 v41) m1 v47) m2) := by rw [hat6]; exact okp2
  have hl6 : own_wt ((own_upd (own_upd (own_upd (own_upd (own_upd (own_upd own_l0 m0 v17) m1 v23) m2 v29) m3 v35) m0 v41) m1 v47) m2) ≤ own_K kr83 := by rw [hat6, hs6]; exact (own_le4 _ _ _ _).2.2.1
  have hk6 : own_K kr83 < 2 ^ 300 := by rw [hs6]; exact own_small4 (own_wtle okf0) (own_wtle okf1) (own_wtle okp2) (own_wtle okp3)
  have P85 : Wy p.tables e below (s₁.setTop (entryFrame m #[(.long ax), (.long bx), (.long cx), (.long dx), (.int ex)] maxLocals)) (T83.setTop (mkF m 189 #[.val (.long ax), .second, .val (.long bx), .second, .val (.long cx), .second, .val (.long dx), .second, .val (.int ex), .val (.int v2), .val (.int v5), .val (.int v8), .val (.int v11), .val (.int v17), .val (.int v23), .val (.int v29), .val (.int v35), .val (.int v41), .val (.int v47), .val (.int v53), .val (.int v59), .val (.ref b61), .unset, .unset, .unset, .unset, .unset] [(.int v53), (.int v8), (.ref b61)])) := fun t k => P84 t (by
    show Steps p.tables e below (T83.setTop (mkF m 183 #[.val (.long ax), .second, .val (.long bx), .second, .val (.long cx), .second, .val (.long dx), .second, .val (.int ex), .val (.int v2), .val (.int v5), .val (.int v8), .val (.int v11), .val (.int v17), .val (.int v23), .val (.int v29), .val (.int v35), .val (.int v41), .val (.int v47), .val (.int v53), .val (.int v59), .val (.ref b61), .unset, .unset, .unset, .unset, .unset] [])) _
    refine XS.aload X83.here hx rfl (hb hby at_183) rfl rfl  ?_
    show Steps p.tables e below (T83.setTop (mkF m 185 #[.val (.long ax), .second, .val (.long bx), .second, .val (.long cx), .second, .val (.long dx), .second, .val (.int ex), .val (.int v2), .val (.int v5), .val (.int v8), .val (.int v11), .val (.int v17), .val (.int v23), .val (.int v29), .val (.int v35), .val (.int v41), .val (.int v47), .val (.int v53), .val (.int v59), .val (.ref b61), .unset, .unset, .unset, .unset, .unset] [(.ref b61)])) _
    refine XS.iload X83.here hx rfl (hb hby at_185) rfl  ?_
    show Steps p.tables e below (T83.setTop (mkF m 187 #[.val (.long ax), .second, .val (.long bx), .second, .val (.long cx), .second, .val (.long dx), .second, .val (.int ex), .val (.int v2), .val (.int v5), .val (.int v8), .val (.int v11), .val (.int v17), .val (.int v23), .val (.int v29), .val (.int v35), .val (.int v41), .val (.int v47), .val (.int v53), .val (.int v59), .val (.ref b61), .unset, .unset, .unset, .unset, .unset] [(.int v8), (.ref b61)])) _
    refine XS.iload X83.here hx rfl (hb hby at_187) rfl  ?_
    exact k)
  obtain ⟨cq86, kq86, q86a, q86b, q86c⟩ := isOf hZ rfl E83
  obtain ⟨_, _, ⟨T86, L86, k86, n86⟩, -, X86, ⟨Lc86, hQ86, l86, y86, z86⟩, st86⟩ := X83.virtualBack hx (y := (⟨"com/example/leafpack/leafpack/CodeTable", "set", "(II)V"⟩ : MethodName)) (z := (⟨"com/example/leafpack/leafpack/CodeTable", "set", "(II)V"⟩ : MethodName)) hown (mvT hZ (hw _ (List.mem_of_getElem? (i := 28) rfl))) (mvT hZ (hw _ (List.mem_of_getElem? (i := 29) rfl))) (notFace_of_selects (args := #[]) (mvT hZ (hw _ (List.mem_of_getElem? (i := 31) rfl)))) (mvT hZ (hw _ (List.mem_of_getElem? (i := 31) rfl))) (mvT hZ (hw _ (List.mem_of_getElem? (i := 30) rfl))) (by decide) (backOf (W := 0) (rm5 l Z a0 hw [] b61 v8 v53 a1 a2 a3 a4 (own_upd (own_upd (own_upd (own_upd (own_upd (own_upd own_l0 m0 v17) m1 v23) m2 v29) m3 v35) m0 v41) m1 v47) cf83 vf83 kr83 sz83 ch83 m2 T83.heap n0 z83k hN hT83 hm2 (Nat.lt_of_lt_of_le hmu2 (by decide)) okf2 hb6 hl6 hk6) hZ (hw _ (List.mem_of_getElem? (i := 32) rfl)) (hw _ (List.mem_of_getElem? (i := 7) rfl)) (by decide) (by decide)) q86a q86c (g := (mkF m 189 #[.val (.long ax), .second, .val (.long bx), .second, .val (.long cx), .second, .val (.long dx), .second, .val (.int ex), .val (.int v2), .val (.int v5), .val (.int v8), .val (.int v11), .val (.int v17), .val (.int v23), .val (.int v29), .val (.int v35), .val (.int v41), .val (.int v47), .val (.int v53), .val (.int v59), .val (.ref b61), .unset, .unset, .unset, .unset, .unset] [(.int v53), (.int v8), (.ref b61)])) rfl (by rw [hml]; rfl) (Steps.refl _) (argsL := [(.int v8), (.int v53)]) (rest := []) (lenOf pd_lIIrV rfl) rfl (by show 2 * 0 + _ ≤ _; exact Nat.le_of_eq rfl) (hb hby at_189) (fun _ _ => ⟨rfl, rfl, (by decide : 5 + 0 ≤ _), (by decide : 1547 + 0 ≤ _)⟩)
  dsimp only [Pt.U, Pt.locs, Pt.cells, Pt.slots] at X86 l86 y86 z86 st86 hQ86
  subst l86 y86 z86
  obtain ⟨rfl, N86q, K86q, cf86, vf86, kr86, sz86, ch86, hK86, hT86⟩ := hQ86
  have N86 := Fr.app N83 N86q
  have z86k : n0 ≤ T86.heap.size := Nat.le_trans z83k K86q.1
  obtain ⟨E86, F86lengths, F86countOfLength, F86valuesOfLength, F86kraft, F86size, F86changes, I86a1, I86a2, I86a3, I86a4⟩ := id hT86
  have P87 : Wy p.tables e below (s₁.setTop (entryFrame m #[(.long ax), (.long bx), (.long cx), (.long dx), (.int ex)] maxLocals)) (T86.setTop (mkF m 192 #[.val (.long ax), .second, .val (.long bx), .second, .val (.long cx), .second, .val (.long dx), .second, .val (.int ex), .val (.int v2), .val (.int v5), .val (.int v8), .val (.int v11), .val (.int v17), .val (.int v23), .val (.int v29), .val (.int v35), .val (.int v41), .val (.int v47), .val (.int v53), .val (.int v59), .val (.ref b61), .unset, .unset, .unset, .unset, .unset] [])) := fun t k => P85 t (st86.trans k)
  have hs7 : own_K kr86 = own_wt v41 + own_wt v47 + own_wt v53 + own_wt v35 := own_st2 hK86 hs6 (by rw [hat6])
  have hat7 : (own_upd (own_upd (own_upd (own_upd (own_upd (own_upd (own_upd own_l0 m0 v17) m1 v23) m2 v29) m3 v35) m0 v41) m1 v47) m2 v53) m3 = v35 := by simp only [own_upd]; repeat' (first | rfl | rw [if_neg (by assumption)] | rw [if_pos rfl])
  have hb7 : own_ok ((own_upd (own_upd (own_upd (own_upd (own_upd (own_upd (own_upd own_l0 m0 v17) m1 v23) m2 v29) m3 v35) m0 v41) m1 v47) m2 v53) m3) := by rw [hat7]; exact okp3
  have hl7 : own_wt ((own_upd (own_upd (own_upd (own_upd (own_upd (own_upd (own_upd own_l0 m0 v17) m1 v23) m2 v29) m3 v35) m0 v41) m1 v47) m2 v53) m3) ≤ own_K kr86 := by rw [hat7, hs7]; exact (own_le4 _ _ _ _).2.2.2
  have hk7 : own_K kr86 < 2 ^ 300 := by rw [hs7]; exact own_small4 (own_wtle okf0) (own_wtle okf1) (own_wtle okf2) (own_wtle okp3)
  have P88 : Wy p.tables e below (s₁.setTop (entryFrame m #[(.long ax), (.long bx), (.long cx), (.long dx), (.int ex)] maxLocals)) (T86.setTop (mkF m 198 #[.val (.long ax), .second, .val (.long bx), .second, .val (.long cx), .second, .val (.long dx), .second, .val (.int ex), .val (.int v2), .val (.int v5), .val (.int v8), .val (.int v11), .val (.int v17), .val (.int v23), .val (.int v29), .val (.int v35), .val (.int v41), .val (.int v47), .val (.int v53), .val (.int v59), .val (.ref b61), .unset, .unset, .unset, .unset, .unset] [(.int v59), (.int v11), (.ref b61)])) := fun t k => P87 t (by
    show Steps p.tables e below (T86.setTop (mkF m 192 #[.val (.long ax), .second, .val (.long bx), .second, .val (.long cx), .second, .val (.long dx), .second, .val (.int ex), .val (.int v2), .val (.int v5), .val (.int v8), .val (.int v11), .val (.int v17), .val (.int v23), .val (.int v29), .val (.int v35), .val (.int v41), .val (.int v47), .val (.int v53), .val (.int v59), .val (.ref b61), .unset, .unset, .unset, .unset, .unset] [])) _
    refine XS.aload X86.here hx rfl (hb hby at_192) rfl rfl  ?_
    show Steps p.tables e below (T86.setTop (mkF m 194 #[.val (.long ax), .second, .val (.long bx), .second, .val (.long cx), .second, .val (.long dx), .second, .val (.int ex), .val (.int v2), .val (.int v5), .val (.int v8), .val (.int v11), .val (.int v17), .val (.int v23), .val (.int v29), .val (.int v35), .val (.int v41), .val (.int v47), .val (.int v53), .val (.int v59), .val (.ref b61), .unset, .unset, .unset, .unset, .unset] [(.ref b61)])) _
    refine XS.iload X86.here hx rfl (hb hby at_194) rfl  ?_
    show Steps p.tables e below (T86.setTop (mkF m 196 #[.val (.long ax), .second, .val (.long bx), .second, .val (.long cx), .second, .val (.long dx), .second, .val (.int ex), .val (.int v2), .val (.int v5), .val (.int v8), .val (.int v11), .val (.int v17), .val (.int v23), .val (.int v29), .val (.int v35), .val (.int v41), .val (.int v47), .val (.int v53), .val (.int v59), .val (.ref b61), .unset, .unset, .unset, .unset, .unset] [(.int v11), (.ref b61)])) _
    refine XS.iload X86.here hx rfl (hb hby at_196) rfl  ?_
    exact k)
  obtain ⟨cq89, kq89, q89a, q89b, q89c⟩ := isOf hZ rfl E86
  obtain ⟨_, _, ⟨T89, L89, k89, n89⟩, -, X89, ⟨Lc89, hQ89, l89, y89, z89⟩, st89⟩ := X86.virtualBack hx (y := (⟨"com/example/leafpack/leafpack/CodeTable", "set", "(II)V"⟩ : MethodName)) (z := (⟨"com/example/leafpack/leafpack/CodeTable", "set", "(II)V"⟩ : MethodName)) hown (mvT hZ (hw _ (List.mem_of_getElem? (i := 28) rfl))) (mvT hZ (hw _ (List.mem_of_getElem? (i := 29) rfl))) (notFace_of_selects (args := #[]) (mvT hZ (hw _ (List.mem_of_getElem? (i := 31) rfl)))) (mvT hZ (hw _ (List.mem_of_getElem? (i := 31) rfl))) (mvT hZ (hw _ (List.mem_of_getElem? (i := 30) rfl))) (by decide) (backOf (W := 0) (rm5 l Z a0 hw [] b61 v11 v59 a1 a2 a3 a4 (own_upd (own_upd (own_upd (own_upd (own_upd (own_upd (own_upd own_l0 m0 v17) m1 v23) m2 v29) m3 v35) m0 v41) m1 v47) m2 v53) cf86 vf86 kr86 sz86 ch86 m3 T86.heap n0 z86k hN hT86 hm3 (Nat.lt_of_lt_of_le hmu3 (by decide)) okf3 hb7 hl7 hk7) hZ (hw _ (List.mem_of_getElem? (i := 32) rfl)) (hw _ (List.mem_of_getElem? (i := 7) rfl)) (by decide) (by decide)) q89a q89c (g := (mkF m 198 #[.val (.long ax), .second, .val (.long bx), .second, .val (.long cx), .second, .val (.long dx), .second, .val (.int ex), .val (.int v2), .val (.int v5), .val (.int v8), .val (.int v11), .val (.int v17), .val (.int v23), .val (.int v29), .val (.int v35), .val (.int v41), .val (.int v47), .val (.int v53), .val (.int v59), .val (.ref b61), .unset, .unset, .unset, .unset, .unset] [(.int v59), (.int v11), (.ref b61)])) rfl (by rw [hml]; rfl) (Steps.refl _) (argsL := [(.int v11), (.int v59)]) (rest := []) (lenOf pd_lIIrV rfl) rfl (by show 2 * 0 + _ ≤ _; exact Nat.le_of_eq rfl) (hb hby at_198) (fun _ _ => ⟨rfl, rfl, (by decide : 5 + 0 ≤ _), (by decide : 1547 + 0 ≤ _)⟩)
  dsimp only [Pt.U, Pt.locs, Pt.cells, Pt.slots] at X89 l89 y89 z89 st89 hQ89
  subst l89 y89 z89
  obtain ⟨rfl, N89q, K89q, cf89, vf89, kr89, sz89, ch89, hK89, hT89⟩ := hQ89
  have N89 := Fr.app N86 N89q
  have z89k : n0 ≤ T89.heap.size := Nat.le_trans z86k K89q.1
  obtain ⟨E89, F89lengths, F89countOfLength, F89valuesOfLength, F89kraft, F89size, F89changes, I89a1, I89a2, I89a3, I89a4⟩ := id hT89
  have P90 : Wy p.tables e below (s₁.setTop (entryFrame m #[(.long ax), (.long bx), (.long cx), (.long dx), (.int ex)] maxLocals)) (T89.setTop (mkF m 201 #[.val (.long ax), .second, .val (.long bx), .second, .val (.long cx), .second, .val (.long dx), .second, .val (.int ex), .val (.int v2), .val (.int v5), .val (.int v8), .val (.int v11), .val (.int v17), .val (.int v23), .val (.int v29), .val (.int v35), .val (.int v41), .val (.int v47), .val (.int v53), .val (.int v59), .val (.ref b61), .unset, .unset, .unset, .unset, .unset] [])) := fun t k => P88 t (st89.trans k)
  have hfin : own_K kr89 = own_wt v41 + own_wt v47 + own_wt v53 + own_wt v59 := own_st3 hK89 hs7 (by rw [hat7])
  have P91 : Wy p.tables e below (s₁.setTop (entryFrame m #[(.long ax), (.long bx), (.long cx), (.long dx), (.int ex)] maxLocals)) (T89.setTop (mkF m 203 #[.val (.long ax), .second, .val (.long bx), .second, .val (.long cx), .second, .val (.long dx), .second, .val (.int ex), .val (.int v2), .val (.int v5), .val (.int v8), .val (.int v11), .val (.int v17), .val (.int v23), .val (.int v29), .val (.int v35), .val (.int v41), .val (.int v47), .val (.int v53), .val (.int v59), .val (.ref b61), .unset, .unset, .unset, .unset, .unset] [(.ref b61)])) := fun t k => P90 t (by
    show Steps p.tables e below (T89.setTop (mkF m 201 #[.val (.long ax), .second, .val (.long bx), .second, .val (.long cx), .second, .val (.long dx), .second, .val (.int ex), .val (.int v2), .val (.int v5), .val (.int v8), .val (.int v11), .val (.int v17), .val (.int v23), .val (.int v29), .val (.int v35), .val (.int v41), .val (.int v47), .val (.int v53), .val (.int v59), .val (.ref b61), .unset, .unset, .unset, .unset, .unset] [])) _
    refine XS.aload X89.here hx rfl (hb hby at_201) rfl rfl  ?_
    exact k)
  obtain ⟨cq92, kq92, q92a, q92b, q92c⟩ := isOf hZ rfl E89
  obtain ⟨_, _, ⟨T92, L92, k92, n92⟩, -, X92, ⟨Lc92, hQ92, l92, y92, z92⟩, st92⟩ := X89.virtualBack hx (y := (⟨"com/example/leafpack/leafpack/CodeTable", "isCode", "()Z"⟩ : MethodName)) (z := (⟨"com/example/leafpack/leafpack/CodeTable", "isCode", "()Z"⟩ : MethodName)) hown (mvT hZ (hw _ (List.mem_of_getElem? (i := 54) rfl))) (mvT hZ (hw _ (List.mem_of_getElem? (i := 55) rfl))) (notFace_of_selects (args := #[]) (mvT hZ (hw _ (List.mem_of_getElem? (i := 57) rfl)))) (mvT hZ (hw _ (List.mem_of_getElem? (i := 57) rfl))) (mvT hZ (hw _ (List.mem_of_getElem? (i := 56) rfl))) (by decide) (backOf (W := 0) (rm10 l Z a0 hw [] b61 a4 kr89 T89.heap n0 z89k F89kraft I89a4) hZ (hw _ (List.mem_of_getElem? (i := 58) rfl)) (hw _ (List.mem_of_getElem? (i := 7) rfl)) (by decide) (by decide)) q92a q92c (g := (mkF m 203 #[.val (.long ax), .second, .val (.long bx), .second, .val (.long cx), .second, .val (.long dx), .second, .val (.int ex), .val (.int v2), .val (.int v5), .val (.int v8), .val (.int v11), .val (.int v17), .val (.int v23), .val (.int v29), .val (.int v35), .val (.int v41), .val (.int v47), .val (.int v53), .val (.int v59), .val (.ref b61), .unset, .unset, .unset, .unset, .unset] [(.ref b61)])) rfl (by rw [hml]; rfl) (Steps.refl _) (argsL := []) (rest := []) (lenOf pd_lrZ rfl) rfl (by show 2 * 0 + _ ≤ _; exact Nat.le_of_eq rfl) (hb hby at_203) (fun _ _ => ⟨rfl, rfl, (by decide : 5 + 0 ≤ _), (by decide : 1547 + 0 ≤ _)⟩)
  dsimp only [Pt.U, Pt.locs, Pt.cells, Pt.slots] at X92 l92 y92 z92 st92 hQ92
  subst l92 y92 z92
  obtain ⟨rfl, N92q, e92⟩ := hQ92
  have N92 := Fr.app N89 N92q
  have P93 : Wy p.tables e below (s₁.setTop (entryFrame m #[(.long ax), (.long bx), (.long cx), (.long dx), (.int ex)] maxLocals)) (T92.setTop (mkF m 206 #[.val (.long ax), .second, .val (.long bx), .second, .val (.long cx), .second, .val (.long dx), .second, .val (.int ex), .val (.int v2), .val (.int v5), .val (.int v8), .val (.int v11), .val (.int v17), .val (.int v23), .val (.int v29), .val (.int v35), .val (.int v41), .val (.int v47), .val (.int v53), .val (.int v59), .val (.ref b61), .unset, .unset, .unset, .unset, .unset] [(.int (own_code kr89))])) := fun t k => P91 t (st92.trans k)
  have P94 : Wy p.tables e below (s₁.setTop (entryFrame m #[(.long ax), (.long bx), (.long cx), (.long dx), (.int ex)] maxLocals)) (T92.setTop (mkF m 208 #[.val (.long ax), .second, .val (.long bx), .second, .val (.long cx), .second, .val (.long dx), .second, .val (.int ex), .val (.int v2), .val (.int v5), .val (.int v8), .val (.int v11), .val (.int v17), .val (.int v23), .val (.int v29), .val (.int v35), .val (.int v41), .val (.int v47), .val (.int v53), .val (.int v59), .val (.ref b61), .val (.int (own_code kr89)), .unset, .unset, .unset, .unset] [])) := fun t k => P93 t (by
    show Steps p.tables e below (T92.setTop (mkF m 206 #[.val (.long ax), .second, .val (.long bx), .second, .val (.long cx), .second, .val (.long dx), .second, .val (.int ex), .val (.int v2), .val (.int v5), .val (.int v8), .val (.int v11), .val (.int v17), .val (.int v23), .val (.int v29), .val (.int v35), .val (.int v41), .val (.int v47), .val (.int v53), .val (.int v59), .val (.ref b61), .unset, .unset, .unset, .unset, .unset] [(.int (own_code kr89))])) _
    refine XS.istore X92.here hx rfl (hb hby at_206) rfl (l' := #[.val (.long ax), .second, .val (.long bx), .second, .val (.long cx), .second, .val (.long dx), .second, .val (.int ex), .val (.int v2), .val (.int v5), .val (.int v8), .val (.int v11), .val (.int v17), .val (.int v23), .val (.int v29), .val (.int v35), .val (.int v41), .val (.int v47), .val (.int v53), .val (.int v59), .val (.ref b61), .val (.int (own_code kr89)), .unset, .unset, .unset, .unset]) rfl ?_
    exact k)
  obtain ⟨v95, hv95⟩ : ∃ z : Int32, z = (own_code kr89) := ⟨_, rfl⟩
  have P96 : Wy p.tables e below (s₁.setTop (entryFrame m #[(.long ax), (.long bx), (.long cx), (.long dx), (.int ex)] maxLocals)) (T92.setTop (mkF m 208 #[.val (.long ax), .second, .val (.long bx), .second, .val (.long cx), .second, .val (.long dx), .second, .val (.int ex), .val (.int v2), .val (.int v5), .val (.int v8), .val (.int v11), .val (.int v17), .val (.int v23), .val (.int v29), .val (.int v35), .val (.int v41), .val (.int v47), .val (.int v53), .val (.int v59), .val (.ref b61), .val (.int v95), .unset, .unset, .unset, .unset] [])) := fun t k => by subst hv95; exact P94 t k
  obtain ⟨r110, hr110, P111⟩ : ∃ r110 : Int32, r110 = (if (60 : Int32) < v41 then (1 : Int32) else (if (60 : Int32) < v47 then (1 : Int32) else (if (60 : Int32) < v53 then (1 : Int32) else (if (60 : Int32) < v59 then (1 : Int32) else (0 : Int32))))) ∧ Wy p.tables e below (s₁.setTop (entryFrame m #[(.long ax), (.long bx), (.long cx), (.long dx), (.int ex)] maxLocals)) (T92.setTop (mkF m 241 #[.val (.long ax), .second, .val (.long bx), .second, .val (.long cx), .second, .val (.long dx), .second, .val (.int ex), .val (.int v2), .val (.int v5), .val (.int v8), .val (.int v11), .val (.int v17), .val (.int v23), .val (.int v29), .val (.int v35), .val (.int v41), .val (.int v47), .val (.int v53), .val (.int v59), .val (.ref b61), .val (.int v95), .unset, .unset, .unset, .unset] [(.int r110)])) := by
    have P112 : Wy p.tables e below (s₁.setTop (entryFrame m #[(.long ax), (.long bx), (.long cx), (.long dx), (.int ex)] maxLocals)) (T92.setTop (mkF m 212 #[.val (.long ax), .second, .val (.long bx), .second, .val (.long cx), .second, .val (.long dx), .second, .val (.int ex), .val (.int v2), .val (.int v5), .val (.int v8), .val (.int v11), .val (.int v17), .val (.int v23), .val (.int v29), .val (.int v35), .val (.int v41), .val (.int v47), .val (.int v53), .val (.int v59), .val (.ref b61), .val (.int v95), .unset, .unset, .unset, .unset] [(.int (60 : Int32)), (.int v41)])) := fun t k => P96 t (by
      show Steps p.tables e below (T92.setTop (mkF m 208 #[.val (.long ax), .second, .val (.long bx), .second, .val (.long cx), .second, .val (.long dx), .second, .val (.int ex), .val (.int v2), .val (.int v5), .val (.int v8), .val (.int v11), .val (.int v17), .val (.int v23), .val (.int v29), .val (.int v35), .val (.int v41), .val (.int v47), .val (.int v53), .val (.int v59), .val (.ref b61), .val (.int v95), .unset, .unset, .unset, .unset] [])) _
      refine XS.iload X92.here hx rfl (hb hby at_208) rfl  ?_
      show Steps p.tables e below (T92.setTop (mkF m 210 #[.val (.long ax), .second, .val (.long bx), .second, .val (.long cx), .second, .val (.long dx), .second, .val (.int ex), .val (.int v2), .val (.int v5), .val (.int v8), .val (.int v11), .val (.int v17), .val (.int v23), .val (.int v29), .val (.int v35), .val (.int v41), .val (.int v47), .val (.int v53), .val (.int v59), .val (.ref b61), .val (.int v95), .unset, .unset, .unset, .unset] [(.int v41)])) _
      refine XS.bipush X92.here hx rfl (hb hby at_210) ?_
      exact k)
    by_cases hc212_113 : (60 : Int32) < v41
    · have P114 : Wy p.tables e below (s₁.setTop (entryFrame m #[(.long ax), (.long bx), (.long cx), (.long dx), (.int ex)] maxLocals)) (T92.setTop (mkF m 241 #[.val (.long ax), .second, .val (.long bx), .second, .val (.long cx), .second, .val (.long dx), .second, .val (.int ex), .val (.int v2), .val (.int v5), .val (.int v8), .val (.int v11), .val (.int v17), .val (.int v23), .val (.int v29), .val (.int v35), .val (.int v41), .val (.int v47), .val (.int v53), .val (.int v59), .val (.ref b61), .val (.int v95), .unset, .unset, .unset, .unset] [(.int (1 : Int32))])) := fun t k => P112 t (by
        show Steps p.tables e below (T92.setTop (mkF m 212 #[.val (.long ax), .second, .val (.long bx), .second, .val (.long cx), .second, .val (.long dx), .second, .val (.int ex), .val (.int v2), .val (.int v5), .val (.int v8), .val (.int v11), .val (.int v17), .val (.int v23), .val (.int v29), .val (.int v35), .val (.int v41), .val (.int v47), .val (.int v53), .val (.int v59), .val (.ref b61), .val (.int v95), .unset, .unset, .unset, .unset] [(.int (60 : Int32)), (.int v41)])) _
        refine XS.icmpYes X92.here hx rfl (pc0 := 212) (pc' := 236) rfl (hb hby at_212) rfl (tlt hc212_113).2.2.1 (by decide) (by decide) ?_
        show Steps p.tables e below (T92.setTop (mkF m 236 #[.val (.long ax), .second, .val (.long bx), .second, .val (.long cx), .second, .val (.long dx), .second, .val (.int ex), .val (.int v2), .val (.int v5), .val (.int v8), .val (.int v11), .val (.int v17), .val (.int v23), .val (.int v29), .val (.int v35), .val (.int v41), .val (.int v47), .val (.int v53), .val (.int v59), .val (.ref b61), .val (.int v95), .unset, .unset, .unset, .unset] [])) _
        refine XS.iconst X92.here hx rfl (hb hby at_236) ?_
        show Steps p.tables e below (T92.setTop (mkF m 237 #[.val (.long ax), .second, .val (.long bx), .second, .val (.long cx), .second, .val (.long dx), .second, .val (.int ex), .val (.int v2), .val (.int v5), .val (.int v8), .val (.int v11), .val (.int v17), .val (.int v23), .val (.int v29), .val (.int v35), .val (.int v41), .val (.int v47), .val (.int v53), .val (.int v59), .val (.ref b61), .val (.int v95), .unset, .unset, .unset, .unset] [(.int (1 : Int32))])) _
        refine XS.goto X92.here hx rfl (pc0 := 237) (pc' := 241) rfl (hb hby at_237) (by decide) (by decide) ?_
        exact k)
      exact ⟨(1 : Int32), (by simp only [if_pos hc212_113]), P114⟩
    · have P115 : Wy p.tables e below (s₁.setTop (entryFrame m #[(.long ax), (.long bx), (.long cx), (.long dx), (.int ex)] maxLocals)) (T92.setTop (mkF m 219 #[.val (.long ax), .second, .val (.long bx), .second, .val (.long cx), .second, .val (.long dx), .second, .val (.int ex), .val (.int v2), .val (.int v5), .val (.int v8), .val (.int v11), .val (.int v17), .val (.int v23), .val (.int v29), .val (.int v35), .val (.int v41), .val (.int v47), .val (.int v53), .val (.int v59), .val (.ref b61), .val (.int v95), .unset, .unset, .unset, .unset] [(.int (60 : Int32)), (.int v47)])) := fun t k => P112 t (by
        show Steps p.tables e below (T92.setTop (mkF m 212 #[.val (.long ax), .second, .val (.long bx), .second, .val (.long cx), .second, .val (.long dx), .second, .val (.int ex), .val (.int v2), .val (.int v5), .val (.int v8), .val (.int v11), .val (.int v17), .val (.int v23), .val (.int v29), .val (.int v35), .val (.int v41), .val (.int v47), .val (.int v53), .val (.int v59), .val (.ref b61), .val (.int v95), .unset, .unset, .unset, .unset] [(.int (60 : Int32)), (.int v41)])) _
        refine XS.icmpNo X92.here hx rfl (hb hby at_212) rfl (flt hc212_113).2.2.1 ?_
        show Steps p.tables e below (T92.setTop (mkF m 215 #[.val (.long ax), .second, .val (.long bx), .second, .val (.long cx), .second, .val (.long dx), .second, .val (.int ex), .val (.int v2), .val (.int v5), .val (.int v8), .val (.int v11), .val (.int v17), .val (.int v23), .val (.int v29), .val (.int v35), .val (.int v41), .val (.int v47), .val (.int v53), .val (.int v59), .val (.ref b61), .val (.int v95), .unset, .unset, .unset, .unset] [])) _
        refine XS.iload X92.here hx rfl (hb hby at_215) rfl  ?_
        show Steps p.tables e below (T92.setTop (mkF m 217 #[.val (.long ax), .second, .val (.long bx), .second, .val (.long cx), .second, .val (.long dx), .second, .val (.int ex), .val (.int v2), .val (.int v5), .val (.int v8), .val (.int v11), .val (.int v17), .val (.int v23), .val (.int v29), .val (.int v35), .val (.int v41), .val (.int v47), .val (.int v53), .val (.int v59), .val (.ref b61), .val (.int v95), .unset, .unset, .unset, .unset] [(.int v47)])) _
        refine XS.bipush X92.here hx rfl (hb hby at_217) ?_
        exact k)
      by_cases hc219_116 : (60 : Int32) < v47
      · have P117 : Wy p.tables e below (s₁.setTop (entryFrame m #[(.long ax), (.long bx), (.long cx), (.long dx), (.int ex)] maxLocals)) (T92.setTop (mkF m 241 #[.val (.long ax), .second, .val (.long bx), .second, .val (.long cx), .second, .val (.long dx), .second, .val (.int ex), .val (.int v2), .val (.int v5), .val (.int v8), .val (.int v11), .val (.int v17), .val (.int v23), .val (.int v29), .val (.int v35), .val (.int v41), .val (.int v47), .val (.int v53), .val (.int v59), .val (.ref b61), .val (.int v95), .unset, .unset, .unset, .unset] [(.int (1 : Int32))])) := fun t k => P115 t (by
          show Steps p.tables e below (T92.setTop (mkF m 219 #[.val (.long ax), .second, .val (.long bx), .second, .val (.long cx), .second, .val (.long dx), .second, .val (.int ex), .val (.int v2), .val (.int v5), .val (.int v8), .val (.int v11), .val (.int v17), .val (.int v23), .val (.int v29), .val (.int v35), .val (.int v41), .val (.int v47), .val (.int v53), .val (.int v59), .val (.ref b61), .val (.int v95), .unset, .unset, .unset, .unset] [(.int (60 : Int32)), (.int v47)])) _
          refine XS.icmpYes X92.here hx rfl (pc0 := 219) (pc' := 236) rfl (hb hby at_219) rfl (tlt hc219_116).2.2.1 (by decide) (by decide) ?_
          show Steps p.tables e below (T92.setTop (mkF m 236 #[.val (.long ax), .second, .val (.long bx), .second, .val (.long cx), .second, .val (.long dx), .second, .val (.int ex), .val (.int v2), .val (.int v5), .val (.int v8), .val (.int v11), .val (.int v17), .val (.int v23), .val (.int v29), .val (.int v35), .val (.int v41), .val (.int v47), .val (.int v53), .val (.int v59), .val (.ref b61), .val (.int v95), .unset, .unset, .unset, .unset] [])) _
          refine XS.iconst X92.here hx rfl (hb hby at_236) ?_
          show Steps p.tables e below (T92.setTop (mkF m 237 #[.val (.long ax), .second, .val (.long bx), .second, .val (.long cx), .second, .val (.long dx), .second, .val (.int ex), .val (.int v2), .val (.int v5), .val (.int v8), .val (.int v11), .val (.int v17), .val (.int v23), .val (.int v29), .val (.int v35), .val (.int v41), .val (.int v47), .val (.int v53), .val (.int v59), .val (.ref b61), .val (.int v95), .unset, .unset, .unset, .unset] [(.int (1 : Int32))])) _
          refine XS.goto X92.here hx rfl (pc0 := 237) (pc' := 241) rfl (hb hby at_237) (by decide) (by decide) ?_
          exact k)
        exact ⟨(1 : Int32), (by simp only [if_neg hc212_113, if_pos hc219_116]), P117⟩
      · have P118 : Wy p.tables e below (s₁.setTop (entryFrame m #[(.long ax), (.long bx), (.long cx), (.long dx), (.int ex)] maxLocals)) (T92.setTop (mkF m 226 #[.val (.long ax), .second, .val (.long bx), .second, .val (.long cx), .second, .val (.long dx), .second, .val (.int ex), .val (.int v2), .val (.int v5), .val (.int v8), .val (.int v11), .val (.int v17), .val (.int v23), .val (.int v29), .val (.int v35), .val (.int v41), .val (.int v47), .val (.int v53), .val (.int v59), .val (.ref b61), .val (.int v95), .unset, .unset, .unset, .unset] [(.int (60 : Int32)), (.int v53)])) := fun t k => P115 t (by
          show Steps p.tables e below (T92.setTop (mkF m 219 #[.val (.long ax), .second, .val (.long bx), .second, .val (.long cx), .second, .val (.long dx), .second, .val (.int ex), .val (.int v2), .val (.int v5), .val (.int v8), .val (.int v11), .val (.int v17), .val (.int v23), .val (.int v29), .val (.int v35), .val (.int v41), .val (.int v47), .val (.int v53), .val (.int v59), .val (.ref b61), .val (.int v95), .unset, .unset, .unset, .unset] [(.int (60 : Int32)), (.int v47)])) _
          refine XS.icmpNo X92.here hx rfl (hb hby at_219) rfl (flt hc219_116).2.2.1 ?_
          show Steps p.tables e below (T92.setTop (mkF m 222 #[.val (.long ax), .second, .val (.long bx), .second, .val (.long cx), .second, .val (.long dx), .second, .val (.int ex), .val (.int v2), .val (.int v5), .val (.int v8), .val (.int v11), .val (.int v17), .val (.int v23), .val (.int v29), .val (.int v35), .val (.int v41), .val (.int v47), .val (.int v53), .val (.int v59), .val (.ref b61), .val (.int v95), .unset, .unset, .unset, .unset] [])) _
          refine XS.iload X92.here hx rfl (hb hby at_222) rfl  ?_
          show Steps p.tables e below (T92.setTop (mkF m 224 #[.val (.long ax), .second, .val (.long bx), .second, .val (.long cx), .second, .val (.long dx), .second, .val (.int ex), .val (.int v2), .val (.int v5), .val (.int v8), .val (.int v11), .val (.int v17), .val (.int v23), .val (.int v29), .val (.int v35), .val (.int v41), .val (.int v47), .val (.int v53), .val (.int v59), .val (.ref b61), .val (.int v95), .unset, .unset, .unset, .unset] [(.int v53)])) _
          refine XS.bipush X92.here hx rfl (hb hby at_224) ?_
          exact k)
        by_cases hc226_119 : (60 : Int32) < v53
        · have P120 : Wy p.tables e below (s₁.setTop (entryFrame m #[(.long ax), (.long bx), (.long cx), (.long dx), (.int ex)] maxLocals)) (T92.setTop (mkF m 241 #[.val (.long ax), .second, .val (.long bx), .second, .val (.long cx), .second, .val (.long dx), .second, .val (.int ex), .val (.int v2), .val (.int v5), .val (.int v8), .val (.int v11), .val (.int v17), .val (.int v23), .val (.int v29), .val (.int v35), .val (.int v41), .val (.int v47), .val (.int v53), .val (.int v59), .val (.ref b61), .val (.int v95), .unset, .unset, .unset, .unset] [(.int (1 : Int32))])) := fun t k => P118 t (by
            show Steps p.tables e below (T92.setTop (mkF m 226 #[.val (.long ax), .second, .val (.long bx), .second, .val (.long cx), .second, .val (.long dx), .second, .val (.int ex), .val (.int v2), .val (.int v5), .val (.int v8), .val (.int v11), .val (.int v17), .val (.int v23), .val (.int v29), .val (.int v35), .val (.int v41), .val (.int v47), .val (.int v53), .val (.int v59), .val (.ref b61), .val (.int v95), .unset, .unset, .unset, .unset] [(.int (60 : Int32)), (.int v53)])) _
            refine XS.icmpYes X92.here hx rfl (pc0 := 226) (pc' := 236) rfl (hb hby at_226) rfl (tlt hc226_119).2.2.1 (by decide) (by decide) ?_
            show Steps p.tables e below (T92.setTop (mkF m 236 #[.val (.long ax), .second, .val (.long bx), .second, .val (.long cx), .second, .val (.long dx), .second, .val (.int ex), .val (.int v2), .val (.int v5), .val (.int v8), .val (.int v11), .val (.int v17), .val (.int v23), .val (.int v29), .val (.int v35), .val (.int v41), .val (.int v47), .val (.int v53), .val (.int v59), .val (.ref b61), .val (.int v95), .unset, .unset, .unset, .unset] [])) _
            refine XS.iconst X92.here hx rfl (hb hby at_236) ?_
            show Steps p.tables e below (T92.setTop (mkF m 237 #[.val (.long ax), .second, .val (.long bx), .second, .val (.long cx), .second, .val (.long dx), .second, .val (.int ex), .val (.int v2), .val (.int v5), .val (.int v8), .val (.int v11), .val (.int v17), .val (.int v23), .val (.int v29), .val (.int v35), .val (.int v41), .val (.int v47), .val (.int v53), .val (.int v59), .val (.ref b61), .val (.int v95), .unset, .unset, .unset, .unset] [(.int (1 : Int32))])) _
            refine XS.goto X92.here hx rfl (pc0 := 237) (pc' := 241) rfl (hb hby at_237) (by decide) (by decide) ?_
            exact k)
          exact ⟨(1 : Int32), (by simp only [if_neg hc212_113, if_neg hc219_116, if_pos hc226_119]), P120⟩
        · have P121 : Wy p.tables e below (s₁.setTop (entryFrame m #[(.long ax), (.long bx), (.long cx), (.long dx), (.int ex)] maxLocals)) (T92.setTop (mkF m 233 #[.val (.long ax), .second, .val (.long bx), .second, .val (.long cx), .second, .val (.long dx), .second, .val (.int ex), .val (.int v2), .val (.int v5), .val (.int v8), .val (.int v11), .val (.int v17), .val (.int v23), .val (.int v29), .val (.int v35), .val (.int v41), .val (.int v47), .val (.int v53), .val (.int v59), .val (.ref b61), .val (.int v95), .unset, .unset, .unset, .unset] [(.int (60 : Int32)), (.int v59)])) := fun t k => P118 t (by
            show Steps p.tables e below (T92.setTop (mkF m 226 #[.val (.long ax), .second, .val (.long bx), .second, .val (.long cx), .second, .val (.long dx), .second, .val (.int ex), .val (.int v2), .val (.int v5), .val (.int v8), .val (.int v11), .val (.int v17), .val (.int v23), .val (.int v29), .val (.int v35), .val (.int v41), .val (.int v47), .val (.int v53), .val (.int v59), .val (.ref b61), .val (.int v95), .unset, .unset, .unset, .unset] [(.int (60 : Int32)), (.int v53)])) _
            refine XS.icmpNo X92.here hx rfl (hb hby at_226) rfl (flt hc226_119).2.2.1 ?_
            show Steps p.tables e below (T92.setTop (mkF m 229 #[.val (.long ax), .second, .val (.long bx), .second, .val (.long cx), .second, .val (.long dx), .second, .val (.int ex), .val (.int v2), .val (.int v5), .val (.int v8), .val (.int v11), .val (.int v17), .val (.int v23), .val (.int v29), .val (.int v35), .val (.int v41), .val (.int v47), .val (.int v53), .val (.int v59), .val (.ref b61), .val (.int v95), .unset, .unset, .unset, .unset] [])) _
            refine XS.iload X92.here hx rfl (hb hby at_229) rfl  ?_
            show Steps p.tables e below (T92.setTop (mkF m 231 #[.val (.long ax), .second, .val (.long bx), .second, .val (.long cx), .second, .val (.long dx), .second, .val (.int ex), .val (.int v2), .val (.int v5), .val (.int v8), .val (.int v11), .val (.int v17), .val (.int v23), .val (.int v29), .val (.int v35), .val (.int v41), .val (.int v47), .val (.int v53), .val (.int v59), .val (.ref b61), .val (.int v95), .unset, .unset, .unset, .unset] [(.int v59)])) _
            refine XS.bipush X92.here hx rfl (hb hby at_231) ?_
            exact k)
          by_cases hc233_122 : (60 : Int32) < v59
          · have P123 : Wy p.tables e below (s₁.setTop (entryFrame m #[(.long ax), (.long bx), (.long cx), (.long dx), (.int ex)] maxLocals)) (T92.setTop (mkF m 241 #[.val (.long ax), .second, .val (.long bx), .second, .val (.long cx), .second, .val (.long dx), .second, .val (.int ex), .val (.int v2), .val (.int v5), .val (.int v8), .val (.int v11), .val (.int v17), .val (.int v23), .val (.int v29), .val (.int v35), .val (.int v41), .val (.int v47), .val (.int v53), .val (.int v59), .val (.ref b61), .val (.int v95), .unset, .unset, .unset, .unset] [(.int (1 : Int32))])) := fun t k => P121 t (by
              show Steps p.tables e below (T92.setTop (mkF m 233 #[.val (.long ax), .second, .val (.long bx), .second, .val (.long cx), .second, .val (.long dx), .second, .val (.int ex), .val (.int v2), .val (.int v5), .val (.int v8), .val (.int v11), .val (.int v17), .val (.int v23), .val (.int v29), .val (.int v35), .val (.int v41), .val (.int v47), .val (.int v53), .val (.int v59), .val (.ref b61), .val (.int v95), .unset, .unset, .unset, .unset] [(.int (60 : Int32)), (.int v59)])) _
              refine XS.icmpNo X92.here hx rfl (hb hby at_233) rfl (tlt hc233_122).2.2.2 ?_
              show Steps p.tables e below (T92.setTop (mkF m 236 #[.val (.long ax), .second, .val (.long bx), .second, .val (.long cx), .second, .val (.long dx), .second, .val (.int ex), .val (.int v2), .val (.int v5), .val (.int v8), .val (.int v11), .val (.int v17), .val (.int v23), .val (.int v29), .val (.int v35), .val (.int v41), .val (.int v47), .val (.int v53), .val (.int v59), .val (.ref b61), .val (.int v95), .unset, .unset, .unset, .unset] [])) _
              refine XS.iconst X92.here hx rfl (hb hby at_236) ?_
              show Steps p.tables e below (T92.setTop (mkF m 237 #[.val (.long ax), .second, .val (.long bx), .second, .val (.long cx), .second, .val (.long dx), .second, .val (.int ex), .val (.int v2), .val (.int v5), .val (.int v8), .val (.int v11), .val (.int v17), .val (.int v23), .val (.int v29), .val (.int v35), .val (.int v41), .val (.int v47), .val (.int v53), .val (.int v59), .val (.ref b61), .val (.int v95), .unset, .unset, .unset, .unset] [(.int (1 : Int32))])) _
              refine XS.goto X92.here hx rfl (pc0 := 237) (pc' := 241) rfl (hb hby at_237) (by decide) (by decide) ?_
              exact k)
            exact ⟨(1 : Int32), (by simp only [if_neg hc212_113, if_neg hc219_116, if_neg hc226_119, if_pos hc233_122]), P123⟩
          · have P124 : Wy p.tables e below (s₁.setTop (entryFrame m #[(.long ax), (.long bx), (.long cx), (.long dx), (.int ex)] maxLocals)) (T92.setTop (mkF m 241 #[.val (.long ax), .second, .val (.long bx), .second, .val (.long cx), .second, .val (.long dx), .second, .val (.int ex), .val (.int v2), .val (.int v5), .val (.int v8), .val (.int v11), .val (.int v17), .val (.int v23), .val (.int v29), .val (.int v35), .val (.int v41), .val (.int v47), .val (.int v53), .val (.int v59), .val (.ref b61), .val (.int v95), .unset, .unset, .unset, .unset] [(.int (0 : Int32))])) := fun t k => P121 t (by
              show Steps p.tables e below (T92.setTop (mkF m 233 #[.val (.long ax), .second, .val (.long bx), .second, .val (.long cx), .second, .val (.long dx), .second, .val (.int ex), .val (.int v2), .val (.int v5), .val (.int v8), .val (.int v11), .val (.int v17), .val (.int v23), .val (.int v29), .val (.int v35), .val (.int v41), .val (.int v47), .val (.int v53), .val (.int v59), .val (.ref b61), .val (.int v95), .unset, .unset, .unset, .unset] [(.int (60 : Int32)), (.int v59)])) _
              refine XS.icmpYes X92.here hx rfl (pc0 := 233) (pc' := 240) rfl (hb hby at_233) rfl (flt hc233_122).2.2.2 (by decide) (by decide) ?_
              show Steps p.tables e below (T92.setTop (mkF m 240 #[.val (.long ax), .second, .val (.long bx), .second, .val (.long cx), .second, .val (.long dx), .second, .val (.int ex), .val (.int v2), .val (.int v5), .val (.int v8), .val (.int v11), .val (.int v17), .val (.int v23), .val (.int v29), .val (.int v35), .val (.int v41), .val (.int v47), .val (.int v53), .val (.int v59), .val (.ref b61), .val (.int v95), .unset, .unset, .unset, .unset] [])) _
              refine XS.iconst X92.here hx rfl (hb hby at_240) ?_
              exact k)
            exact ⟨(0 : Int32), (by simp only [if_neg hc212_113, if_neg hc219_116, if_neg hc226_119, if_neg hc233_122]), P124⟩
  have P125 : Wy p.tables e below (s₁.setTop (entryFrame m #[(.long ax), (.long bx), (.long cx), (.long dx), (.int ex)] maxLocals)) (T92.setTop (mkF m 245 #[.val (.long ax), .second, .val (.long bx), .second, .val (.long cx), .second, .val (.long dx), .second, .val (.int ex), .val (.int v2), .val (.int v5), .val (.int v8), .val (.int v11), .val (.int v17), .val (.int v23), .val (.int v29), .val (.int v35), .val (.int v41), .val (.int v47), .val (.int v53), .val (.int v59), .val (.ref b61), .val (.int v95), .val (.int r110), .unset, .unset, .unset] [(.int v41)])) := fun t k => P111 t (by
    show Steps p.tables e below (T92.setTop (mkF m 241 #[.val (.long ax), .second, .val (.long bx), .second, .val (.long cx), .second, .val (.long dx), .second, .val (.int ex), .val (.int v2), .val (.int v5), .val (.int v8), .val (.int v11), .val (.int v17), .val (.int v23), .val (.int v29), .val (.int v35), .val (.int v41), .val (.int v47), .val (.int v53), .val (.int v59), .val (.ref b61), .val (.int v95), .unset, .unset, .unset, .unset] [(.int r110)])) _
    refine XS.istore X92.here hx rfl (hb hby at_241) rfl (l' := #[.val (.long ax), .second, .val (.long bx), .second, .val (.long cx), .second, .val (.long dx), .second, .val (.int ex), .val (.int v2), .val (.int v5), .val (.int v8), .val (.int v11), .val (.int v17), .val (.int v23), .val (.int v29), .val (.int v35), .val (.int v41), .val (.int v47), .val (.int v53), .val (.int v59), .val (.ref b61), .val (.int v95), .val (.int r110), .unset, .unset, .unset]) rfl ?_
    show Steps p.tables e below (T92.setTop (mkF m 243 #[.val (.long ax), .second, .val (.long bx), .second, .val (.long cx), .second, .val (.long dx), .second, .val (.int ex), .val (.int v2), .val (.int v5), .val (.int v8), .val (.int v11), .val (.int v17), .val (.int v23), .val (.int v29), .val (.int v35), .val (.int v41), .val (.int v47), .val (.int v53), .val (.int v59), .val (.ref b61), .val (.int v95), .val (.int r110), .unset, .unset, .unset] [])) _
    refine XS.iload X92.here hx rfl (hb hby at_243) rfl  ?_
    exact k)
  obtain ⟨_, _, ⟨T126, L126, k126, n126⟩, -, X126, ⟨Lc126, hQ126, l126, y126, z126⟩, st126⟩ := Jvm.LawKit.callS X92 hx (y := (⟨"com/example/leafpack/leafpack/CodeTableIsCodePinLaw", "term", "(I)J"⟩ : MethodName)) hown (mvT hZ (hw _ (List.mem_of_getElem? (i := 60) rfl))) (mvT hZ (hw _ (List.mem_of_getElem? (i := 61) rfl))) (mvT hZ (hw _ (List.mem_of_getElem? (i := 2) rfl))) (mvT hZ (hw _ (List.mem_of_getElem? (i := 62) rfl))) (by decide) (backOf (W := 0) (rm11 l Z a0 hw [] v41 T89.heap n0 z89k ) hZ (hw _ (List.mem_of_getElem? (i := 62) rfl)) (hw _ (List.mem_of_getElem? (i := 2) rfl)) (by decide) (by decide)) (g := (mkF m 245 #[.val (.long ax), .second, .val (.long bx), .second, .val (.long cx), .second, .val (.long dx), .second, .val (.int ex), .val (.int v2), .val (.int v5), .val (.int v8), .val (.int v11), .val (.int v17), .val (.int v23), .val (.int v29), .val (.int v35), .val (.int v41), .val (.int v47), .val (.int v53), .val (.int v59), .val (.ref b61), .val (.int v95), .val (.int r110), .unset, .unset, .unset] [(.int v41)])) rfl (by rw [hml]; rfl) (argsL := [(.int v41)]) (rest := []) (lenOf pd_lIrJ rfl) rfl (by show 2 * 0 + _ ≤ _; exact Nat.le_of_eq rfl) (hb hby at_245) (fun _ _ => ⟨rfl, e92, (by decide : 5 + 0 ≤ _), (by decide : 1547 + 0 ≤ _)⟩)
  dsimp only [Pt.U, Pt.locs, Pt.cells, Pt.slots] at X126 l126 y126 z126 st126 hQ126
  subst l126 y126 z126
  obtain ⟨rfl, N126q, e126⟩ := hQ126
  have N126 := Fr.app N92 N126q
  have P127 : Wy p.tables e below (s₁.setTop (entryFrame m #[(.long ax), (.long bx), (.long cx), (.long dx), (.int ex)] maxLocals)) (T126.setTop (mkF m 248 #[.val (.long ax), .second, .val (.long bx), .second, .val (.long cx), .second, .val (.long dx), .second, .val (.int ex), .val (.int v2), .val (.int v5), .val (.int v8), .val (.int v11), .val (.int v17), .val (.int v23), .val (.int v29), .val (.int v35), .val (.int v41), .val (.int v47), .val (.int v53), .val (.int v59), .val (.ref b61), .val (.int v95), .val (.int r110), .unset, .unset, .unset] [(.long (Fterm v41))])) := fun t k => P125 t (st126 _ k)
  have P128 : Wy p.tables e below (s₁.setTop (entryFrame m #[(.long ax), (.long bx), (.long cx), (.long dx), (.int ex)] maxLocals)) (T126.setTop (mkF m 250 #[.val (.long ax), .second, .val (.long bx), .second, .val (.long cx), .second, .val (.long dx), .second, .val (.int ex), .val (.int v2), .val (.int v5), .val (.int v8), .val (.int v11), .val (.int v17), .val (.int v23), .val (.int v29), .val (.int v35), .val (.int v41), .val (.int v47), .val (.int v53), .val (.int v59), .val (.ref b61), .val (.int v95), .val (.int r110), .unset, .unset, .unset] [(.int v47), (.long (Fterm v41))])) := fun t k => P127 t (by
    show Steps p.tables e below (T126.setTop (mkF m 248 #[.val (.long ax), .second, .val (.long bx), .second, .val (.long cx), .second, .val (.long dx), .second, .val (.int ex), .val (.int v2), .val (.int v5), .val (.int v8), .val (.int v11), .val (.int v17), .val (.int v23), .val (.int v29), .val (.int v35), .val (.int v41), .val (.int v47), .val (.int v53), .val (.int v59), .val (.ref b61), .val (.int v95), .val (.int r110), .unset, .unset, .unset] [(.long (Fterm v41))])) _
    refine XS.iload X126.here hx rfl (hb hby at_248) rfl  ?_
    exact k)
  obtain ⟨_, _, ⟨T129, L129, k129, n129⟩, -, X129, ⟨Lc129, hQ129, l129, y129, z129⟩, st129⟩ := Jvm.LawKit.callS X126 hx (y := (⟨"com/example/leafpack/leafpack/CodeTableIsCodePinLaw", "term", "(I)J"⟩ : MethodName)) hown (mvT hZ (hw _ (List.mem_of_getElem? (i := 60) rfl))) (mvT hZ (hw _ (List.mem_of_getElem? (i := 61) rfl))) (mvT hZ (hw _ (List.mem_of_getElem? (i := 2) rfl))) (mvT hZ (hw _ (List.mem_of_getElem? (i := 62) rfl))) (by decide) (backOf (W := 2) (rm11 l Z a0 hw [] v47 T89.heap n0 z89k ) hZ (hw _ (List.mem_of_getElem? (i := 62) rfl)) (hw _ (List.mem_of_getElem? (i := 2) rfl)) (by decide) (by decide)) (g := (mkF m 250 #[.val (.long ax), .second, .val (.long bx), .second, .val (.long cx), .second, .val (.long dx), .second, .val (.int ex), .val (.int v2), .val (.int v5), .val (.int v8), .val (.int v11), .val (.int v17), .val (.int v23), .val (.int v29), .val (.int v35), .val (.int v41), .val (.int v47), .val (.int v53), .val (.int v59), .val (.ref b61), .val (.int v95), .val (.int r110), .unset, .unset, .unset] [(.int v47), (.long (Fterm v41))])) rfl (by rw [hml]; rfl) (argsL := [(.int v47)]) (rest := [(.long (Fterm v41))]) (lenOf pd_lIrJ rfl) rfl (by show 2 * 0 + _ ≤ _; exact Nat.le_of_eq rfl) (hb hby at_250) (fun _ _ => ⟨rfl, e126, (by decide : 5 + 0 ≤ _), (by decide : 1547 + 0 ≤ _)⟩)
  dsimp only [Pt.U, Pt.locs, Pt.cells, Pt.slots] at X129 l129 y129 z129 st129 hQ129
  subst l129 y129 z129
  obtain ⟨rfl, N129q, e129⟩ := hQ129
  have N129 := Fr.app N126 N129q
  have P130 : Wy p.tables e below (s₁.setTop (entryFrame m #[(.long ax), (.long bx), (.long cx), (.long dx), (.int ex)] maxLocals)) (T129.setTop (mkF m 253 #[.val (.long ax), .second, .val (.long bx), .second, .val (.long cx), .second, .val (.long dx), .second, .val (.int ex), .val (.int v2), .val (.int v5), .val (.int v8), .val (.int v11), .val (.int v17), .val (.int v23), .val (.int v29), .val (.int v35), .val (.int v41), .val (.int v47), .val (.int v53), .val (.int v59), .val (.ref b61), .val (.int v95), .val (.int r110), .unset, .unset, .unset] [(.long (Fterm v47)), (.long (Fterm v41))])) := fun t k => P128 t (st129 _ k)
  have P131 : Wy p.tables e below (s₁.setTop (entryFrame m #[(.long ax), (.long bx), (.long cx), (.long dx), (.int ex)] maxLocals)) (T129.setTop (mkF m 256 #[.val (.long ax), .second, .val (.long bx), .second, .val (.long cx), .second, .val (.long dx), .second, .val (.int ex), .val (.int v2), .val (.int v5), .val (.int v8), .val (.int v11), .val (.int v17), .val (.int v23), .val (.int v29), .val (.int v35), .val (.int v41), .val (.int v47), .val (.int v53), .val (.int v59), .val (.ref b61), .val (.int v95), .val (.int r110), .unset, .unset, .unset] [(.int v53), (.long ((Fterm v41) + (Fterm v47)))])) := fun t k => P130 t (by
    show Steps p.tables e below (T129.setTop (mkF m 253 #[.val (.long ax), .second, .val (.long bx), .second, .val (.long cx), .second, .val (.long dx), .second, .val (.int ex), .val (.int v2), .val (.int v5), .val (.int v8), .val (.int v11), .val (.int v17), .val (.int v23), .val (.int v29), .val (.int v35), .val (.int v41), .val (.int v47), .val (.int v53), .val (.int v59), .val (.ref b61), .val (.int v95), .val (.int r110), .unset, .unset, .unset] [(.long (Fterm v47)), (.long (Fterm v41))])) _
    refine XS.ladd X129.here hx rfl (hb hby at_253) rfl ?_
    show Steps p.tables e below (T129.setTop (mkF m 254 #[.val (.long ax), .second, .val (.long bx), .second, .val (.long cx), .second, .val (.long dx), .second, .val (.int ex), .val (.int v2), .val (.int v5), .val (.int v8), .val (.int v11), .val (.int v17), .val (.int v23), .val (.int v29), .val (.int v35), .val (.int v41), .val (.int v47), .val (.int v53), .val (.int v59), .val (.ref b61), .val (.int v95), .val (.int r110), .unset, .unset, .unset] [(.long ((Fterm v41) + (Fterm v47)))])) _
    refine XS.iload X129.here hx rfl (hb hby at_254) rfl  ?_
    exact k)
  obtain ⟨_, _, ⟨T132, L132, k132, n132⟩, -, X132, ⟨Lc132, hQ132, l132, y132, z132⟩, st132⟩ := Jvm.LawKit.callS X129 hx (y := (⟨"com/example/leafpack/leafpack/CodeTableIsCodePinLaw", "term", "(I)J"⟩ : MethodName)) hown (mvT hZ (hw _ (List.mem_of_getElem? (i := 60) rfl))) (mvT hZ (hw _ (List.mem_of_getElem? (i := 61) rfl))) (mvT hZ (hw _ (List.mem_of_getElem? (i := 2) rfl))) (mvT hZ (hw _ (List.mem_of_getElem? (i := 62) rfl))) (by decide) (backOf (W := 2) (rm11 l Z a0 hw [] v53 T89.heap n0 z89k ) hZ (hw _ (List.mem_of_getElem? (i := 62) rfl)) (hw _ (List.mem_of_getElem? (i := 2) rfl)) (by decide) (by decide)) (g := (mkF m 256 #[.val (.long ax), .second, .val (.long bx), .second, .val (.long cx), .second, .val (.long dx), .second, .val (.int ex), .val (.int v2), .val (.int v5), .val (.int v8), .val (.int v11), .val (.int v17), .val (.int v23), .val (.int v29), .val (.int v35), .val (.int v41), .val (.int v47), .val (.int v53), .val (.int v59), .val (.ref b61), .val (.int v95), .val (.int r110), .unset, .unset, .unset] [(.int v53), (.long ((Fterm v41) + (Fterm v47)))])) rfl (by rw [hml]; rfl) (argsL := [(.int v53)]) (rest := [(.long ((Fterm v41) + (Fterm v47)))]) (lenOf pd_lIrJ rfl) rfl (by show 2 * 0 + _ ≤ _; exact Nat.le_of_eq rfl) (hb hby at_256) (fun _ _ => ⟨rfl, e129, (by decide : 5 + 0 ≤ _), (by decide : 1547 + 0 ≤ _)⟩)
  dsimp only [Pt.U, Pt.locs, Pt.cells, Pt.slots] at X132 l132 y132 z132 st132 hQ132
  subst l132 y132 z132
  obtain ⟨rfl, N132q, e132⟩ := hQ132
  have N132 := Fr.app N129 N132q
  have P133 : Wy p.tables e below (s₁.setTop (entryFrame m #[(.long ax), (.long bx), (.long cx), (.long dx), (.int ex)] maxLocals)) (T132.setTop (mkF m 259 #[.val (.long ax), .second, .val (.long bx), .second, .val (.long cx), .second, .val (.long dx), .second, .val (.int ex), .val (.int v2), .val (.int v5), .val (.int v8), .val (.int v11), .val (.int v17), .val (.int v23), .val (.int v29), .val (.int v35), .val (.int v41), .val (.int v47), .val (.int v53), .val (.int v59), .val (.ref b61), .val (.int v95), .val (.int r110), .unset, .unset, .unset] [(.long (Fterm v53)), (.long ((Fterm v41) + (Fterm v47)))])) := fun t k => P131 t (st132 _ k)
  have P134 : Wy p.tables e below (s₁.setTop (entryFrame m #[(.long ax), (.long bx), (.long cx), (.long dx), (.int ex)] maxLocals)) (T132.setTop (mkF m 262 #[.val (.long ax), .second, .val (.long bx), .second, .val (.long cx), .second, .val (.long dx), .second, .val (.int ex), .val (.int v2), .val (.int v5), .val (.int v8), .val (.int v11), .val (.int v17), .val (.int v23), .val (.int v29), .val (.int v35), .val (.int v41), .val (.int v47), .val (.int v53), .val (.int v59), .val (.ref b61), .val (.int v95), .val (.int r110), .unset, .unset, .unset] [(.int v59), (.long (((Fterm v41) + (Fterm v47)) + (Fterm v53)))])) := fun t k => P133 t (by
    show Steps p.tables e below (T132.setTop (mkF m 259 #[.val (.long ax), .second, .val (.long bx), .second, .val (.long cx), .second, .val (.long dx), .second, .val (.int ex), .val (.int v2), .val (.int v5), .val (.int v8), .val (.int v11), .val (.int v17), .val (.int v23), .val (.int v29), .val (.int v35), .val (.int v41), .val (.int v47), .val (.int v53), .val (.int v59), .val (.ref b61), .val (.int v95), .val (.int r110), .unset, .unset, .unset] [(.long (Fterm v53)), (.long ((Fterm v41) + (Fterm v47)))])) _
    refine XS.ladd X132.here hx rfl (hb hby at_259) rfl ?_
    show Steps p.tables e below (T132.setTop (mkF m 260 #[.val (.long ax), .second, .val (.long bx), .second, .val (.long cx), .second, .val (.long dx), .second, .val (.int ex), .val (.int v2), .val (.int v5), .val (.int v8), .val (.int v11), .val (.int v17), .val (.int v23), .val (.int v29), .val (.int v35), .val (.int v41), .val (.int v47), .val (.int v53), .val (.int v59), .val (.ref b61), .val (.int v95), .val (.int r110), .unset, .unset, .unset] [(.long (((Fterm v41) + (Fterm v47)) + (Fterm v53)))])) _
    refine XS.iload X132.here hx rfl (hb hby at_260) rfl  ?_
    exact k)
  obtain ⟨_, _, ⟨T135, L135, k135, n135⟩, -, X135, ⟨Lc135, hQ135, l135, y135, z135⟩, st135⟩ := Jvm.LawKit.callS X132 hx (y := (⟨"com/example/leafpack/leafpack/CodeTableIsCodePinLaw", "term", "(I)J"⟩ : MethodName)) hown (mvT hZ (hw _ (List.mem_of_getElem? (i := 60) rfl))) (mvT hZ (hw _ (List.mem_of_getElem? (i := 61) rfl))) (mvT hZ (hw _ (List.mem_of_getElem? (i := 2) rfl))) (mvT hZ (hw _ (List.mem_of_getElem? (i := 62) rfl))) (by decide) (backOf (W := 2) (rm11 l Z a0 hw [] v59 T89.heap n0 z89k ) hZ (hw _ (List.mem_of_getElem? (i := 62) rfl)) (hw _ (List.mem_of_getElem? (i := 2) rfl)) (by decide) (by decide)) (g := (mkF m 262 #[.val (.long ax), .second, .val (.long bx), .second, .val (.long cx), .second, .val (.long dx), .second, .val (.int ex), .val (.int v2), .val (.int v5), .val (.int v8), .val (.int v11), .val (.int v17), .val (.int v23), .val (.int v29), .val (.int v35), .val (.int v41), .val (.int v47), .val (.int v53), .val (.int v59), .val (.ref b61), .val (.int v95), .val (.int r110), .unset, .unset, .unset] [(.int v59), (.long (((Fterm v41) + (Fterm v47)) + (Fterm v53)))])) rfl (by rw [hml]; rfl) (argsL := [(.int v59)]) (rest := [(.long (((Fterm v41) + (Fterm v47)) + (Fterm v53)))]) (lenOf pd_lIrJ rfl) rfl (by show 2 * 0 + _ ≤ _; exact Nat.le_of_eq rfl) (hb hby at_262) (fun _ _ => ⟨rfl, e132, (by decide : 5 + 0 ≤ _), (by decide : 1547 + 0 ≤ _)⟩)
  dsimp only [Pt.U, Pt.locs, Pt.cells, Pt.slots] at X135 l135 y135 z135 st135 hQ135
  subst l135 y135 z135
  obtain ⟨rfl, N135q, e135⟩ := hQ135
  have N135 := Fr.app N132 N135q
  have P136 : Wy p.tables e below (s₁.setTop (entryFrame m #[(.long ax), (.long bx), (.long cx), (.long dx), (.int ex)] maxLocals)) (T135.setTop (mkF m 265 #[.val (.long ax), .second, .val (.long bx), .second, .val (.long cx), .second, .val (.long dx), .second, .val (.int ex), .val (.int v2), .val (.int v5), .val (.int v8), .val (.int v11), .val (.int v17), .val (.int v23), .val (.int v29), .val (.int v35), .val (.int v41), .val (.int v47), .val (.int v53), .val (.int v59), .val (.ref b61), .val (.int v95), .val (.int r110), .unset, .unset, .unset] [(.long (Fterm v59)), (.long (((Fterm v41) + (Fterm v47)) + (Fterm v53)))])) := fun t k => P134 t (st135 _ k)
  have P137 : Wy p.tables e below (s₁.setTop (entryFrame m #[(.long ax), (.long bx), (.long cx), (.long dx), (.int ex)] maxLocals)) (T135.setTop (mkF m 268 #[.val (.long ax), .second, .val (.long bx), .second, .val (.long cx), .second, .val (.long dx), .second, .val (.int ex), .val (.int v2), .val (.int v5), .val (.int v8), .val (.int v11), .val (.int v17), .val (.int v23), .val (.int v29), .val (.int v35), .val (.int v41), .val (.int v47), .val (.int v53), .val (.int v59), .val (.ref b61), .val (.int v95), .val (.int r110), .val (.long ((((Fterm v41) + (Fterm v47)) + (Fterm v53)) + (Fterm v59))), .second, .unset] [])) := fun t k => P136 t (by
    show Steps p.tables e below (T135.setTop (mkF m 265 #[.val (.long ax), .second, .val (.long bx), .second, .val (.long cx), .second, .val (.long dx), .second, .val (.int ex), .val (.int v2), .val (.int v5), .val (.int v8), .val (.int v11), .val (.int v17), .val (.int v23), .val (.int v29), .val (.int v35), .val (.int v41), .val (.int v47), .val (.int v53), .val (.int v59), .val (.ref b61), .val (.int v95), .val (.int r110), .unset, .unset, .unset] [(.long (Fterm v59)), (.long (((Fterm v41) + (Fterm v47)) + (Fterm v53)))])) _
    refine XS.ladd X135.here hx rfl (hb hby at_265) rfl ?_
    show Steps p.tables e below (T135.setTop (mkF m 266 #[.val (.long ax), .second, .val (.long bx), .second, .val (.long cx), .second, .val (.long dx), .second, .val (.int ex), .val (.int v2), .val (.int v5), .val (.int v8), .val (.int v11), .val (.int v17), .val (.int v23), .val (.int v29), .val (.int v35), .val (.int v41), .val (.int v47), .val (.int v53), .val (.int v59), .val (.ref b61), .val (.int v95), .val (.int r110), .unset, .unset, .unset] [(.long ((((Fterm v41) + (Fterm v47)) + (Fterm v53)) + (Fterm v59)))])) _
    refine XS.lstore X135.here hx rfl (hb hby at_266) rfl (l' := #[.val (.long ax), .second, .val (.long bx), .second, .val (.long cx), .second, .val (.long dx), .second, .val (.int ex), .val (.int v2), .val (.int v5), .val (.int v8), .val (.int v11), .val (.int v17), .val (.int v23), .val (.int v29), .val (.int v35), .val (.int v41), .val (.int v47), .val (.int v53), .val (.int v59), .val (.ref b61), .val (.int v95), .val (.int r110), .val (.long ((((Fterm v41) + (Fterm v47)) + (Fterm v53)) + (Fterm v59))), .second, .unset]) rfl ?_
    exact k)
  obtain ⟨v138, hv138⟩ : ∃ z : Int64, z = ((((Fterm v41) + (Fterm v47)) + (Fterm v53)) + (Fterm v59)) := ⟨_, rfl⟩
  have P139 : Wy p.tables e below (s₁.setTop (entryFrame m #[(.long ax), (.long bx), (.long cx), (.long dx), (.int ex)] maxLocals)) (T135.setTop (mkF m 268 #[.val (.long ax), .second, .val (.long bx), .second, .val (.long cx), .second, .val (.long dx), .second, .val (.int ex), .val (.int v2), .val (.int v5), .val (.int v8), .val (.int v11), .val (.int v17), .val (.int v23), .val (.int v29), .val (.int v35), .val (.int v41), .val (.int v47), .val (.int v53), .val (.int v59), .val (.ref b61), .val (.int v95), .val (.int r110), .val (.long v138), .second, .unset] [])) := fun t k => by subst hv138; exact P137 t k
  obtain ⟨r147, hr147, P148⟩ : ∃ r147 : Int32, r147 = (if r110 = (0 : Int32) then (if (lcmpW v138 (1152921504606846976 : Int64)) = (0 : Int32) then (1 : Int32) else (0 : Int32)) else (0 : Int32)) ∧ Wy p.tables e below (s₁.setTop (entryFrame m #[(.long ax), (.long bx), (.long cx), (.long dx), (.int ex)] maxLocals)) (T135.setTop (mkF m 287 #[.val (.long ax), .second, .val (.long bx), .second, .val (.long cx), .second, .val (.long dx), .second, .val (.int ex), .val (.int v2), .val (.int v5), .val (.int v8), .val (.int v11), .val (.int v17), .val (.int v23), .val (.int v29), .val (.int v35), .val (.int v41), .val (.int v47), .val (.int v53), .val (.int v59), .val (.ref b61), .val (.int v95), .val (.int r110), .val (.long v138), .second, .unset] [(.int r147)])) := by
    have P149 : Wy p.tables e below (s₁.setTop (entryFrame m #[(.long ax), (.long bx), (.long cx), (.long dx), (.int ex)] maxLocals)) (T135.setTop (mkF m 270 #[.val (.long ax), .second, .val (.long bx), .second, .val (.long cx), .second, .val (.long dx), .second, .val (.int ex), .val (.int v2), .val (.int v5), .val (.int v8), .val (.int v11), .val (.int v17), .val (.int v23), .val (.int v29), .val (.int v35), .val (.int v41), .val (.int v47), .val (.int v53), .val (.int v59), .val (.ref b61), .val (.int v95), .val (.int r110), .val (.long v138), .second, .unset] [(.int r110)])) := fun t k => P139 t (by
      show Steps p.tables e below (T135.setTop (mkF m 268 #[.val (.long ax), .second, .val (.long bx), .second, .val (.long cx), .second, .val (.long dx), .second, .val (.int ex), .val (.int v2), .val (.int v5), .val (.int v8), .val (.int v11), .val (.int v17), .val (.int v23), .val (.int v29), .val (.int v35), .val (.int v41), .val (.int v47), .val (.int v53), .val (.int v59), .val (.ref b61), .val (.int v95), .val (.int r110), .val (.long v138), .second, .unset] [])) _
      refine XS.iload X135.here hx rfl (hb hby at_268) rfl  ?_
      exact k)
    by_cases hc270_150 : r110 = (0 : Int32)
    · have P151 : Wy p.tables e below (s₁.setTop (entryFrame m #[(.long ax), (.long bx), (.long cx), (.long dx), (.int ex)] maxLocals)) (T135.setTop (mkF m 279 #[.val (.long ax), .second, .val (.long bx), .second, .val (.long cx), .second, .val (.long dx), .second, .val (.int ex), .val (.int v2), .val (.int v5), .val (.int v8), .val (.int v11), .val (.int v17), .val (.int v23), .val (.int v29), .val (.int v35), .val (.int v41), .val (.int v47), .val (.int v53), .val (.int v59), .val (.ref b61), .val (.int v95), .val (.int r110), .val (.long v138), .second, .unset] [(.int (lcmpW v138 (1152921504606846976 : Int64)))])) := fun t k => P149 t (by
        show Steps p.tables e below (T135.setTop (mkF m 270 #[.val (.long ax), .second, .val (.long bx), .second, .val (.long cx), .second, .val (.long dx), .second, .val (.int ex), .val (.int v2), .val (.int v5), .val (.int v8), .val (.int v11), .val (.int v17), .val (.int v23), .val (.int v29), .val (.int v35), .val (.int v41), .val (.int v47), .val (.int v53), .val (.int v59), .val (.ref b61), .val (.int v95), .val (.int r110), .val (.long v138), .second, .unset] [(.int r110)])) _
        refine XS.ifNo X135.here hx rfl (hb hby at_270) rfl ((if0 _ _).trans (teq hc270_150).2) ?_
        show Steps p.tables e below (T135.setTop (mkF m 273 #[.val (.long ax), .second, .val (.long bx), .second, .val (.long cx), .second, .val (.long dx), .second, .val (.int ex), .val (.int v2), .val (.int v5), .val (.int v8), .val (.int v11), .val (.int v17), .val (.int v23), .val (.int v29), .val (.int v35), .val (.int v41), .val (.int v47), .val (.int v53), .val (.int v59), .val (.ref b61), .val (.int v95), .val (.int r110), .val (.long v138), .second, .unset] [])) _
        refine XS.lload X135.here hx rfl (hb hby at_273) rfl  ?_
        show Steps p.tables e below (T135.setTop (mkF m 275 #[.val (.long ax), .second, .val (.long bx), .second, .val (.long cx), .second, .val (.long dx), .second, .val (.int ex), .val (.int v2), .val (.int v5), .val (.int v8), .val (.int v11), .val (.int v17), .val (.int v23), .val (.int v29), .val (.int v35), .val (.int v41), .val (.int v47), .val (.int v53), .val (.int v59), .val (.ref b61), .val (.int v95), .val (.int r110), .val (.long v138), .second, .unset] [(.long v138)])) _
        refine X135.ldc2Long hx hown (mvT hZ (hw _ (List.mem_of_getElem? (i := 63) rfl))) (g := (mkF m 275 #[.val (.long ax), .second, .val (.long bx), .second, .val (.long cx), .second, .val (.long dx), .second, .val (.int ex), .val (.int v2), .val (.int v5), .val (.int v8), .val (.int v11), .val (.int v17), .val (.int v23), .val (.int v29), .val (.int v35), .val (.int v41), .val (.int v47), .val (.int v53), .val (.int v59), .val (.ref b61), .val (.int v95), .val (.int r110), .val (.long v138), .second, .unset] [(.long v138)])) rfl (hb hby at_275) _ ?_
        show Steps p.tables e below (T135.setTop (mkF m 278 #[.val (.long ax), .second, .val (.long bx), .second, .val (.long cx), .second, .val (.long dx), .second, .val (.int ex), .val (.int v2), .val (.int v5), .val (.int v8), .val (.int v11), .val (.int v17), .val (.int v23), .val (.int v29), .val (.int v35), .val (.int v41), .val (.int v47), .val (.int v53), .val (.int v59), .val (.ref b61), .val (.int v95), .val (.int r110), .val (.long v138), .second, .unset] [(.long (1152921504606846976 : Int64)), (.long v138)])) _
        refine XS.lcmp X135.here hx rfl (hb hby at_278) rfl ?_
        exact k)
      by_cases hc279_152 : (lcmpW v138 (1152921504606846976 : Int64)) = (0 : Int32)
      · have P153 : Wy p.tables e below (s₁.setTop (entryFrame m #[(.long ax), (.long bx), (.long cx), (.long dx), (.int ex)] maxLocals)) (T135.setTop (mkF m 287 #[.val (.long ax), .second, .val (.long bx), .second, .val (.long cx), .second, .val (.long dx), .second, .val (.int ex), .val (.int v2), .val (.int v5), .val (.int v8), .val (.int v11), .val (.int v17), .val (.int v23), .val (.int v29), .val (.int v35), .val (.int v41), .val (.int v47), .val (.int v53), .val (.int v59), .val (.ref b61), .val (.int v95), .val (.int r110), .val (.long v138), .second, .unset] [(.int (1 : Int32))])) := fun t k => P151 t (by
          show Steps p.tables e below (T135.setTop (mkF m 279 #[.val (.long ax), .second, .val (.long bx), .second, .val (.long cx), .second, .val (.long dx), .second, .val (.int ex), .val (.int v2), .val (.int v5), .val (.int v8), .val (.int v11), .val (.int v17), .val (.int v23), .val (.int v29), .val (.int v35), .val (.int v41), .val (.int v47), .val (.int v53), .val (.int v59), .val (.ref b61), .val (.int v95), .val (.int r110), .val (.long v138), .second, .unset] [(.int (lcmpW v138 (1152921504606846976 : Int64)))])) _
          refine XS.ifNo X135.here hx rfl (hb hby at_279) rfl ((if0 _ _).trans (teq hc279_152).2) ?_
          show Steps p.tables e below (T135.setTop (mkF m 282 #[.val (.long ax), .second, .val (.long bx), .second, .val (.long cx), .second, .val (.long dx), .second, .val (.int ex), .val (.int v2), .val (.int v5), .val (.int v8), .val (.int v11), .val (.int v17), .val (.int v23), .val (.int v29), .val (.int v35), .val (.int v41), .val (.int v47), .val (.int v53), .val (.int v59), .val (.ref b61), .val (.int v95), .val (.int r110), .val (.long v138), .second, .unset] [])) _
          refine XS.iconst X135.here hx rfl (hb hby at_282) ?_
          show Steps p.tables e below (T135.setTop (mkF m 283 #[.val (.long ax), .second, .val (.long bx), .second, .val (.long cx), .second, .val (.long dx), .second, .val (.int ex), .val (.int v2), .val (.int v5), .val (.int v8), .val (.int v11), .val (.int v17), .val (.int v23), .val (.int v29), .val (.int v35), .val (.int v41), .val (.int v47), .val (.int v53), .val (.int v59), .val (.ref b61), .val (.int v95), .val (.int r110), .val (.long v138), .second, .unset] [(.int (1 : Int32))])) _
          refine XS.goto X135.here hx rfl (pc0 := 283) (pc' := 287) rfl (hb hby at_283) (by decide) (by decide) ?_
          exact k)
        exact ⟨(1 : Int32), (by simp only [if_pos hc270_150, if_pos hc279_152]), P153⟩
      · have P154 : Wy p.tables e below (s₁.setTop (entryFrame m #[(.long ax), (.long bx), (.long cx), (.long dx), (.int ex)] maxLocals)) (T135.setTop (mkF m 287 #[.val (.long ax), .second, .val (.long bx), .second, .val (.long cx), .second, .val (.long dx), .second, .val (.int ex), .val (.int v2), .val (.int v5), .val (.int v8), .val (.int v11), .val (.int v17), .val (.int v23), .val (.int v29), .val (.int v35), .val (.int v41), .val (.int v47), .val (.int v53), .val (.int v59), .val (.ref b61), .val (.int v95), .val (.int r110), .val (.long v138), .second, .unset] [(.int (0 : Int32))])) := fun t k => P151 t (by
          show Steps p.tables e below (T135.setTop (mkF m 279 #[.val (.long ax), .second, .val (.long bx), .second, .val (.long cx), .second, .val (.long dx), .second, .val (.int ex), .val (.int v2), .val (.int v5), .val (.int v8), .val (.int v11), .val (.int v17), .val (.int v23), .val (.int v29), .val (.int v35), .val (.int v41), .val (.int v47), .val (.int v53), .val (.int v59), .val (.ref b61), .val (.int v95), .val (.int r110), .val (.long v138), .second, .unset] [(.int (lcmpW v138 (1152921504606846976 : Int64)))])) _
          refine XS.ifYes X135.here hx rfl (pc0 := 279) (pc' := 286) rfl (hb hby at_279) rfl ((if0 _ _).trans (feq hc279_152).2) (by decide) (by decide) ?_
          show Steps p.tables e below (T135.setTop (mkF m 286 #[.val (.long ax), .second, .val (.long bx), .second, .val (.long cx), .second, .val (.long dx), .second, .val (.int ex), .val (.int v2), .val (.int v5), .val (.int v8), .val (.int v11), .val (.int v17), .val (.int v23), .val (.int v29), .val (.int v35), .val (.int v41), .val (.int v47), .val (.int v53), .val (.int v59), .val (.ref b61), .val (.int v95), .val (.int r110), .val (.long v138), .second, .unset] [])) _
          refine XS.iconst X135.here hx rfl (hb hby at_286) ?_
          exact k)
        exact ⟨(0 : Int32), (by simp only [if_pos hc270_150, if_neg hc279_152]), P154⟩
    · have P155 : Wy p.tables e below (s₁.setTop (entryFrame m #[(.long ax), (.long bx), (.long cx), (.long dx), (.int ex)] maxLocals)) (T135.setTop (mkF m 287 #[.val (.long ax), .second, .val (.long bx), .second, .val (.long cx), .second, .val (.long dx), .second, .val (.int ex), .val (.int v2), .val (.int v5), .val (.int v8), .val (.int v11), .val (.int v17), .val (.int v23), .val (.int v29), .val (.int v35), .val (.int v41), .val (.int v47), .val (.int v53), .val (.int v59), .val (.ref b61), .val (.int v95), .val (.int r110), .val (.long v138), .second, .unset] [(.int (0 : Int32))])) := fun t k => P149 t (by
        show Steps p.tables e below (T135.setTop (mkF m 270 #[.val (.long ax), .second, .val (.long bx), .second, .val (.long cx), .second, .val (.long dx), .second, .val (.int ex), .val (.int v2), .val (.int v5), .val (.int v8), .val (.int v11), .val (.int v17), .val (.int v23), .val (.int v29), .val (.int v35), .val (.int v41), .val (.int v47), .val (.int v53), .val (.int v59), .val (.ref b61), .val (.int v95), .val (.int r110), .val (.long v138), .second, .unset] [(.int r110)])) _
        refine XS.ifYes X135.here hx rfl (pc0 := 270) (pc' := 286) rfl (hb hby at_270) rfl ((if0 _ _).trans (feq hc270_150).2) (by decide) (by decide) ?_
        show Steps p.tables e below (T135.setTop (mkF m 286 #[.val (.long ax), .second, .val (.long bx), .second, .val (.long cx), .second, .val (.long dx), .second, .val (.int ex), .val (.int v2), .val (.int v5), .val (.int v8), .val (.int v11), .val (.int v17), .val (.int v23), .val (.int v29), .val (.int v35), .val (.int v41), .val (.int v47), .val (.int v53), .val (.int v59), .val (.ref b61), .val (.int v95), .val (.int r110), .val (.long v138), .second, .unset] [])) _
        refine XS.iconst X135.here hx rfl (hb hby at_286) ?_
        exact k)
      exact ⟨(0 : Int32), (by simp only [if_neg hc270_150]), P155⟩
  have P156 : Wy p.tables e below (s₁.setTop (entryFrame m #[(.long ax), (.long bx), (.long cx), (.long dx), (.int ex)] maxLocals)) (T135.setTop (mkF m 301 #[.val (.long ax), .second, .val (.long bx), .second, .val (.long cx), .second, .val (.long dx), .second, .val (.int ex), .val (.int v2), .val (.int v5), .val (.int v8), .val (.int v11), .val (.int v17), .val (.int v23), .val (.int v29), .val (.int v35), .val (.int v41), .val (.int v47), .val (.int v53), .val (.int v59), .val (.ref b61), .val (.int v95), .val (.int r110), .val (.long v138), .second, .val (.int r147)] [(.int (1 : Int32))])) := fun t k => P148 t (by
    show Steps p.tables e below (T135.setTop (mkF m 287 #[.val (.long ax), .second, .val (.long bx), .second, .val (.long cx), .second, .val (.long dx), .second, .val (.int ex), .val (.int v2), .val (.int v5), .val (.int v8), .val (.int v11), .val (.int v17), .val (.int v23), .val (.int v29), .val (.int v35), .val (.int v41), .val (.int v47), .val (.int v53), .val (.int v59), .val (.ref b61), .val (.int v95), .val (.int r110), .val (.long v138), .second, .unset] [(.int r147)])) _
    refine XS.istore X135.here hx rfl (hb hby at_287) rfl (l' := #[.val (.long ax), .second, .val (.long bx), .second, .val (.long cx), .second, .val (.long dx), .second, .val (.int ex), .val (.int v2), .val (.int v5), .val (.int v8), .val (.int v11), .val (.int v17), .val (.int v23), .val (.int v29), .val (.int v35), .val (.int v41), .val (.int v47), .val (.int v53), .val (.int v59), .val (.ref b61), .val (.int v95), .val (.int r110), .val (.long v138), .second, .val (.int r147)]) rfl ?_
    show Steps p.tables e below (T135.setTop (mkF m 289 #[.val (.long ax), .second, .val (.long bx), .second, .val (.long cx), .second, .val (.long dx), .second, .val (.int ex), .val (.int v2), .val (.int v5), .val (.int v8), .val (.int v11), .val (.int v17), .val (.int v23), .val (.int v29), .val (.int v35), .val (.int v41), .val (.int v47), .val (.int v53), .val (.int v59), .val (.ref b61), .val (.int v95), .val (.int r110), .val (.long v138), .second, .val (.int r147)] [])) _
    refine XS.iload X135.here hx rfl (hb hby at_289) rfl  ?_
    show Steps p.tables e below (T135.setTop (mkF m 291 #[.val (.long ax), .second, .val (.long bx), .second, .val (.long cx), .second, .val (.long dx), .second, .val (.int ex), .val (.int v2), .val (.int v5), .val (.int v8), .val (.int v11), .val (.int v17), .val (.int v23), .val (.int v29), .val (.int v35), .val (.int v41), .val (.int v47), .val (.int v53), .val (.int v59), .val (.ref b61), .val (.int v95), .val (.int r110), .val (.long v138), .second, .val (.int r147)] [(.int v95)])) _
    refine XS.iload X135.here hx rfl (hb hby at_291) rfl  ?_
    show Steps p.tables e below (T135.setTop (mkF m 293 #[.val (.long ax), .second, .val (.long bx), .second, .val (.long cx), .second, .val (.long dx), .second, .val (.int ex), .val (.int v2), .val (.int v5), .val (.int v8), .val (.int v11), .val (.int v17), .val (.int v23), .val (.int v29), .val (.int v35), .val (.int v41), .val (.int v47), .val (.int v53), .val (.int v59), .val (.ref b61), .val (.int v95), .val (.int r110), .val (.long v138), .second, .val (.int r147)] [(.int r147), (.int v95)])) _
    refine XS.icmpNo X135.here hx rfl (hb hby at_293) rfl (teq (own_law okf0 okf1 okf2 okf3 hfin hv95 hr110 hv138 hr147 : v95 = r147)).2 ?_
    show Steps p.tables e below (T135.setTop (mkF m 296 #[.val (.long ax), .second, .val (.long bx), .second, .val (.long cx), .second, .val (.long dx), .second, .val (.int ex), .val (.int v2), .val (.int v5), .val (.int v8), .val (.int v11), .val (.int v17), .val (.int v23), .val (.int v29), .val (.int v35), .val (.int v41), .val (.int v47), .val (.int v53), .val (.int v59), .val (.ref b61), .val (.int v95), .val (.int r110), .val (.long v138), .second, .val (.int r147)] [])) _
    refine XS.iconst X135.here hx rfl (hb hby at_296) ?_
    show Steps p.tables e below (T135.setTop (mkF m 297 #[.val (.long ax), .second, .val (.long bx), .second, .val (.long cx), .second, .val (.long dx), .second, .val (.int ex), .val (.int v2), .val (.int v5), .val (.int v8), .val (.int v11), .val (.int v17), .val (.int v23), .val (.int v29), .val (.int v35), .val (.int v41), .val (.int v47), .val (.int v53), .val (.int v59), .val (.ref b61), .val (.int v95), .val (.int r110), .val (.long v138), .second, .val (.int r147)] [(.int (1 : Int32))])) _
    refine XS.goto X135.here hx rfl (pc0 := 297) (pc' := 301) rfl (hb hby at_297) (by decide) (by decide) ?_
    exact k)
  obtain ⟨fs, hr, hrun, hended, hW, hsame⟩ := X135.leave (v := some (.int (nar .boolean (1 : Int32)))) (fun h => by rw [Bd.returns] at h; cases h)
  refine ⟨_, _, P156 _ ?_, hrun, hended, _, _, rfl, ?_, ⟨_, rfl⟩, hW, hsame.mono (by decide) (by decide)⟩
  · show Steps p.tables e below (T135.setTop (mkF m 301 #[.val (.long ax), .second, .val (.long bx), .second, .val (.long cx), .second, .val (.long dx), .second, .val (.int ex), .val (.int v2), .val (.int v5), .val (.int v8), .val (.int v11), .val (.int v17), .val (.int v23), .val (.int v29), .val (.int v35), .val (.int v41), .val (.int v47), .val (.int v53), .val (.int v59), .val (.ref b61), .val (.int v95), .val (.int r110), .val (.long v138), .second, .val (.int r147)] [(.int (1 : Int32))])) _
    exact retN X135 hx (t := .boolean) Bd.returns (by simp) (hb hby at_301) hr
  · show Q0 Z ax bx cx dx ex h0 n0 _ T135.heap _
    rw [e135]
    exact ⟨rfl, N135⟩
set_option maxRecDepth 65536 in
set_option maxHeartbeats 40000000 in
theorem comes_1 {Post : Tables → Env → Array Value → State → Outcome → State → Prop} (hpost : ∀ tb e args s v u, (limb_1_1.after args s (.returned v) u = true ∧ limb_1_2.after args s (.returned v) u = true ∧ True) → FrameEnd s (.returned v) u (Jvm.fieldLocs frame_1_writes args s ++ Jvm.arrayLocs frame_1_arrays args s ++ Jvm.staticLocs frame_1_statics s) 24 3200 → Post tb e args s (.returned v) u) :
    ArmFor flags0 classFile x code maxLocals ret World_1 tables_1 room_1 Calls_1 rest_1 Pre_1 Post := by
  intro l hfl _ _ p e ha hc hk s m args below hf hA hF happ hP
  obtain ⟨hcalls, hrest, hpre⟩ := hP
  obtain ⟨-, -, -, hnamed, -, -, -, hat⟩ := (Spec.applies_iff hf).mp happ
  obtain ⟨hg, hn⟩ := and_e (Cond.before_iff.mp (show (Jvm.Cond.and given_1 narrow_1).before args s = true from hpre))
  obtain ⟨g1, g2⟩ := and_e hg
  obtain ⟨g3, g4⟩ := and_e g2
  obtain ⟨g5, g6⟩ := and_e g4
  obtain ⟨g7, g8⟩ := and_e g6
  obtain ⟨g9, g10⟩ := and_e g8
  obtain ⟨w0, w1, w2, w3, w4, rfl⟩ : ∃ w0 w1 w2 w3 w4 : Value, args = #[w0, w1, w2, w3, w4] := by
    have hs : args.size = 5 := by simpa [Cond.value, given_1] using g1
    obtain ⟨L⟩ := args
    match L, hs with
    | [w0, w1, w2, w3, w4], _ => exact ⟨w0, w1, w2, w3, w4, rfl⟩
  have hw := fun d (hd : d ∈ tables_1) => atoms_spec (ws := Jvm.Cond.code x code maxLocals ret :: tables_1) hat d (List.mem_cons_of_mem _ hd)
  have hfit : Fit s := fun {y c} hc i hi => by
    obtain ⟨ha, rfl⟩ := Array.getElem?_eq_some_iff.mp hc
    have q := List.all_eq_true.mp ((Array.all_eq_true_iff_forall_mem.mp hF) _ (Array.getElem_mem ha)) i (List.mem_range.mpr hi)
    simpa [Array.getElem?_eq_getElem hi] using q
  obtain ⟨i0, ei0⟩ := isL_v g3
  obtain rfl : w0 = (.long i0) := Option.some.inj ei0
  obtain ⟨i1, ei1⟩ := isL_v g5
  obtain rfl : w1 = (.long i1) := Option.some.inj ei1
  obtain ⟨i2, ei2⟩ := isL_v g7
  obtain rfl : w2 = (.long i2) := Option.some.inj ei2
  obtain ⟨i3, ei3⟩ := isL_v g9
  obtain rfl : w3 = (.long i3) := Option.some.inj ei3
  obtain ⟨i4, ei4⟩ := is_v g10
  obtain rfl : w4 = (.int i4) := Option.some.inj ei4
  obtain ⟨n, o, h1, h2, h3, _, L, rfl, ⟨rfl, N⟩, hq⟩ := rm0 l s _ hw tables_1 i0 i1 i2 i3 i4 s.heap s.heap.size (Nat.le_refl _)  p e ha hc hk s m _ below hf ((Spec.applies_iff_loose hf).mp happ).1 ⟨rfl, State.Warmed39.refl s, rfl⟩ trivial
  refine ⟨n, _, h1, h2, h3, hpost _ _ _ _ _ _ ⟨Cond.after_iff.mpr rfl, Cond.after_iff.mpr (eq_i res_at (Term.int_eval (1)) rfl), trivial⟩ ⟨hq.1, hq.2.1, (hq.2.2.sift fun y hy => Or.inr (N y hy)).mono (by decide) (by decide)⟩⟩
theorem main_1_1 : Claimed_1_1 := comes_1 fun _ _ _ _ _ _ h hF => ⟨h.1, hF⟩
theorem main_1_2 : Claimed_1_2 := comes_1 fun _ _ _ _ _ _ h hF => ⟨h.2.1, hF⟩
end Jvm.Pilot.@@N@@
namespace Jvm.Pilot.@@N@@
open Jvm Jvm.ClassFile Sem Op Lib Jvm.Free Jvm.Stand Jvm.Pilot.@@N@@.Jvm.D
/-! MADE BY PROGRAM (witnessworld.py) out of the Statement's table words and the real class files: 17 classes; the members and pool entries that the words name. The judged class is class 1, her method 1. -/
namespace start1
open Jvm.ClassFile
def u (s : String) : CpInfo := .utf8 (stringToUtf16 s)
/-- a pool by its gaps: so many unusable entries, then the entry; so many at the end -/
def gap : Nat → List CpInfo → List CpInfo
  | 0, r => r
  | n + 1, r => .unusable :: gap n r
def poolList (es : List (Nat × CpInfo)) (last : Nat) : List CpInfo := es.foldr (fun e r => gap e.1 (e.2 :: r)) (gap last [])
def pool (es : List (Nat × CpInfo)) (last : Nat) : Array CpInfo := ⟨poolList es last⟩
def fileOf (pool : Array CpInfo) (this : Nat) (attrs : Array Attribute := #[]) (ms : Array MethodInfo := #[]) (fl : Nat := 33) (sup : Nat := 0) (ifs : Array Nat := #[]) (fds : Array FieldInfo := #[]) : ClassFile where
  minorVersion := 0
  majorVersion := 65
  constantPool := pool
  accessFlags := fl
  thisClass := this
  superClass := sup
  interfaces := ifs
  fields := fds
  methods := ms
  attributes := attrs
def plain (name : String) (sup : Option ClassId) : Class where
  name := name
  kind := .ordinary
  loader := none
  accessFlags := 33
  super := sup
  interfaces := #[]
  cf := none
  fields := #[]
  methods := #[]
  instanceTypes := #[]
  staticTypes := #[]
  resolved := #[]
  callSites := []
  init := .initialized
  statics := none
  mirror := none

def pool0 : Array CpInfo := pool [(5, u "<init>"), (0, u "()V"), (1, .class_ 10), (1, u "java/lang/Object")] 113

def k0c0 : Code := { maxStack := 0, maxLocals := 1, code := object_method_1_code, exceptionTable := #[], attributes := #[] }
def k0m0 : Method := { name := "<init>", desc := "()V", sig := { parameters := [], returnType := none }, accessFlags := 1, code := some k0c0 }
/-- java/lang/Object -/
def k0 : Class := { plain "java/lang/Object" none with
  accessFlags := 33
  interfaces := #[]
  cf := some (fileOf pool0 8 #[] #[{ accessFlags := 1, nameIndex := 5, descriptorIndex := 6, attributes := #[] }] 33 0 #[] #[])
  fields := #[]
  methods := #[k0m0]
  instanceTypes := #[]
  staticTypes := #[]
  resolved := Array.replicate 124 none
  statics := none }

def pool1 : Array CpInfo := pool [(2, .class_ 4), (0, .nameAndType 5 6), (0, u "java/lang/Object"), (0, u "<init>"), (0, u "()V"), (0, .methodref 8 9), (0, .class_ 10), (0, .nameAndType 11 12), (0, u "com/example/leafpack/leafpack/CodeTableIsCodePinLaw"), (0, u "len"), (0, u "(I)I"), (0, .class_ 14), (0, u "com/example/leafpack/leafpack/CodeTable"), (0, .methodref 13 3), (0, .methodref 13 17), (0, .nameAndType 18 19), (0, u "set"), (0, u "(II)V"), (0, .methodref 13 21), (0, .nameAndType 22 23), (0, u "isCode"), (0, u "()Z"), (0, .methodref 8 25), (0, .nameAndType 26 27), (0, u "term"), (0, u "(I)J"), (0, .long 1152921504606846976), (1, .integer 2147483647), (2, u "law"), (0, u "(JJJJI)Z")] 3

def k1m0 : Method := { name := "<init>", desc := "()V", sig := { parameters := [], returnType := none }, accessFlags := 1, code := none }
def k1c1 : Code := { maxStack := 4, maxLocals := 27, code := code, exceptionTable := #[], attributes := #[] }
def k1m1 : Method := { name := "law", desc := "(JJJJI)Z", sig := { parameters := [.long, .long, .long, .long, .int], returnType := some .boolean }, accessFlags := 9, code := some k1c1 }
def k1c2 : Code := { maxStack := 2, maxLocals := 1, code := method_3_code, exceptionTable := #[], attributes := #[] }
def k1m2 : Method := { name := "len", desc := "(I)I", sig := { parameters := [.int], returnType := some .int }, accessFlags := 10, code := some k1c2 }
def k1c3 : Code := { maxStack := 4, maxLocals := 1, code := method_4_code, exceptionTable := #[], attributes := #[] }
def k1m3 : Method := { name := "term", desc := "(I)J", sig := { parameters := [.int], returnType := some .long }, accessFlags := 10, code := some k1c3 }
/-- com/example/leafpack/leafpack/CodeTableIsCodePinLaw -/
def k1 : Class := { plain "com/example/leafpack/leafpack/CodeTableIsCodePinLaw" (some 0) with
  accessFlags := 49
  interfaces := #[]
  cf := some (fileOf pool1 8 #[] #[{ accessFlags := 1, nameIndex := 5, descriptorIndex := 6, attributes := #[] }, { accessFlags := 9, nameIndex := 33, descriptorIndex := 34, attributes := #[] }, { accessFlags := 10, nameIndex := 11, descriptorIndex := 12, attributes := #[] }, { accessFlags := 10, nameIndex := 26, descriptorIndex := 27, attributes := #[] }] 49 2 #[] #[])
  fields := #[]
  methods := #[k1m0, k1m1, k1m2, k1m3]
  instanceTypes := #[]
  staticTypes := #[]
  resolved := Array.replicate 38 none
  statics := none }

def pool2 : Array CpInfo := pool [(1, .class_ 2), (0, u "java/lang/Long"), (0, .methodref 4 5), (0, .class_ 6), (0, .nameAndType 7 8), (0, u "java/lang/Object"), (0, u "<init>"), (0, u "()V"), (0, .fieldref 10 11), (0, .class_ 12), (0, .nameAndType 13 14), (0, u "com/example/leafpack/leafpack/CodeTable"), (0, u "lengths"), (0, u "[I"), (2, .fieldref 10 18), (0, .nameAndType 19 14), (0, u "countOfLength"), (0, .fieldref 10 21), (0, .nameAndType 22 23), (0, u "valuesOfLength"), (0, u "[J"), (0, .fieldref 10 25), (0, .nameAndType 26 23), (0, u "kraft"), (0, .methodref 28 29), (0, .class_ 30), (0, .nameAndType 31 32), (0, u "java/util/Arrays"), (0, u "fill"), (0, u "([II)V"), (7, u "set"), (0, u "(II)V"), (9, .long 18446744073709551615), (1, .methodref 10 54), (0, .nameAndType 55 56), (0, u "subtractKraft"), (0, u "(I)V"), (0, .fieldref 10 58), (0, .nameAndType 59 60), (0, u "size"), (0, u "I"), (0, .methodref 10 62), (0, .nameAndType 63 56), (0, u "addKraft"), (0, .fieldref 10 65), (0, .nameAndType 66 67), (0, u "changes"), (0, u "J"), (0, .methodref 1 69), (0, .nameAndType 70 71), (0, u "compareUnsigned"), (0, u "(JJ)I"), (0, .long 9223372036854775808), (43, u "WORDS"), (7, u "isCode"), (0, u "()Z")] 25

def k2c0 : Code := { maxStack := 2, maxLocals := 1, code := prog_23_method_1_code, exceptionTable := #[], attributes := #[] }
def k2m0 : Method := { name := "<init>", desc := "()V", sig := { parameters := [], returnType := none }, accessFlags := 0, code := some k2c0 }
def k2c1 : Code := { maxStack := 8, maxLocals := 4, code := prog_23_method_4_code, exceptionTable := #[], attributes := #[] }
def k2m1 : Method := { name := "set", desc := "(II)V", sig := { parameters := [.int, .int], returnType := none }, accessFlags := 0, code := some k2c1 }
def k2c2 : Code := { maxStack := 6, maxLocals := 8, code := prog_23_method_5_code, exceptionTable := #[], attributes := #[] }
def k2m2 : Method := { name := "addKraft", desc := "(I)V", sig := { parameters := [.int], returnType := none }, accessFlags := 2, code := some k2c2 }
def k2c3 : Code := { maxStack := 6, maxLocals := 8, code := prog_23_method_6_code, exceptionTable := #[], attributes := #[] }
def k2m3 : Method := { name := "subtractKraft", desc := "(I)V", sig := { parameters := [.int], returnType := none }, accessFlags := 2, code := some k2c3 }
def k2c4 : Code := { maxStack := 4, maxLocals := 1, code := prog_23_method_7_code, exceptionTable := #[], attributes := #[] }
def k2m4 : Method := { name := "isCode", desc := "()Z", sig := { parameters := [], returnType := some .boolean }, accessFlags := 0, code := some k2c4 }
/-- com/example/leafpack/leafpack/CodeTable -/
def k2 : Class := { plain "com/example/leafpack/leafpack/CodeTable" (some 0) with
  accessFlags := 48
  interfaces := #[]
  cf := some (fileOf pool2 10 #[] #[{ accessFlags := 0, nameIndex := 7, descriptorIndex := 8, attributes := #[] }, { accessFlags := 0, nameIndex := 40, descriptorIndex := 41, attributes := #[] }, { accessFlags := 2, nameIndex := 63, descriptorIndex := 56, attributes := #[] }, { accessFlags := 2, nameIndex := 55, descriptorIndex := 56, attributes := #[] }, { accessFlags := 0, nameIndex := 124, descriptorIndex := 125, attributes := #[] }] 48 4 #[] #[{ accessFlags := 26, nameIndex := 116, descriptorIndex := 60, attributes := #[] }, { accessFlags := 18, nameIndex := 13, descriptorIndex := 14, attributes := #[] }, { accessFlags := 18, nameIndex := 19, descriptorIndex := 14, attributes := #[] }, { accessFlags := 18, nameIndex := 22, descriptorIndex := 23, attributes := #[] }, { accessFlags := 18, nameIndex := 26, descriptorIndex := 23, attributes := #[] }, { accessFlags := 2, nameIndex := 59, descriptorIndex := 60, attributes := #[] }, { accessFlags := 2, nameIndex := 66, descriptorIndex := 67, attributes := #[] }])
  fields := #[{ name := "WORDS", type := .int, accessFlags := 26, slot := 0, constantValue := 0 }, { name := "lengths", type := (.array .int), accessFlags := 18, slot := 0, constantValue := 0 }, { name := "countOfLength", type := (.array .int), accessFlags := 18, slot := 1, constantValue := 0 }, { name := "valuesOfLength", type := (.array .long), accessFlags := 18, slot := 2, constantValue := 0 }, { name := "kraft", type := (.array .long), accessFlags := 18, slot := 3, constantValue := 0 }, { name := "size", type := .int, accessFlags := 2, slot := 4, constantValue := 0 }, { name := "changes", type := .long, accessFlags := 2, slot := 5, constantValue := 0 }]
  methods := #[k2m0, k2m1, k2m2, k2m3, k2m4]
  instanceTypes := #[(.array .int), (.array .int), (.array .long), (.array .long), .int, .long]
  staticTypes := #[.int]
  resolved := Array.replicate 151 none
  statics := none }

def pool3 : Array CpInfo := pool [(2, .class_ 4), (1, u "java/lang/Object"), (0, u "<init>"), (0, u "()V"), (7, .class_ 16), (1, u "java/util/Arrays"), (57, .class_ 76), (1, u "java/util/Arrays$NaturalOrder"), (36, .class_ 115), (1, u "java/util/Arrays$LegacyMergeSort"), (1, u "Z"), (257, .class_ 376), (0, u "java/util/Arrays$ArrayList"), (68, u "$assertionsDisabled"), (269, u "MIN_ARRAY_SORT_GRAN"), (0, u "I"), (2, u "INSERTIONSORT_THRESHOLD"), (120, u "fill"), (4, u "([II)V"), (129, .class_ 976), (0, u "java/util/Arrays$ArrayItr")] 52

def k3m0 : Method := { name := "<init>", desc := "()V", sig := { parameters := [], returnType := none }, accessFlags := 2, code := none }
def k3c1 : Code := { maxStack := 3, maxLocals := 4, code := jdk_65_method_103_code, exceptionTable := #[], attributes := #[] }
def k3m1 : Method := { name := "fill", desc := "([II)V", sig := { parameters := [(.array .int), .int], returnType := none }, accessFlags := 9, code := some k3c1 }
/-- java/util/Arrays -/
def k3 : Class := { plain "java/util/Arrays" (some 0) with
  accessFlags := 49
  interfaces := #[]
  cf := some (fileOf pool3 14 #[.nestMembers #[975, 375, 113, 74]] #[{ accessFlags := 2, nameIndex := 5, descriptorIndex := 6, attributes := #[] }, { accessFlags := 9, nameIndex := 840, descriptorIndex := 845, attributes := #[] }] 49 2 #[] #[{ accessFlags := 26, nameIndex := 715, descriptorIndex := 716, attributes := #[] }, { accessFlags := 26, nameIndex := 719, descriptorIndex := 716, attributes := #[] }, { accessFlags := 4120, nameIndex := 445, descriptorIndex := 117, attributes := #[] }])
  fields := #[{ name := "MIN_ARRAY_SORT_GRAN", type := .int, accessFlags := 26, slot := 0, constantValue := 0 }, { name := "INSERTIONSORT_THRESHOLD", type := .int, accessFlags := 26, slot := 1, constantValue := 0 }, { name := "$assertionsDisabled", type := .boolean, accessFlags := 4120, slot := 2, constantValue := 0 }]
  methods := #[k3m0, k3m1]
  instanceTypes := #[]
  staticTypes := #[.int, .int, .boolean]
  resolved := Array.replicate 1029 none
  statics := none }

def pool4 : Array CpInfo := pool [(1, .class_ 2), (0, u "java/io/Serializable"), (0, .class_ 4), (0, u "java/lang/Object")] 2

/-- java/io/Serializable -/
def k4 : Class := { plain "java/io/Serializable" (some 0) with
  accessFlags := 1537
  interfaces := #[]
  cf := some (fileOf pool4 1 #[] #[] 1537 3 #[] #[])
  fields := #[]
  methods := #[]
  instanceTypes := #[]
  staticTypes := #[]
  resolved := Array.replicate 7 none
  statics := none }

def pool5 : Array CpInfo := pool [(2, .class_ 4), (1, u "java/lang/Object"), (0, u "<init>"), (0, u "()V"), (1, .class_ 10), (1, u "java/lang/Number"), (2, .class_ 14), (0, u "java/io/Serializable"), (0, u "serialVersionUID"), (0, u "J")] 20

def k5m0 : Method := { name := "<init>", desc := "()V", sig := { parameters := [], returnType := none }, accessFlags := 1, code := none }
/-- java/lang/Number -/
def k5 : Class := { plain "java/lang/Number" (some 0) with
  accessFlags := 1057
  interfaces := #[4]
  cf := some (fileOf pool5 8 #[] #[{ accessFlags := 1, nameIndex := 5, descriptorIndex := 6, attributes := #[] }] 1057 2 #[13] #[{ accessFlags := 26, nameIndex := 15, descriptorIndex := 16, attributes := #[] }])
  fields := #[{ name := "serialVersionUID", type := .long, accessFlags := 26, slot := 0, constantValue := 0 }]
  methods := #[k5m0]
  instanceTypes := #[]
  staticTypes := #[.long]
  resolved := Array.replicate 37 none
  statics := none }

def pool6 : Array CpInfo := pool [(1, .class_ 2), (0, u "java/lang/Comparable"), (0, .class_ 4), (0, u "java/lang/Object")] 7

/-- java/lang/Comparable -/
def k6 : Class := { plain "java/lang/Comparable" (some 0) with
  accessFlags := 1537
  interfaces := #[]
  cf := some (fileOf pool6 1 #[] #[] 1537 3 #[] #[])
  fields := #[]
  methods := #[]
  instanceTypes := #[]
  staticTypes := #[]
  resolved := Array.replicate 12 none
  statics := none }

def pool7 : Array CpInfo := pool [(1, .class_ 2), (0, u "java/lang/constant/Constable"), (0, .class_ 4), (0, u "java/lang/Object")] 6

/-- java/lang/constant/Constable -/
def k7 : Class := { plain "java/lang/constant/Constable" (some 0) with
  accessFlags := 1537
  interfaces := #[]
  cf := some (fileOf pool7 1 #[] #[] 1537 3 #[] #[])
  fields := #[]
  methods := #[]
  instanceTypes := #[]
  staticTypes := #[]
  resolved := Array.replicate 11 none
  statics := none }

def pool8 : Array CpInfo := pool [(1, .class_ 2), (0, u "java/lang/constant/ConstantDesc"), (0, .class_ 4), (0, u "java/lang/Object")] 32

/-- java/lang/constant/ConstantDesc -/
def k8 : Class := { plain "java/lang/constant/ConstantDesc" (some 0) with
  accessFlags := 1537
  interfaces := #[]
  cf := some (fileOf pool8 1 #[] #[] 1537 3 #[] #[])
  fields := #[]
  methods := #[]
  instanceTypes := #[]
  staticTypes := #[]
  resolved := Array.replicate 37 none
  statics := none }

def pool9 : Array CpInfo := pool [(1, .class_ 2), (0, u "java/lang/Long"), (165, .long 9223372036854775808), (66, .class_ 237), (1, u "java/lang/Long$LongCache"), (33, .class_ 272), (0, u "java/lang/Number"), (2, u "value"), (0, u "J"), (25, .methodref 1 303), (0, .nameAndType 304 305), (0, u "compare"), (0, u "(JJ)I"), (55, u "TYPE"), (0, u "Ljava/lang/Class;"), (0, .class_ 364), (0, u "java/lang/Comparable"), (0, .class_ 366), (0, u "java/lang/constant/Constable"), (0, .class_ 368), (0, u "java/lang/constant/ConstantDesc"), (0, u "MIN_VALUE"), (1, u "MAX_VALUE"), (4, u "SIZE"), (0, u "I"), (1, u "BYTES"), (1, u "serialVersionUID"), (87, u "compareUnsigned")] 54

def k9c0 : Code := { maxStack := 4, maxLocals := 4, code := jdk_35_method_42_code, exceptionTable := #[], attributes := #[] }
def k9m0 : Method := { name := "compare", desc := "(JJ)I", sig := { parameters := [.long, .long], returnType := some .int }, accessFlags := 9, code := some k9c0 }
def k9c1 : Code := { maxStack := 6, maxLocals := 4, code := jdk_35_method_43_code, exceptionTable := #[], attributes := #[] }
def k9m1 : Method := { name := "compareUnsigned", desc := "(JJ)I", sig := { parameters := [.long, .long], returnType := some .int }, accessFlags := 9, code := some k9c1 }
/-- java/lang/Long -/
def k9 : Class := { plain "java/lang/Long" (some 5) with
  accessFlags := 49
  interfaces := #[6, 7, 8]
  cf := some (fileOf pool9 1 #[.nestMembers #[235]] #[{ accessFlags := 9, nameIndex := 304, descriptorIndex := 305, attributes := #[] }, { accessFlags := 9, nameIndex := 469, descriptorIndex := 305, attributes := #[] }] 49 271 #[363, 365, 367] #[{ accessFlags := 25, nameIndex := 369, descriptorIndex := 276, attributes := #[] }, { accessFlags := 25, nameIndex := 371, descriptorIndex := 276, attributes := #[] }, { accessFlags := 25, nameIndex := 361, descriptorIndex := 362, attributes := #[] }, { accessFlags := 18, nameIndex := 275, descriptorIndex := 276, attributes := #[] }, { accessFlags := 25, nameIndex := 376, descriptorIndex := 377, attributes := #[] }, { accessFlags := 25, nameIndex := 379, descriptorIndex := 377, attributes := #[] }, { accessFlags := 26, nameIndex := 381, descriptorIndex := 276, attributes := #[] }])
  fields := #[{ name := "MIN_VALUE", type := .long, accessFlags := 25, slot := 0, constantValue := 0 }, { name := "MAX_VALUE", type := .long, accessFlags := 25, slot := 1, constantValue := 0 }, { name := "TYPE", type := (.object "java/lang/Class"), accessFlags := 25, slot := 2, constantValue := 0 }, { name := "value", type := .long, accessFlags := 18, slot := 0, constantValue := 0 }, { name := "SIZE", type := .int, accessFlags := 25, slot := 3, constantValue := 0 }, { name := "BYTES", type := .int, accessFlags := 25, slot := 4, constantValue := 0 }, { name := "serialVersionUID", type := .long, accessFlags := 26, slot := 5, constantValue := 0 }]
  methods := #[k9m0, k9m1]
  instanceTypes := #[.long]
  staticTypes := #[.long, .long, (.object "java/lang/Class"), .int, .int, .long]
  resolved := Array.replicate 524 none
  statics := none }

def pool10 : Array CpInfo := pool [(1, u "java/lang/Cloneable"), (0, .class_ 1), (0, u "java/lang/Object"), (0, .class_ 3)] 3

/-- java/lang/Cloneable -/
def k10 : Class := { plain "java/lang/Cloneable" (some 0) with
  accessFlags := 1537
  interfaces := #[]
  cf := some (fileOf pool10 2 #[] #[] 1537 4 #[] #[])
  fields := #[]
  methods := #[]
  instanceTypes := #[]
  staticTypes := #[]
  resolved := Array.replicate 8 none
  statics := none }

/-- the primitive byte -/
def k11 : Class := { plain "byte" none with kind := .primitive 'B', accessFlags := 0x411 }
/-- [B -/
def k12 : Class := { plain "[B" (some 0) with kind := .array 11 .byte, interfaces := #[10, 4], accessFlags := 1041 }

/-- the primitive int -/
def k13 : Class := { plain "int" none with kind := .primitive 'I', accessFlags := 0x411 }
/-- [I -/
def k14 : Class := { plain "[I" (some 0) with kind := .array 13 .int, interfaces := #[10, 4], accessFlags := 1041 }

/-- the primitive long -/
def k15 : Class := { plain "long" none with kind := .primitive 'J', accessFlags := 0x411 }
/-- [J -/
def k16 : Class := { plain "[J" (some 0) with kind := .array 15 .long, interfaces := #[10, 4], accessFlags := 1041 }

def heap : Heap := #[]
def classes : Array Class := #[k0, k1, k2, k3, k4, k5, k6, k7, k8, k9, k10, k11, k12, k13, k14, k15, k16]
def interned : List (Array UInt16 × Addr) := []
def slotsUsed : Nat := 0
def theMethod : MethodId := ⟨1, 1⟩
def args0 : Array Value := #[.long 5, .long 7, .long 5, .long 7, .int 9]
def aboutOver (below : List Frame) : State where
  vm := { classes := classes, interned := interned.toArray }
  heap := heap
  slotsUsed := slotsUsed
  threads := #[{ frames := .invoking theMethod args0 :: below }]
def below0 : List Frame := [.native { method := ⟨0, 0⟩, args := #[] }]
def about1 : State := aboutOver below0
def p0 : Program := .bare "" "" ""
def e0 : Env := launch0.env 0 0 0
theorem w_frames : about1.frames = Frame.invoking theMethod args0 :: below0 := rfl
set_option maxRecDepth 65536 in
theorem w_args : argsFit about1.vm theMethod args0 = true := by decide +kernel
set_option maxRecDepth 65536 in
theorem w_heap : heapFits about1 = true := by decide +kernel
set_option maxRecDepth 65536 in
theorem w_runnable : about1.curStatus? = some .runnable := by decide +kernel
set_option maxRecDepth 65536 in
theorem w_alone : about1.alone = true := by decide +kernel
set_option maxRecDepth 65536 in
theorem w_named : about1.methodNamed? x = some theMethod := by decide +kernel
set_option maxRecDepth 65536 in
theorem w_hears : about1.hears theMethod below0 = true := by decide +kernel
set_option maxRecDepth 65536 in
theorem w_ripe : about1.ripe theMethod args0 below0 = true := by decide +kernel
theorem w_running : about1.status = .running := rfl
set_option maxRecDepth 65536 in
theorem w_room : about1.hasRoom e0.platform room_1 = true :=
  launch0.hasRoom_least _ room_1 (by decide +kernel) (by decide +kernel) (by decide +kernel) (by decide +kernel) (by decide +kernel) (by decide +kernel)
theorem allAtoms_all (ts : List Jvm.Cond) (a : Array Jvm.Value) (st : Jvm.State) : (allAtoms ts).before a st = ts.all (fun c => c.before a st) := by
  induction ts with
  | nil => rfl
  | cons c t ih =>
    show (Jvm.Cond.and c (allAtoms t)).before a st = _
    rw [Jvm.Cond.before_and, ih, List.all_cons]
def words1 : List Jvm.Cond := Jvm.Cond.code x code maxLocals ret :: tables_1
/-- a 'code' word, met by the world's own term for the bytes: nothing is compared byte by byte -/
theorem code_word {y : MethodName} {bytes : ByteArray} {mx : Nat} {rt : Option FieldType} {a : Array Value} {s : State} {m : MethodId} {meth : Method} {c : Code} (h1 : s.methodNamed? y = some m) (h2 : s.vm.method? m = some meth) (h3 : meth.code = some c) (h4 : c.code = bytes)
    (h5 : (c.maxLocals == mx && c.exceptionTable.isEmpty && decide (c.maxStack ≤ mostOperands) && decide (meth.sig.returnType = rt) && !meth.locks && decide (parseMethodDescriptor y.desc = some meth.sig)) = true) : (Jvm.Cond.code y bytes mx rt).before a s = true := by
  simp only [Bool.and_eq_true, beq_iff_eq, Bool.not_eq_true', decide_eq_true_eq] at h5
  obtain ⟨⟨⟨⟨⟨g1, g2⟩, g3⟩, g4⟩, g5⟩, g6⟩ := h5
  simp [Cond.before, Cond.holds, Cond.value, h1, h2, h3, h4, g1, g2, g3, g4, g5, g6]
def isCode : Jvm.Cond → Bool
  | .code _ _ _ _ => true
  | _ => false
theorem all_split {L : List Jvm.Cond} {P : Jvm.Cond → Bool} (h1 : L.all (fun c => isCode c || P c) = true) (h2 : ∀ c ∈ L.filter isCode, P c = true) : L.all P = true := by
  refine List.all_eq_true.mpr fun c hc => ?_
  have h := List.all_eq_true.mp h1 c hc
  rcases Bool.eq_false_or_eq_true (isCode c) with hi | hi
  · exact h2 c (List.mem_filter.mpr ⟨hc, hi⟩)
  · simpa [hi] using h
set_option maxRecDepth 65536 in
theorem w_c0 : (Jvm.Cond.code x code maxLocals ret).before args0 about1 = true := code_word (m := ⟨1, 1⟩) (meth := k1m1) (c := k1c1) (by decide +kernel) rfl rfl rfl (by decide +kernel)
set_option maxRecDepth 65536 in
theorem w_c1 : (Jvm.Cond.code ({ cls := "com/example/leafpack/leafpack/CodeTableIsCodePinLaw", name := "len", desc := "(I)I" } : Jvm.MethodName) method_3_code (1 : Nat) (Option.some Jvm.ClassFile.FieldType.int)).before args0 about1 = true := code_word (m := ⟨1, 2⟩) (meth := k1m2) (c := k1c2) (by decide +kernel) rfl rfl rfl (by decide +kernel)
set_option maxRecDepth 65536 in
theorem w_c2 : (Jvm.Cond.code ({ cls := "com/example/leafpack/leafpack/CodeTable", name := "<init>", desc := "()V" } : Jvm.MethodName) prog_23_method_1_code (1 : Nat) (Option.none : Option Jvm.ClassFile.FieldType)).before args0 about1 = true := code_word (m := ⟨2, 0⟩) (meth := k2m0) (c := k2c0) (by decide +kernel) rfl rfl rfl (by decide +kernel)
set_option maxRecDepth 65536 in
theorem w_c3 : (Jvm.Cond.code ({ cls := "java/lang/Object", name := "<init>", desc := "()V" } : Jvm.MethodName) object_method_1_code (1 : Nat) (Option.none : Option Jvm.ClassFile.FieldType)).before args0 about1 = true := code_word (m := ⟨0, 0⟩) (meth := k0m0) (c := k0c0) (by decide +kernel) rfl rfl rfl (by decide +kernel)
set_option maxRecDepth 65536 in
theorem w_c4 : (Jvm.Cond.code ({ cls := "java/util/Arrays", name := "fill", desc := "([II)V" } : Jvm.MethodName) jdk_65_method_103_code (4 : Nat) (Option.none : Option Jvm.ClassFile.FieldType)).before args0 about1 = true := code_word (m := ⟨3, 1⟩) (meth := k3m1) (c := k3c1) (by decide +kernel) rfl rfl rfl (by decide +kernel)
set_option maxRecDepth 65536 in
theorem w_c5 : (Jvm.Cond.code ({ cls := "com/example/leafpack/leafpack/CodeTable", name := "set", desc := "(II)V" } : Jvm.MethodName) prog_23_method_4_code (4 : Nat) (Option.none : Option Jvm.ClassFile.FieldType)).before args0 about1 = true := code_word (m := ⟨2, 1⟩) (meth := k2m1) (c := k2c1) (by decide +kernel) rfl rfl rfl (by decide +kernel)
set_option maxRecDepth 65536 in
theorem w_c6 : (Jvm.Cond.code ({ cls := "com/example/leafpack/leafpack/CodeTable", name := "addKraft", desc := "(I)V" } : Jvm.MethodName) prog_23_method_5_code (8 : Nat) (Option.none : Option Jvm.ClassFile.FieldType)).before args0 about1 = true := code_word (m := ⟨2, 2⟩) (meth := k2m2) (c := k2c2) (by decide +kernel) rfl rfl rfl (by decide +kernel)
set_option maxRecDepth 65536 in
theorem w_c7 : (Jvm.Cond.code ({ cls := "java/lang/Long", name := "compareUnsigned", desc := "(JJ)I" } : Jvm.MethodName) jdk_35_method_43_code (4 : Nat) (Option.some Jvm.ClassFile.FieldType.int)).before args0 about1 = true := code_word (m := ⟨9, 1⟩) (meth := k9m1) (c := k9c1) (by decide +kernel) rfl rfl rfl (by decide +kernel)
set_option maxRecDepth 65536 in
theorem w_c8 : (Jvm.Cond.code ({ cls := "java/lang/Long", name := "compare", desc := "(JJ)I" } : Jvm.MethodName) jdk_35_method_42_code (4 : Nat) (Option.some Jvm.ClassFile.FieldType.int)).before args0 about1 = true := code_word (m := ⟨9, 0⟩) (meth := k9m0) (c := k9c0) (by decide +kernel) rfl rfl rfl (by decide +kernel)
set_option maxRecDepth 65536 in
theorem w_c9 : (Jvm.Cond.code ({ cls := "com/example/leafpack/leafpack/CodeTable", name := "subtractKraft", desc := "(I)V" } : Jvm.MethodName) prog_23_method_6_code (8 : Nat) (Option.none : Option Jvm.ClassFile.FieldType)).before args0 about1 = true := code_word (m := ⟨2, 3⟩) (meth := k2m3) (c := k2c3) (by decide +kernel) rfl rfl rfl (by decide +kernel)
set_option maxRecDepth 65536 in
theorem w_c10 : (Jvm.Cond.code ({ cls := "com/example/leafpack/leafpack/CodeTable", name := "isCode", desc := "()Z" } : Jvm.MethodName) prog_23_method_7_code (1 : Nat) (Option.some Jvm.ClassFile.FieldType.boolean)).before args0 about1 = true := code_word (m := ⟨2, 4⟩) (meth := k2m4) (c := k2c4) (by decide +kernel) rfl rfl rfl (by decide +kernel)
set_option maxRecDepth 65536 in
theorem w_c11 : (Jvm.Cond.code ({ cls := "com/example/leafpack/leafpack/CodeTableIsCodePinLaw", name := "term", desc := "(I)J" } : Jvm.MethodName) method_4_code (1 : Nat) (Option.some Jvm.ClassFile.FieldType.long)).before args0 about1 = true := code_word (m := ⟨1, 3⟩) (meth := k1m3) (c := k1c3) (by decide +kernel) rfl rfl rfl (by decide +kernel)
def codes1 : List Jvm.Cond := [Jvm.Cond.code x code maxLocals ret, Jvm.Cond.code ({ cls := "com/example/leafpack/leafpack/CodeTableIsCodePinLaw", name := "len", desc := "(I)I" } : Jvm.MethodName) method_3_code (1 : Nat) (Option.some Jvm.ClassFile.FieldType.int), Jvm.Cond.code ({ cls := "com/example/leafpack/leafpack/CodeTable", name := "<init>", desc := "()V" } : Jvm.MethodName) prog_23_method_1_code (1 : Nat) (Option.none : Option Jvm.ClassFile.FieldType), Jvm.Cond.code ({ cls := "java/lang/Object", name := "<init>", desc := "()V" } : Jvm.MethodName) object_method_1_code (1 : Nat) (Option.none : Option Jvm.ClassFile.FieldType), Jvm.Cond.code ({ cls := "java/util/Arrays", name := "fill", desc := "([II)V" } : Jvm.MethodName) jdk_65_method_103_code (4 : Nat) (Option.none : Option Jvm.ClassFile.FieldType), Jvm.Cond.code ({ cls := "com/example/leafpack/leafpack/CodeTable", name := "set", desc := "(II)V" } : Jvm.MethodName) prog_23_method_4_code (4 : Nat) (Option.none : Option Jvm.ClassFile.FieldType), Jvm.Cond.code ({ cls := "com/example/leafpack/leafpack/CodeTable", name := "addKraft", desc := "(I)V" } : Jvm.MethodName) prog_23_method_5_code (8 : Nat) (Option.none : Option Jvm.ClassFile.FieldType), Jvm.Cond.code ({ cls := "java/lang/Long", name := "compareUnsigned", desc := "(JJ)I" } : Jvm.MethodName) jdk_35_method_43_code (4 : Nat) (Option.some Jvm.ClassFile.FieldType.int), Jvm.Cond.code ({ cls := "java/lang/Long", name := "compare", desc := "(JJ)I" } : Jvm.MethodName) jdk_35_method_42_code (4 : Nat) (Option.some Jvm.ClassFile.FieldType.int), Jvm.Cond.code ({ cls := "com/example/leafpack/leafpack/CodeTable", name := "subtractKraft", desc := "(I)V" } : Jvm.MethodName) prog_23_method_6_code (8 : Nat) (Option.none : Option Jvm.ClassFile.FieldType), Jvm.Cond.code ({ cls := "com/example/leafpack/leafpack/CodeTable", name := "isCode", desc := "()Z" } : Jvm.MethodName) prog_23_method_7_code (1 : Nat) (Option.some Jvm.ClassFile.FieldType.boolean), Jvm.Cond.code ({ cls := "com/example/leafpack/leafpack/CodeTableIsCodePinLaw", name := "term", desc := "(I)J" } : Jvm.MethodName) method_4_code (1 : Nat) (Option.some Jvm.ClassFile.FieldType.long)]
set_option maxRecDepth 65536 in
theorem codes_eq : words1.filter isCode = codes1 := rfl
theorem w_codes : ∀ c ∈ words1.filter isCode, c.before args0 about1 = true := by
  rw [codes_eq]
  intro c hc
  simp only [codes1, List.mem_cons, List.not_mem_nil, or_false] at hc
  rcases hc with rfl | rfl | rfl | rfl | rfl | rfl | rfl | rfl | rfl | rfl | rfl | rfl
  · exact w_c0
  · exact w_c1
  · exact w_c2
  · exact w_c3
  · exact w_c4
  · exact w_c5
  · exact w_c6
  · exact w_c7
  · exact w_c8
  · exact w_c9
  · exact w_c10
  · exact w_c11
set_option maxRecDepth 65536 in
theorem w_t1 : (words1.take 24).all (fun c => isCode c || c.before args0 about1) = true := by decide +kernel
set_option maxRecDepth 65536 in
theorem w_t2 : ((words1.drop 24).take 24).all (fun c => isCode c || c.before args0 about1) = true := by decide +kernel
set_option maxRecDepth 65536 in
theorem w_t3 : ((words1.drop 24).drop 24).all (fun c => isCode c || c.before args0 about1) = true := by decide +kernel
theorem w_tables : (allAtoms (Jvm.Cond.code x code maxLocals ret :: tables_1)).before args0 about1 = true := by
  rw [allAtoms_all]
  show words1.all (fun c => c.before args0 about1) = true
  refine all_split ?_ w_codes
  rw [← List.take_append_drop 24 words1, List.all_append, w_t1, ← List.take_append_drop 24 (words1.drop 24), List.all_append, w_t2, w_t3]
  rfl
set_option maxRecDepth 65536 in
theorem w_case : (Jvm.Cond.and given_1 narrow_1).before args0 about1 = true := by decide +kernel
theorem w_applies : (headSpec (Jvm.Cond.code x code maxLocals ret :: tables_1) room_1).applies x e0.platform about1 = true :=
  (Spec.applies_iff w_frames).mpr ⟨w_running, w_runnable, w_alone, w_named, w_hears, w_ripe, w_room, w_tables⟩
theorem atStart : AtStart classFile x code maxLocals ret World_1 tables_1 room_1 Calls_1 rest_1 Pre_1 launch0 p0 e0 about1 theMethod args0 below0 :=
  ⟨lists_1, trivial, launch0.admits_env _ _ _, launch0.least_env, fairChoices_fair.cas, fairChoices_fair.clock, w_frames, w_args, w_heap, w_applies, trivial, trivial, w_case⟩
end start1
theorem witness_1 : WitnessClaimed_1 := ⟨start1.p0, start1.e0, start1.about1, start1.theMethod, start1.args0, start1.below0, start1.atStart⟩
end Jvm.Pilot.@@N@@
