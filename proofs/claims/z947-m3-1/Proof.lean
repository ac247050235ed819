import JvmDerived
import JvmDerived.Pilot.@@N@@Statement
import JvmDerived.Pilot.@@N@@Code
set_option linter.unusedVariables false
set_option linter.unusedSimpArgs false

namespace Jvm.RoadKit
open Sem ClassFile Op Lib Jvm.Stand Jvm.Free Jvm.LawKit
section New
variable {p : Program} {l : Launch} {e : Env} {R : Room} {s : State} {m : MethodId} {args : Array Value} {below : List Frame} {meth : Method} {c : Code} {T : State} {locs : List Loc} {cells slots : Nat}
theorem retI (X : Stand p l e R s m args below meth c T locs cells slots) (hx : p.tables.exec = Jvm.exec) {pc : Nat} {Ls : Array Slot} {z : Int32} {rest : List Value} (hret : meth.sig.returnType = some .int) (hd : decode c.code pc = .ok (.ireturn, 1)) {fs : List Frame}
    (hl : ∀ (f : JFrame) (acts : List Action), f.method = m → f.locked = none → f.entered = [] → (doReturn e (T.setTop f) acts (some (.int z))).1 = T.setFrames fs) : Steps p.tables e below (T.setTop (mkF m pc Ls (.int z :: rest))) (T.setFrames fs) := by
  have hm' : T.vm.method? m = some meth := X.method'
  have hn : narrow .int (.int z) = .int z := rfl
  show Steps p.tables e below (T.setTop { method := m, pc := pc, locals := Ls, stack := _ :: rest, locked := none }) _
  jvm_step X.here [X.here.top, hx, hd, hm', hret, hn]
  first | (intro acts; rw [hl _ acts rfl rfl rfl]) | rw [hl _ _ rfl rfl rfl]
  exact Steps.refl _
end New
end Jvm.RoadKit
namespace Jvm.Pilot.@@N@@
open Jvm Jvm.ClassFile Sem Op Lib Jvm.Free Jvm.Stand Jvm.LawKit Jvm.RoadKit Bundle Jvm.Pilot.@@N@@.Jvm.D
/-- from A the run comes to B -/
abbrev Wy (tb : Tables) (e : Env) (below : List Frame) (A B : State) : Prop := ∀ t, Steps tb e below B t → Steps tb e below A t
theorem own_nat {c : Int32} (h : 0 ≤ c.toInt) : c = Int32.ofNat c.toInt.toNat := by
  apply Int32.toInt_inj.mp
  have h1 := c.toInt_lt
  rw [Int32.toInt_ofNat_of_lt (by omega)]
  omega
theorem own_lt {a b : Int32} : a < b ↔ a.toInt < b.toInt := Int32.lt_iff_toInt_lt
theorem own_ltF (k : Nat) (c : Int32) (h0 : 0 ≤ c.toInt) (h1 : c.toInt < k) : ∃ n : Fin k, c = Int32.ofNat n.val :=
  ⟨⟨c.toInt.toNat, by omega⟩, own_nat h0⟩
theorem own_rem (x y : Int32) (hx : 0 ≤ x.toInt) (hy : 0 < y.toInt) : (x - (x / y) * y).toInt = x.toInt % y.toInt := by
  have h1 := (c_idiv x y y.toInt rfl (by intro h; rw [h] at hy; exact absurd hy (by decide))).1 hx
  have h2 := c_imul (x / y) y
  have h3 := c_isub x ((x / y) * y)
  have r1 := rng32 ((x / y) * y)
  have r2 := rng32 (x - (x / y) * y)
  have r3 := rng32 x
  have r4 := rng32 y
  have e : x.toInt / y.toInt * y.toInt = x.toInt - x.toInt % y.toInt := by
    have := Int.emod_def x.toInt y.toInt
    rw [Int.mul_comm] at this
    omega
  rw [h1, e] at h2
  have b1 := Int.emod_nonneg x.toInt (show y.toInt ≠ 0 by omega)
  have b2 := Int.emod_lt_of_pos x.toInt hy
  have b3 : x.toInt % y.toInt ≤ x.toInt := by
    by_cases q : x.toInt < y.toInt
    · rw [Int.emod_eq_of_lt hx q]; omega
    · omega
  omega
theorem own_nm {a b : Addr} (h : a ≠ b) : a ∉ [b] := by simpa using h
theorem own_nm2 {a b c : Addr} (h : a ≠ b) (h2 : a ≠ c) : a ∉ [b, c] := by simp [h, h2]

theorem own_getD (l : List Int32) (k : Nat) : (l.map Value.int).getD k (.int 0) = .int (l.getD k 0) := by
  induction l generalizing k with
  | nil => simp
  | cons a r ih => cases k with
    | zero => simp
    | succ k => simpa using ih k
theorem own_in {cl : Cell} {j : Int32} (h : ¬ (j < 0 ∨ cl.slots.size ≤ j.toNatClampNeg)) : j.toNatClampNeg < cl.slots.size := Nat.lt_of_not_le fun q => h (Or.inr q)
theorem own_b8 (x : Int32) : x.toInt8.toInt32.toInt8.toInt32 = x.toInt8.toInt32 := by simp
/-- the array at ad is a byte[] of these values -/
def own_By (Z : State) (h : Heap) (ad : Addr) (vs : List Int32) : Prop := ∃ cl : Cell, Arr Z h ad cl .byte ∧ cl.slots.size = vs.length ∧ ∀ k, k < vs.length → cl.slots[k]? = some (.int (vs.getD k 0))
theorem own_by_of {Z : State} {h : Heap} {ad : Addr} {k : ClassId} {z : Int32} {ws : List Value} {vs : List Int32} (V : Arv Z h ad k .byte z ws (.int 0)) (hw : ws = vs.map Value.int) (hz : z.toNatClampNeg = vs.length) : own_By Z h ad vs := by
  obtain ⟨cl, A, -, S, -, H, -⟩ := V
  exact ⟨cl, A, by rw [S, hz], fun k hk => by rw [H k (by rw [S, hz]; exact hk), hw, own_getD]⟩
theorem own_at {cl : Cell} {vs : List Int32} {j : Int32} (Sz : cl.slots.size = vs.length) (Ha : ∀ k, k < vs.length → cl.slots[k]? = some (.int (vs.getD k 0))) (h0 : 0 ≤ j.toInt) (h1 : j.toInt < vs.length) :
    (¬ (j < 0 ∨ cl.slots.size ≤ j.toNatClampNeg)) ∧ cl.slots[j.toNatClampNeg]? = some (.int (vs.getD j.toNatClampNeg 0)) := by
  have e : j.toNatClampNeg = j.toInt.toNat := rfl
  have z : (0 : Int32).toInt = 0 := rfl
  refine ⟨?_, Ha _ (by omega)⟩
  rw [Int32.lt_iff_toInt_lt, Sz]
  omega
theorem own_ofN {n : Nat} (h : n < 2147483648) : (Int32.ofNat n).toInt = n := Int32.toInt_ofNat_of_lt h
theorem own_ofC {n : Nat} (h : n < 2147483648) : (Int32.ofNat n).toNatClampNeg = n := Int32.toNatClampNeg_ofNat_of_lt h
theorem own_one (i : Nat) : Int32.ofNat i + (1 : Int32) = Int32.ofNat (i + 1) := (Int32.ofNat_add i 1).symm
theorem own_ltN {i t : Nat} (hi : i < 2147483648) (ht : t < 2147483648) : Int32.ofNat i < Int32.ofNat t ↔ i < t := by
  rw [Int32.lt_iff_toInt_lt, own_ofN hi, own_ofN ht]; omega

theorem own_or (a b : Nat) (ha : a < 2 ^ 31) (hb : b < 2 ^ 31) : (Int32.ofNat a ||| Int32.ofNat b).toInt = ((a ||| b : Nat) : Int) := by
  have e : Int32.ofNat a ||| Int32.ofNat b = Int32.ofNat (a ||| b) := by
    apply Int32.toBitVec_inj.mp
    rw [Int32.toBitVec_or]
    show BitVec.ofNat 32 a ||| BitVec.ofNat 32 b = BitVec.ofNat 32 (a ||| b)
    rw [BitVec.ofNat_or]
  rw [e, Int32.toInt_ofNat_of_lt (Nat.or_lt_two_pow ha hb)]

def own_u2 (w0 w1 : Int32) : Int32 := ((w0 &&& (255 : Int32)) <<< ((8 : Int32) &&& 31)) ||| (w1 &&& (255 : Int32))
def own_l (a b c d : Int32) : List Int32 := [a.toInt8.toInt32, b.toInt8.toInt32, c.toInt8.toInt32, d.toInt8.toInt32]

def F1 (ax : Int32) : Int32 := (if (ax.toInt8.toInt32) < (0 : Int32) then ((ax.toInt8.toInt32) + (256 : Int32)) else (ax.toInt8.toInt32))
theorem d1_0 : decode method_2_code 0 = .ok (.iload_n 0, 1) := by decide +kernel
theorem d1_1 : decode method_2_code 1 = .ok (.i2b, 1) := by decide +kernel
theorem d1_2 : decode method_2_code 2 = .ok (.istore_n 1, 1) := by decide +kernel
theorem d1_3 : decode method_2_code 3 = .ok (.iload_n 1, 1) := by decide +kernel
theorem d1_4 : decode method_2_code 4 = .ok (.ifCond .ge 9, 3) := by decide +kernel
theorem d1_7 : decode method_2_code 7 = .ok (.iload_n 1, 1) := by decide +kernel
theorem d1_8 : decode method_2_code 8 = .ok (.sipush 256, 3) := by decide +kernel
theorem d1_11 : decode method_2_code 11 = .ok (.iadd, 1) := by decide +kernel
theorem d1_12 : decode method_2_code 12 = .ok (.ireturn, 1) := by decide +kernel
theorem d1_13 : decode method_2_code 13 = .ok (.iload_n 1, 1) := by decide +kernel
theorem d1_14 : decode method_2_code 14 = .ok (.ireturn, 1) := by decide +kernel
theorem pn_com_example_linkwright_linkwright_classfile_ByteCursorU2AtPinLaw : plainName "com/example/linkwright/linkwright/classfile/ByteCursorU2AtPinLaw" = true := by first | (simp [plainName, overriddenIn]; done) | decide +kernel
theorem ef_rm1 (m : MethodId) (ax : Int32)  : entryFrame m #[(.int ax)] 2 = (mkF m 0 #[.val (.int ax), .unset] []) := by first | (simp [entryFrame, mkF, argsToLocals, Value.category]; done) | rfl
def Q1 (Z : State) (ax : Int32) (h0 : Heap) (n0 : Nat) (v : Option Value) (h : Heap) (L : List Loc) : Prop := v = some (.int (F1 ax)) ∧ Fr n0 L ∧ h = h0
set_option maxRecDepth 65536 in
set_option maxHeartbeats 40000000 in
theorem rm1 (l : Launch) (Z : State) (a0 : Array Value) (hw : ∀ d ∈ tables_1, d.before a0 Z = true) (ws : List Jvm.Cond) (ax : Int32) (h0 : Heap) (n0 : Nat) (Z0 : n0 ≤ h0.size)  :
    MetFree l (⟨"com/example/linkwright/linkwright/classfile/ByteCursorU2AtPinLaw", "unsignedOf", "(I)I"⟩ : MethodName) (head1 (Jvm.Cond.code (⟨"com/example/linkwright/linkwright/classfile/ByteCursorU2AtPinLaw", "unsignedOf", "(I)I"⟩ : MethodName) method_2_code 2 (some .int) :: ws) ({ frames := 0, cells := 0, slots := 0, locals := 0 } : Room)) (fun a U => a = #[(.int ax)] ∧ Z.Warmed39 U.vm ∧ U.heap = h0) (fun _ _ _ _ _ => True) (fun _ U o U' => ∃ v L, o = .returned v ∧ Q1 Z ax h0 n0 v U'.heap L ∧ FrameEnd U o U' L ({ frames := 0, cells := 0, slots := 0, locals := 0 } : Room).cells ({ frames := 0, cells := 0, slots := 0, locals := 0 } : Room).slots) := by
  refine MetFree.of_bodySF (plainFor_of_name pn_com_example_linkwright_linkwright_classfile_ByteCursorU2AtPinLaw) hisR ?_
  intro p e s m args below meth c s₁ Bd hml0 hP hK
  obtain ⟨rfl, hZ, hh⟩ := hP
  have hx := Bd.exec
  have hby := Bd.bytes
  have hml : c.maxLocals = 2 := hml0
  have hown : s.vm.findClass "com/example/linkwright/linkwright/classfile/ByteCursorU2AtPinLaw" = some m.cls := findClass_of_methodNamed Bd.named
  have hnm := (name_of_methodNamed Bd.named Bd.method).1
  have X0 : Stand p l e ({ frames := 0, cells := 0, slots := 0, locals := 0 } : Room) s m #[(.int ax)] below meth c s₁ [] 0 0 := Stand.of_body Bd
  have e0 : s₁.heap = h0 := by rw [← hh, Bd.state]; rfl
  have N0 := Fr.nil n0
  have P0 : Wy p.tables e below (s₁.setTop (entryFrame m #[(.int ax)] 2)) (s₁.setTop (mkF m 0 #[.val (.int ax), .unset] [])) := fun t k => castTop (ef_rm1 m ax) k
  have P1 : Wy p.tables e below (s₁.setTop (entryFrame m #[(.int ax)] 2)) (s₁.setTop (mkF m 4 #[.val (.int ax), .val (.int (ax.toInt8.toInt32))] [(.int (ax.toInt8.toInt32))])) := fun t k => P0 t (by
    show Steps p.tables e below (s₁.setTop (mkF m 0 #[.val (.int ax), .unset] [])) _
    refine XS.iloadN X0.here hx rfl (hb hby d1_0) rfl  ?_
    show Steps p.tables e below (s₁.setTop (mkF m 1 #[.val (.int ax), .unset] [(.int ax)])) _
    refine XS.i2b X0.here hx rfl (hb hby d1_1) rfl ?_
    show Steps p.tables e below (s₁.setTop (mkF m 2 #[.val (.int ax), .unset] [(.int (ax.toInt8.toInt32))])) _
    refine XS.istoreN X0.here hx rfl (hb hby d1_2) rfl (l' := #[.val (.int ax), .val (.int (ax.toInt8.toInt32))]) rfl ?_
    show Steps p.tables e below (s₁.setTop (mkF m 3 #[.val (.int ax), .val (.int (ax.toInt8.toInt32))] [])) _
    refine XS.iloadN X0.here hx rfl (hb hby d1_3) rfl  ?_
    exact k)
  by_cases hc4_2 : (ax.toInt8.toInt32) < (0 : Int32)
  · have P3 : Wy p.tables e below (s₁.setTop (entryFrame m #[(.int ax)] 2)) (s₁.setTop (mkF m 12 #[.val (.int ax), .val (.int (ax.toInt8.toInt32))] [(.int ((ax.toInt8.toInt32) + (256 : Int32)))])) := fun t k => P1 t (by
      show Steps p.tables e below (s₁.setTop (mkF m 4 #[.val (.int ax), .val (.int (ax.toInt8.toInt32))] [(.int (ax.toInt8.toInt32))])) _
      refine XS.ifNo X0.here hx rfl (hb hby d1_4) rfl ((if0 _ _).trans (tlt hc4_2).2.1) ?_
      show Steps p.tables e below (s₁.setTop (mkF m 7 #[.val (.int ax), .val (.int (ax.toInt8.toInt32))] [])) _
      refine XS.iloadN X0.here hx rfl (hb hby d1_7) rfl  ?_
      show Steps p.tables e below (s₁.setTop (mkF m 8 #[.val (.int ax), .val (.int (ax.toInt8.toInt32))] [(.int (ax.toInt8.toInt32))])) _
      refine XS.sipush X0.here hx rfl (hb hby d1_8) ?_
      show Steps p.tables e below (s₁.setTop (mkF m 11 #[.val (.int ax), .val (.int (ax.toInt8.toInt32))] [(.int (256 : Int32)), (.int (ax.toInt8.toInt32))])) _
      refine XS.iadd X0.here hx rfl (hb hby d1_11) rfl ?_
      exact k)
    obtain ⟨fs, hr, hrun, hended, hW, hsame⟩ := X0.leave (v := some (.int ((ax.toInt8.toInt32) + (256 : Int32)))) (fun h => by rw [Bd.returns] at h; cases h)
    refine ⟨_, _, P3 _ ?_, hrun, hended, _, _, rfl, ?_, ⟨_, rfl⟩, hW, hsame.mono (by decide) (by decide)⟩
    · show Steps p.tables e below (s₁.setTop (mkF m 12 #[.val (.int ax), .val (.int (ax.toInt8.toInt32))] [(.int ((ax.toInt8.toInt32) + (256 : Int32)))])) _
      exact retI X0 hx Bd.returns (hb hby d1_12) hr
    · show Q1 Z ax h0 n0 _ s₁.heap _
      rw [e0]
      exact ⟨congrArg (fun z => some (Value.int z)) (show _ = F1 ax from by simp only [F1, if_pos hc4_2]; try rfl), N0, rfl⟩
  · have P4 : Wy p.tables e below (s₁.setTop (entryFrame m #[(.int ax)] 2)) (s₁.setTop (mkF m 14 #[.val (.int ax), .val (.int (ax.toInt8.toInt32))] [(.int (ax.toInt8.toInt32))])) := fun t k => P1 t (by
      show Steps p.tables e below (s₁.setTop (mkF m 4 #[.val (.int ax), .val (.int (ax.toInt8.toInt32))] [(.int (ax.toInt8.toInt32))])) _
      refine XS.ifYes X0.here hx rfl (pc0 := 4) (pc' := 13) rfl (hb hby d1_4) rfl ((if0 _ _).trans (flt hc4_2).2.1) (by decide) (by decide) ?_
      show Steps p.tables e below (s₁.setTop (mkF m 13 #[.val (.int ax), .val (.int (ax.toInt8.toInt32))] [])) _
      refine XS.iloadN X0.here hx rfl (hb hby d1_13) rfl  ?_
      exact k)
    obtain ⟨fs, hr, hrun, hended, hW, hsame⟩ := X0.leave (v := some (.int (ax.toInt8.toInt32))) (fun h => by rw [Bd.returns] at h; cases h)
    refine ⟨_, _, P4 _ ?_, hrun, hended, _, _, rfl, ?_, ⟨_, rfl⟩, hW, hsame.mono (by decide) (by decide)⟩
    · show Steps p.tables e below (s₁.setTop (mkF m 14 #[.val (.int ax), .val (.int (ax.toInt8.toInt32))] [(.int (ax.toInt8.toInt32))])) _
      exact retI X0 hx Bd.returns (hb hby d1_14) hr
    · show Q1 Z ax h0 n0 _ s₁.heap _
      rw [e0]
      exact ⟨congrArg (fun z => some (Value.int z)) (show _ = F1 ax from by simp only [F1, if_neg hc4_2]; try rfl), N0, rfl⟩
theorem d2_0 : decode prog_4_method_9_code 0 = .ok (.aload_n 0, 1) := by decide +kernel
theorem d2_1 : decode prog_4_method_9_code 1 = .ok (.iload_n 1, 1) := by decide +kernel
theorem d2_2 : decode prog_4_method_9_code 2 = .ok (.baload, 1) := by decide +kernel
theorem d2_3 : decode prog_4_method_9_code 3 = .ok (.sipush 255, 3) := by decide +kernel
theorem d2_6 : decode prog_4_method_9_code 6 = .ok (.iand, 1) := by decide +kernel
theorem d2_7 : decode prog_4_method_9_code 7 = .ok (.bipush 8, 2) := by decide +kernel
theorem d2_9 : decode prog_4_method_9_code 9 = .ok (.ishl, 1) := by decide +kernel
theorem d2_10 : decode prog_4_method_9_code 10 = .ok (.aload_n 0, 1) := by decide +kernel
theorem d2_11 : decode prog_4_method_9_code 11 = .ok (.iload_n 1, 1) := by decide +kernel
theorem d2_12 : decode prog_4_method_9_code 12 = .ok (.iconst 1, 1) := by decide +kernel
theorem d2_13 : decode prog_4_method_9_code 13 = .ok (.iadd, 1) := by decide +kernel
theorem d2_14 : decode prog_4_method_9_code 14 = .ok (.baload, 1) := by decide +kernel
theorem d2_15 : decode prog_4_method_9_code 15 = .ok (.sipush 255, 3) := by decide +kernel
theorem d2_18 : decode prog_4_method_9_code 18 = .ok (.iand, 1) := by decide +kernel
theorem d2_19 : decode prog_4_method_9_code 19 = .ok (.ior, 1) := by decide +kernel
theorem d2_20 : decode prog_4_method_9_code 20 = .ok (.ireturn, 1) := by decide +kernel
theorem pn_com_example_linkwright_linkwright_classfile_ByteCursor : plainName "com/example/linkwright/linkwright/classfile/ByteCursor" = true := by first | (simp [plainName, overriddenIn]; done) | decide +kernel
theorem ef_rm2 (m : MethodId) (ad : Addr) (jx : Int32)  : entryFrame m #[(.ref ad), (.int jx)] 2 = (mkF m 0 #[.val (.ref ad), .val (.int jx)] []) := by first | (simp [entryFrame, mkF, argsToLocals, Value.category]; done) | rfl
def Q2 (Z : State) (ad : Addr) (jx : Int32) (cl : Cell) (w0 w1 : Int32) (h0 : Heap) (n0 : Nat) (v : Option Value) (h : Heap) (L : List Loc) : Prop := v = some (.int (own_u2 w0 w1)) ∧ Fr n0 L ∧ h = h0
set_option maxRecDepth 65536 in
set_option maxHeartbeats 40000000 in
theorem rm2 (l : Launch) (Z : State) (a0 : Array Value) (hw : ∀ d ∈ tables_1, d.before a0 Z = true) (ws : List Jvm.Cond) (ad : Addr) (jx : Int32) (cl : Cell) (w0 w1 : Int32) (h0 : Heap) (n0 : Nat) (Z0 : n0 ≤ h0.size) (Ar : Arr Z h0 ad cl .byte) (hi0 : ¬ (jx < 0 ∨ cl.slots.size ≤ jx.toNatClampNeg)) (ha0 : cl.slots[jx.toNatClampNeg]? = some (.int w0)) (hi1 : ¬ (jx + (1 : Int32) < 0 ∨ cl.slots.size ≤ (jx + (1 : Int32)).toNatClampNeg)) (ha1 : cl.slots[(jx + (1 : Int32)).toNatClampNeg]? = some (.int w1)) :
    MetFree l (⟨"com/example/linkwright/linkwright/classfile/ByteCursor", "u2At", "([BI)I"⟩ : MethodName) (head1 (Jvm.Cond.code (⟨"com/example/linkwright/linkwright/classfile/ByteCursor", "u2At", "([BI)I"⟩ : MethodName) prog_4_method_9_code 2 (some .int) :: ws) ({ frames := 0, cells := 0, slots := 0, locals := 0 } : Room)) (fun a U => a = #[(.ref ad), (.int jx)] ∧ Z.Warmed39 U.vm ∧ U.heap = h0) (fun _ _ _ _ _ => True) (fun _ U o U' => ∃ v L, o = .returned v ∧ Q2 Z ad jx cl w0 w1 h0 n0 v U'.heap L ∧ FrameEnd U o U' L ({ frames := 0, cells := 0, slots := 0, locals := 0 } : Room).cells ({ frames := 0, cells := 0, slots := 0, locals := 0 } : Room).slots) := by
  refine MetFree.of_bodySF (plainFor_of_name pn_com_example_linkwright_linkwright_classfile_ByteCursor) hisR ?_
  intro p e s m args below meth c s₁ Bd hml0 hP hK
  obtain ⟨rfl, hZ, hh⟩ := hP
  have hx := Bd.exec
  have hby := Bd.bytes
  have hml : c.maxLocals = 2 := hml0
  have hown : s.vm.findClass "com/example/linkwright/linkwright/classfile/ByteCursor" = some m.cls := findClass_of_methodNamed Bd.named
  have hnm := (name_of_methodNamed Bd.named Bd.method).1
  have X0 : Stand p l e ({ frames := 0, cells := 0, slots := 0, locals := 0 } : Room) s m #[(.ref ad), (.int jx)] below meth c s₁ [] 0 0 := Stand.of_body Bd
  have e0 : s₁.heap = h0 := by rw [← hh, Bd.state]; rfl
  have N0 := Fr.nil n0
  have P0 : Wy p.tables e below (s₁.setTop (entryFrame m #[(.ref ad), (.int jx)] 2)) (s₁.setTop (mkF m 0 #[.val (.ref ad), .val (.int jx)] [])) := fun t k => castTop (ef_rm2 m ad jx) k
  have P1 : Wy p.tables e below (s₁.setTop (entryFrame m #[(.ref ad), (.int jx)] 2)) (s₁.setTop (mkF m 2 #[.val (.ref ad), .val (.int jx)] [(.int jx), (.ref ad)])) := fun t k => P0 t (by
    show Steps p.tables e below (s₁.setTop (mkF m 0 #[.val (.ref ad), .val (.int jx)] [])) _
    refine XS.aloadN X0.here hx rfl (hb hby d2_0) rfl rfl  ?_
    show Steps p.tables e below (s₁.setTop (mkF m 1 #[.val (.ref ad), .val (.int jx)] [(.ref ad)])) _
    refine XS.iloadN X0.here hx rfl (hb hby d2_1) rfl  ?_
    exact k)
  have P2 : Wy p.tables e below (s₁.setTop (entryFrame m #[(.ref ad), (.int jx)] 2)) (s₁.setTop (mkF m 3 #[.val (.ref ad), .val (.int jx)] [(.int w0)])) := fun t k => P1 t (X0.baloadBytes hx (j := jx) (v := (.int w0)) (by rw [e0]; exact Ar.1) (State.isArrayOf_alike hZ.alike Ar.2.1) Ar.2.2 hi0 ha0 (g := (mkF m 2 #[.val (.ref ad), .val (.int jx)] [(.int jx), (.ref ad)])) rfl rfl (hb hby d2_2) _ k)
  have P3 : Wy p.tables e below (s₁.setTop (entryFrame m #[(.ref ad), (.int jx)] 2)) (s₁.setTop (mkF m 14 #[.val (.ref ad), .val (.int jx)] [(.int (jx + (1 : Int32))), (.ref ad), (.int ((w0 &&& (255 : Int32)) <<< ((8 : Int32) &&& 31)))])) := fun t k => P2 t (by
    show Steps p.tables e below (s₁.setTop (mkF m 3 #[.val (.ref ad), .val (.int jx)] [(.int w0)])) _
    refine XS.sipush X0.here hx rfl (hb hby d2_3) ?_
    show Steps p.tables e below (s₁.setTop (mkF m 6 #[.val (.ref ad), .val (.int jx)] [(.int (255 : Int32)), (.int w0)])) _
    refine XS.iand X0.here hx rfl (hb hby d2_6) rfl ?_
    show Steps p.tables e below (s₁.setTop (mkF m 7 #[.val (.ref ad), .val (.int jx)] [(.int (w0 &&& (255 : Int32)))])) _
    refine XS.bipush X0.here hx rfl (hb hby d2_7) ?_
    show Steps p.tables e below (s₁.setTop (mkF m 9 #[.val (.ref ad), .val (.int jx)] [(.int (8 : Int32)), (.int (w0 &&& (255 : Int32)))])) _
    refine XS.ishl X0.here hx rfl (hb hby d2_9) rfl ?_
    show Steps p.tables e below (s₁.setTop (mkF m 10 #[.val (.ref ad), .val (.int jx)] [(.int ((w0 &&& (255 : Int32)) <<< ((8 : Int32) &&& 31)))])) _
    refine XS.aloadN X0.here hx rfl (hb hby d2_10) rfl rfl  ?_
    show Steps p.tables e below (s₁.setTop (mkF m 11 #[.val (.ref ad), .val (.int jx)] [(.ref ad), (.int ((w0 &&& (255 : Int32)) <<< ((8 : Int32) &&& 31)))])) _
    refine XS.iloadN X0.here hx rfl (hb hby d2_11) rfl  ?_
    show Steps p.tables e below (s₁.setTop (mkF m 12 #[.val (.ref ad), .val (.int jx)] [(.int jx), (.ref ad), (.int ((w0 &&& (255 : Int32)) <<< ((8 : Int32) &&& 31)))])) _
    refine XS.iconst X0.here hx rfl (hb hby d2_12) ?_
    show Steps p.tables e below (s₁.setTop (mkF m 13 #[.val (.ref ad), .val (.int jx)] [(.int (1 : Int32)), (.int jx), (.ref ad), (.int ((w0 &&& (255 : Int32)) <<< ((8 : Int32) &&& 31)))])) _
    refine XS.iadd X0.here hx rfl (hb hby d2_13) rfl ?_
    exact k)
  have P4 : Wy p.tables e below (s₁.setTop (entryFrame m #[(.ref ad), (.int jx)] 2)) (s₁.setTop (mkF m 15 #[.val (.ref ad), .val (.int jx)] [(.int w1), (.int ((w0 &&& (255 : Int32)) <<< ((8 : Int32) &&& 31)))])) := fun t k => P3 t (X0.baloadBytes hx (j := (jx + (1 : Int32))) (v := (.int w1)) (by rw [e0]; exact Ar.1) (State.isArrayOf_alike hZ.alike Ar.2.1) Ar.2.2 hi1 ha1 (g := (mkF m 14 #[.val (.ref ad), .val (.int jx)] [(.int (jx + (1 : Int32))), (.ref ad), (.int ((w0 &&& (255 : Int32)) <<< ((8 : Int32) &&& 31)))])) rfl rfl (hb hby d2_14) _ k)
  have P5 : Wy p.tables e below (s₁.setTop (entryFrame m #[(.ref ad), (.int jx)] 2)) (s₁.setTop (mkF m 20 #[.val (.ref ad), .val (.int jx)] [(.int (((w0 &&& (255 : Int32)) <<< ((8 : Int32) &&& 31)) ||| (w1 &&& (255 : Int32))))])) := fun t k => P4 t (by
    show Steps p.tables e below (s₁.setTop (mkF m 15 #[.val (.ref ad), .val (.int jx)] [(.int w1), (.int ((w0 &&& (255 : Int32)) <<< ((8 : Int32) &&& 31)))])) _
    refine XS.sipush X0.here hx rfl (hb hby d2_15) ?_
    show Steps p.tables e below (s₁.setTop (mkF m 18 #[.val (.ref ad), .val (.int jx)] [(.int (255 : Int32)), (.int w1), (.int ((w0 &&& (255 : Int32)) <<< ((8 : Int32) &&& 31)))])) _
    refine XS.iand X0.here hx rfl (hb hby d2_18) rfl ?_
    show Steps p.tables e below (s₁.setTop (mkF m 19 #[.val (.ref ad), .val (.int jx)] [(.int (w1 &&& (255 : Int32))), (.int ((w0 &&& (255 : Int32)) <<< ((8 : Int32) &&& 31)))])) _
    refine XS.ior X0.here hx rfl (hb hby d2_19) rfl ?_
    exact k)
  obtain ⟨fs, hr, hrun, hended, hW, hsame⟩ := X0.leave (v := some (.int (((w0 &&& (255 : Int32)) <<< ((8 : Int32) &&& 31)) ||| (w1 &&& (255 : Int32))))) (fun h => by rw [Bd.returns] at h; cases h)
  refine ⟨_, _, P5 _ ?_, hrun, hended, _, _, rfl, ?_, ⟨_, rfl⟩, hW, hsame.mono (by decide) (by decide)⟩
  · show Steps p.tables e below (s₁.setTop (mkF m 20 #[.val (.ref ad), .val (.int jx)] [(.int (((w0 &&& (255 : Int32)) <<< ((8 : Int32) &&& 31)) ||| (w1 &&& (255 : Int32))))])) _
    exact retI X0 hx Bd.returns (hb hby d2_20) hr
  · show Q2 Z ad jx cl w0 w1 h0 n0 _ s₁.heap _
    rw [e0]
    exact ⟨rfl, N0, rfl⟩
theorem own_F (x : Int32) : (F1 x).toInt = x.toInt8.toInt32.toInt % 256 := by
  unfold F1
  have h := c_i2b x
  have e0 : (0 : Int32).toInt = 0 := rfl
  have e1 : (256 : Int32).toInt = 256 := rfl
  split
  · rename_i q
    rw [own_lt] at q
    have a := c_iadd x.toInt8.toInt32 256
    have r := rng32 (x.toInt8.toInt32 + 256)
    omega
  · rename_i q
    rw [own_lt] at q
    omega
theorem own_u (x y : Int32) : (own_u2 x.toInt8.toInt32 y.toInt8.toInt32).toInt = (x.toInt8.toInt32.toInt % 256) * 256 + y.toInt8.toInt32.toInt % 256 := by
  unfold own_u2
  generalize x.toInt8.toInt32 = a
  generalize y.toInt8.toInt32 = b
  have h1 := c_mask a 255 8 (by decide) (by decide)
  have h2 := c_mask b 255 8 (by decide) (by decide)
  have h3 := c_ishl (a &&& 255) 8 8 (by decide)
  have r3 := rng32 ((a &&& 255) <<< ((8 : Int32) &&& 31))
  generalize ((a &&& 255) <<< ((8 : Int32) &&& 31)) = A at *
  generalize (a &&& 255) = a' at *
  generalize (b &&& 255) = b' at *
  rw [show (2 ^ 8 : Nat) = 256 from rfl] at h1 h2 h3
  have e1 := own_nat (c := A) (by omega)
  have e2 := own_nat (c := b') (by omega)
  have o := own_or A.toInt.toNat b'.toInt.toNat (by omega) (by omega)
  rw [← e1, ← e2] at o
  rw [o]
  have k1 : A.toInt.toNat = 2 ^ 8 * (a.toInt % 256).toNat := by omega
  have k2 : b'.toInt.toNat < 2 ^ 8 := by omega
  rw [k1, ← Nat.two_pow_add_eq_or_of_lt k2]
  omega
theorem own_pair {x y : Int32} : own_u2 x.toInt8.toInt32 y.toInt8.toInt32 = F1 x * 256 + F1 y ∧ ¬ own_u2 x.toInt8.toInt32 y.toInt8.toInt32 < 0 ∧ ¬ (65535 : Int32) < own_u2 x.toInt8.toInt32 y.toInt8.toInt32 := by
  have h := own_u x y
  have f1 := own_F x
  have f2 := own_F y
  have m := c_imul (F1 x) 256
  have rm := rng32 (F1 x * 256)
  have s := c_iadd (F1 x * 256) (F1 y)
  have rs := rng32 (F1 x * 256 + F1 y)
  have e1 : (256 : Int32).toInt = 256 := rfl
  have e0 : (0 : Int32).toInt = 0 := rfl
  have e2 : (65535 : Int32).toInt = 65535 := rfl
  rw [e1] at m
  rw [own_lt, own_lt, ← Int32.toInt_inj]
  omega
theorem own_idx {ex i : Int32} (hi : i = ((ex &&& (2147483647 : Int32)) - ((ex &&& (2147483647 : Int32)) / (3 : Int32)) * (3 : Int32))) : i = 0 ∨ i = 1 ∨ i = 2 := by
  have h1 := c_and ex 2147483647 (by decide)
  have h2 := own_rem (ex &&& 2147483647) 3 h1.1 (by decide)
  rw [← hi, show (3 : Int32).toInt = 3 from rfl] at h2
  have h3 : i.toInt = 0 ∨ i.toInt = 1 ∨ i.toInt = 2 := by omega
  rcases h3 with h | h | h
  · exact Or.inl (Int32.toInt_inj.mp h)
  · exact Or.inr (Or.inl (Int32.toInt_inj.mp h))
  · exact Or.inr (Or.inr (Int32.toInt_inj.mp h))
theorem own_i0 {i : Int32} (h : i = 0 ∨ i = 1 ∨ i = 2) : ¬ i < 0 ∧ i < 4 := by rcases h with rfl | rfl | rfl <;> decide
theorem own_i1 {i : Int32} (h : i = 0 ∨ i = 1 ∨ i = 2) : ¬ i + 1 < 0 ∧ i + 1 < 4 := by rcases h with rfl | rfl | rfl <;> decide
theorem own_law {a b c d i r g : Int32} (h : i = 0 ∨ i = 1 ∨ i = 2) (hr : r = (if i = (0 : Int32) then ((F1 a) * (256 : Int32)) + (F1 b) else (if i = (1 : Int32) then ((F1 b) * (256 : Int32)) + (F1 c) else ((F1 c) * (256 : Int32)) + (F1 d))))
    (hg : g = own_u2 ((own_l a b c d).getD i.toNatClampNeg 0) ((own_l a b c d).getD (i + (1 : Int32)).toNatClampNeg 0)) : g = r ∧ ¬ g < 0 ∧ ¬ (65535 : Int32) < g := by
  subst hr hg
  rcases h with rfl | rfl | rfl
  · exact own_pair
  · exact own_pair
  · exact own_pair

theorem pd_lIrI : parseMethodDescriptor "(I)I" = some ⟨[.int], some .int⟩ := by decide +kernel
theorem pd_lABIrI : parseMethodDescriptor "([BI)I" = some ⟨[(.array .byte), .int], some .int⟩ := by decide +kernel
theorem ef_rm0 (m : MethodId) (ax : Int32) (bx : Int32) (cx : Int32) (dx : Int32) (ex : Int32)  : entryFrame m #[(.int ax), (.int bx), (.int cx), (.int dx), (.int ex)] maxLocals = (mkF m 0 #[.val (.int ax), .val (.int bx), .val (.int cx), .val (.int dx), .val (.int ex), .unset, .unset, .unset, .unset] []) := by first | (simp [entryFrame, mkF, argsToLocals, Value.category, maxLocals]; done) | rfl
def Q0 (Z : State) (ax bx cx dx ex : Int32) (h0 : Heap) (n0 : Nat) (v : Option Value) (h : Heap) (L : List Loc) : Prop := v = some (.int 1) ∧ Fr n0 L
set_option maxRecDepth 65536 in
set_option maxHeartbeats 40000000 in
theorem rm0 (l : Launch) (Z : State) (a0 : Array Value) (hw : ∀ d ∈ tables_1, d.before a0 Z = true) (ws : List Jvm.Cond) (ax bx cx dx ex : Int32) (h0 : Heap) (n0 : Nat) (Z0 : n0 ≤ h0.size)  :
    MetFree l x (head1 (Jvm.Cond.code x code maxLocals ret :: ws) room_1) (fun a U => a = #[(.int ax), (.int bx), (.int cx), (.int dx), (.int ex)] ∧ Z.Warmed39 U.vm ∧ U.heap = h0) (fun _ _ _ _ _ => True) (fun _ U o U' => ∃ v L, o = .returned v ∧ Q0 Z ax bx cx dx ex h0 n0 v U'.heap L ∧ FrameEnd U o U' L room_1.cells room_1.slots) := by
  refine MetFree.of_bodySF (plainFor_of_name pn_com_example_linkwright_linkwright_classfile_ByteCursorU2AtPinLaw) hisR ?_
  intro p e s m args below meth c s₁ Bd hml0 hP hK
  obtain ⟨rfl, hZ, hh⟩ := hP
  have hx := Bd.exec
  have hby := Bd.bytes
  have hml : c.maxLocals = 9 := hml0
  have hown : s.vm.findClass "com/example/linkwright/linkwright/classfile/ByteCursorU2AtPinLaw" = some m.cls := findClass_of_methodNamed Bd.named
  have hnm := (name_of_methodNamed Bd.named Bd.method).1
  have X0 : Stand p l e room_1 s m #[(.int ax), (.int bx), (.int cx), (.int dx), (.int ex)] below meth c s₁ [] 0 0 := Stand.of_body Bd
  have e0 : s₁.heap = h0 := by rw [← hh, Bd.state]; rfl
  have N0 := Fr.nil n0
  have P0 : Wy p.tables e below (s₁.setTop (entryFrame m #[(.int ax), (.int bx), (.int cx), (.int dx), (.int ex)] maxLocals)) (s₁.setTop (mkF m 0 #[.val (.int ax), .val (.int bx), .val (.int cx), .val (.int dx), .val (.int ex), .unset, .unset, .unset, .unset] [])) := fun t k => castTop (ef_rm0 m ax bx cx dx ex) k
  have P1 : Wy p.tables e below (s₁.setTop (entryFrame m #[(.int ax), (.int bx), (.int cx), (.int dx), (.int ex)] maxLocals)) (s₁.setTop (mkF m 1 #[.val (.int ax), .val (.int bx), .val (.int cx), .val (.int dx), .val (.int ex), .unset, .unset, .unset, .unset] [(.int (4 : Int32))])) := fun t k => P0 t (by
    show Steps p.tables e below (s₁.setTop (mkF m 0 #[.val (.int ax), .val (.int bx), .val (.int cx), .val (.int dx), .val (.int ex), .unset, .unset, .unset, .unset] [])) _
    refine XS.iconst X0.here hx rfl (hb hby at_0) ?_
    exact k)
  obtain ⟨T2, h2, k2, X2, e2, E2, A2, st2⟩ := newP X0 hx hZ (hw _ (List.mem_of_getElem? (i := 0) rfl)) e0 (g := (mkF m 1 #[.val (.int ax), .val (.int bx), .val (.int cx), .val (.int dx), .val (.int ex), .unset, .unset, .unset, .unset] [(.int (4 : Int32))])) rfl (hb hby at_1) rfl (by decide) (cap := 4) (by decide) (by decide) (by decide) (by decide)
  obtain ⟨b2, g2⟩ : ∃ z, z = h0.size := ⟨_, rfl⟩
  rw [← g2] at A2 st2
  have g_b2 : n0 ≤ b2 := Nat.le_trans Z0 (Nat.le_of_eq g2.symm)
  have z2 : n0 ≤ h2.size := Nat.le_trans Z0 E2.1
  have V2 : Arv Z h2 b2 k2 .byte (4 : Int32) [(.int (0 : Int32)), (.int (0 : Int32)), (.int (0 : Int32)), (.int (0 : Int32))] (.int (0 : Int32)) := (Arv.new A2 (by decide)).pad (pad_rep [] (.int (0 : Int32)) 4)
  have P3 : Wy p.tables e below (s₁.setTop (entryFrame m #[(.int ax), (.int bx), (.int cx), (.int dx), (.int ex)] maxLocals)) (T2.setTop (mkF m 3 #[.val (.int ax), .val (.int bx), .val (.int cx), .val (.int dx), .val (.int ex), .unset, .unset, .unset, .unset] [(.ref b2)])) := fun t k => P1 t (st2 _ k)
  have P4 : Wy p.tables e below (s₁.setTop (entryFrame m #[(.int ax), (.int bx), (.int cx), (.int dx), (.int ex)] maxLocals)) (T2.setTop (mkF m 10 #[.val (.int ax), .val (.int bx), .val (.int cx), .val (.int dx), .val (.int ex), .val (.ref b2), .unset, .unset, .unset] [(.int (ax.toInt8.toInt32)), (.int (0 : Int32)), (.ref b2)])) := fun t k => P3 t (by
    show Steps p.tables e below (T2.setTop (mkF m 3 #[.val (.int ax), .val (.int bx), .val (.int cx), .val (.int dx), .val (.int ex), .unset, .unset, .unset, .unset] [(.ref b2)])) _
    refine XS.astore X2.here hx rfl (hb hby at_3) rfl rfl (l' := #[.val (.int ax), .val (.int bx), .val (.int cx), .val (.int dx), .val (.int ex), .val (.ref b2), .unset, .unset, .unset]) rfl ?_
    show Steps p.tables e below (T2.setTop (mkF m 5 #[.val (.int ax), .val (.int bx), .val (.int cx), .val (.int dx), .val (.int ex), .val (.ref b2), .unset, .unset, .unset] [])) _
    refine XS.aload X2.here hx rfl (hb hby at_5) rfl rfl  ?_
    show Steps p.tables e below (T2.setTop (mkF m 7 #[.val (.int ax), .val (.int bx), .val (.int cx), .val (.int dx), .val (.int ex), .val (.ref b2), .unset, .unset, .unset] [(.ref b2)])) _
    refine XS.iconst X2.here hx rfl (hb hby at_7) ?_
    show Steps p.tables e below (T2.setTop (mkF m 8 #[.val (.int ax), .val (.int bx), .val (.int cx), .val (.int dx), .val (.int ex), .val (.ref b2), .unset, .unset, .unset] [(.int (0 : Int32)), (.ref b2)])) _
    refine XS.iloadN X2.here hx rfl (hb hby at_8) rfl  ?_
    show Steps p.tables e below (T2.setTop (mkF m 9 #[.val (.int ax), .val (.int bx), .val (.int cx), .val (.int dx), .val (.int ex), .val (.ref b2), .unset, .unset, .unset] [(.int ax), (.int (0 : Int32)), (.ref b2)])) _
    refine XS.i2b X2.here hx rfl (hb hby at_9) rfl ?_
    exact k)
  obtain ⟨cl5, Ar5, q5, S5, M5, H5, G5⟩ := V2
  obtain ⟨T5, h5, X5, e5, W5, st5⟩ := stB X2 hx hZ e2 Ar5 (j := (0 : Int32)) (inb_of S5 ⟨by decide, by decide⟩) (g := (mkF m 10 #[.val (.int ax), .val (.int bx), .val (.int cx), .val (.int dx), .val (.int ex), .val (.ref b2), .unset, .unset, .unset] [(.int (ax.toInt8.toInt32)), (.int (0 : Int32)), (.ref b2)])) rfl rfl (hb hby at_10)
  have V5 : Arv Z h5 b2 k2 .byte (4 : Int32) [(.int ((ax.toInt8.toInt32).toInt8.toInt32)), (.int (0 : Int32)), (.int (0 : Int32)), (.int (0 : Int32))] (.int (0 : Int32)) := Arv.set Ar5 q5 S5 M5 H5 G5 (fits_nar_byte _) W5 0 rfl (Nat.le_of_ble_eq_true rfl)
  have V5b : Arv Z h5 b2 k2 .byte (4 : Int32) [(.int (ax.toInt8.toInt32)), (.int (0 : Int32)), (.int (0 : Int32)), (.int (0 : Int32))] (.int (0 : Int32)) := by rw [own_b8 ax] at V5; exact V5
  have N5 := Fr.snoc X5 N0 g_b2
  have z5 : n0 ≤ h5.size := Nat.le_trans z2 (Keep.of_wr W5).1
  have P6 : Wy p.tables e below (s₁.setTop (entryFrame m #[(.int ax), (.int bx), (.int cx), (.int dx), (.int ex)] maxLocals)) (T5.setTop (mkF m 11 #[.val (.int ax), .val (.int bx), .val (.int cx), .val (.int dx), .val (.int ex), .val (.ref b2), .unset, .unset, .unset] [])) := fun t k => P4 t (st5 _ k)
  have P7 : Wy p.tables e below (s₁.setTop (entryFrame m #[(.int ax), (.int bx), (.int cx), (.int dx), (.int ex)] maxLocals)) (T5.setTop (mkF m 16 #[.val (.int ax), .val (.int bx), .val (.int cx), .val (.int dx), .val (.int ex), .val (.ref b2), .unset, .unset, .unset] [(.int (bx.toInt8.toInt32)), (.int (1 : Int32)), (.ref b2)])) := fun t k => P6 t (by
    show Steps p.tables e below (T5.setTop (mkF m 11 #[.val (.int ax), .val (.int bx), .val (.int cx), .val (.int dx), .val (.int ex), .val (.ref b2), .unset, .unset, .unset] [])) _
    refine XS.aload X5.here hx rfl (hb hby at_11) rfl rfl  ?_
    show Steps p.tables e below (T5.setTop (mkF m 13 #[.val (.int ax), .val (.int bx), .val (.int cx), .val (.int dx), .val (.int ex), .val (.ref b2), .unset, .unset, .unset] [(.ref b2)])) _
    refine XS.iconst X5.here hx rfl (hb hby at_13) ?_
    show Steps p.tables e below (T5.setTop (mkF m 14 #[.val (.int ax), .val (.int bx), .val (.int cx), .val (.int dx), .val (.int ex), .val (.ref b2), .unset, .unset, .unset] [(.int (1 : Int32)), (.ref b2)])) _
    refine XS.iloadN X5.here hx rfl (hb hby at_14) rfl  ?_
    show Steps p.tables e below (T5.setTop (mkF m 15 #[.val (.int ax), .val (.int bx), .val (.int cx), .val (.int dx), .val (.int ex), .val (.ref b2), .unset, .unset, .unset] [(.int bx), (.int (1 : Int32)), (.ref b2)])) _
    refine XS.i2b X5.here hx rfl (hb hby at_15) rfl ?_
    exact k)
  obtain ⟨cl8, Ar8, q8, S8, M8, H8, G8⟩ := V5b
  obtain ⟨T8, h8, X8, e8, W8, st8⟩ := stB X5 hx hZ e5 Ar8 (j := (1 : Int32)) (inb_of S8 ⟨by decide, by decide⟩) (g := (mkF m 16 #[.val (.int ax), .val (.int bx), .val (.int cx), .val (.int dx), .val (.int ex), .val (.ref b2), .unset, .unset, .unset] [(.int (bx.toInt8.toInt32)), (.int (1 : Int32)), (.ref b2)])) rfl rfl (hb hby at_16)
  have V8 : Arv Z h8 b2 k2 .byte (4 : Int32) [(.int (ax.toInt8.toInt32)), (.int ((bx.toInt8.toInt32).toInt8.toInt32)), (.int (0 : Int32)), (.int (0 : Int32))] (.int (0 : Int32)) := Arv.set Ar8 q8 S8 M8 H8 G8 (fits_nar_byte _) W8 1 rfl (Nat.le_of_ble_eq_true rfl)
  have V8b : Arv Z h8 b2 k2 .byte (4 : Int32) [(.int (ax.toInt8.toInt32)), (.int (bx.toInt8.toInt32)), (.int (0 : Int32)), (.int (0 : Int32))] (.int (0 : Int32)) := by rw [own_b8 bx] at V8; exact V8
  have N8 := Fr.snoc X8 N5 g_b2
  have z8 : n0 ≤ h8.size := Nat.le_trans z5 (Keep.of_wr W8).1
  have P9 : Wy p.tables e below (s₁.setTop (entryFrame m #[(.int ax), (.int bx), (.int cx), (.int dx), (.int ex)] maxLocals)) (T8.setTop (mkF m 17 #[.val (.int ax), .val (.int bx), .val (.int cx), .val (.int dx), .val (.int ex), .val (.ref b2), .unset, .unset, .unset] [])) := fun t k => P7 t (st8 _ k)
  have P10 : Wy p.tables e below (s₁.setTop (entryFrame m #[(.int ax), (.int bx), (.int cx), (.int dx), (.int ex)] maxLocals)) (T8.setTop (mkF m 22 #[.val (.int ax), .val (.int bx), .val (.int cx), .val (.int dx), .val (.int ex), .val (.ref b2), .unset, .unset, .unset] [(.int (cx.toInt8.toInt32)), (.int (2 : Int32)), (.ref b2)])) := fun t k => P9 t (by
    show Steps p.tables e below (T8.setTop (mkF m 17 #[.val (.int ax), .val (.int bx), .val (.int cx), .val (.int dx), .val (.int ex), .val (.ref b2), .unset, .unset, .unset] [])) _
    refine XS.aload X8.here hx rfl (hb hby at_17) rfl rfl  ?_
    show Steps p.tables e below (T8.setTop (mkF m 19 #[.val (.int ax), .val (.int bx), .val (.int cx), .val (.int dx), .val (.int ex), .val (.ref b2), .unset, .unset, .unset] [(.ref b2)])) _
    refine XS.iconst X8.here hx rfl (hb hby at_19) ?_
    show Steps p.tables e below (T8.setTop (mkF m 20 #[.val (.int ax), .val (.int bx), .val (.int cx), .val (.int dx), .val (.int ex), .val (.ref b2), .unset, .unset, .unset] [(.int (2 : Int32)), (.ref b2)])) _
    refine XS.iloadN X8.here hx rfl (hb hby at_20) rfl  ?_
    show Steps p.tables e below (T8.setTop (mkF m 21 #[.val (.int ax), .val (.int bx), .val (.int cx), .val (.int dx), .val (.int ex), .val (.ref b2), .unset, .unset, .unset] [(.int cx), (.int (2 : Int32)), (.ref b2)])) _
    refine XS.i2b X8.here hx rfl (hb hby at_21) rfl ?_
    exact k)
  obtain ⟨cl11, Ar11, q11, S11, M11, H11, G11⟩ := V8b
  obtain ⟨T11, h11, X11, e11, W11, st11⟩ := stB X8 hx hZ e8 Ar11 (j := (2 : Int32)) (inb_of S11 ⟨by decide, by decide⟩) (g := (mkF m 22 #[.val (.int ax), .val (.int bx), .val (.int cx), .val (.int dx), .val (.int ex), .val (.ref b2), .unset, .unset, .unset] [(.int (cx.toInt8.toInt32)), (.int (2 : Int32)), (.ref b2)])) rfl rfl (hb hby at_22)
  have V11 : Arv Z h11 b2 k2 .byte (4 : Int32) [(.int (ax.toInt8.toInt32)), (.int (bx.toInt8.toInt32)), (.int ((cx.toInt8.toInt32).toInt8.toInt32)), (.int (0 : Int32))] (.int (0 : Int32)) := Arv.set Ar11 q11 S11 M11 H11 G11 (fits_nar_byte _) W11 2 rfl (Nat.le_of_ble_eq_true rfl)
  have V11b : Arv Z h11 b2 k2 .byte (4 : Int32) [(.int (ax.toInt8.toInt32)), (.int (bx.toInt8.toInt32)), (.int (cx.toInt8.toInt32)), (.int (0 : Int32))] (.int (0 : Int32)) := by rw [own_b8 cx] at V11; exact V11
  have N11 := Fr.snoc X11 N8 g_b2
  have z11 : n0 ≤ h11.size := Nat.le_trans z8 (Keep.of_wr W11).1
  have P12 : Wy p.tables e below (s₁.setTop (entryFrame m #[(.int ax), (.int bx), (.int cx), (.int dx), (.int ex)] maxLocals)) (T11.setTop (mkF m 23 #[.val (.int ax), .val (.int bx), .val (.int cx), .val (.int dx), .val (.int ex), .val (.ref b2), .unset, .unset, .unset] [])) := fun t k => P10 t (st11 _ k)
  have P13 : Wy p.tables e below (s₁.setTop (entryFrame m #[(.int ax), (.int bx), (.int cx), (.int dx), (.int ex)] maxLocals)) (T11.setTop (mkF m 28 #[.val (.int ax), .val (.int bx), .val (.int cx), .val (.int dx), .val (.int ex), .val (.ref b2), .unset, .unset, .unset] [(.int (dx.toInt8.toInt32)), (.int (3 : Int32)), (.ref b2)])) := fun t k => P12 t (by
    show Steps p.tables e below (T11.setTop (mkF m 23 #[.val (.int ax), .val (.int bx), .val (.int cx), .val (.int dx), .val (.int ex), .val (.ref b2), .unset, .unset, .unset] [])) _
    refine XS.aload X11.here hx rfl (hb hby at_23) rfl rfl  ?_
    show Steps p.tables e below (T11.setTop (mkF m 25 #[.val (.int ax), .val (.int bx), .val (.int cx), .val (.int dx), .val (.int ex), .val (.ref b2), .unset, .unset, .unset] [(.ref b2)])) _
    refine XS.iconst X11.here hx rfl (hb hby at_25) ?_
    show Steps p.tables e below (T11.setTop (mkF m 26 #[.val (.int ax), .val (.int bx), .val (.int cx), .val (.int dx), .val (.int ex), .val (.ref b2), .unset, .unset, .unset] [(.int (3 : Int32)), (.ref b2)])) _
    refine XS.iloadN X11.here hx rfl (hb hby at_26) rfl  ?_
    show Steps p.tables e below (T11.setTop (mkF m 27 #[.val (.int ax), .val (.int bx), .val (.int cx), .val (.int dx), .val (.int ex), .val (.ref b2), .unset, .unset, .unset] [(.int dx), (.int (3 : Int32)), (.ref b2)])) _
    refine XS.i2b X11.here hx rfl (hb hby at_27) rfl ?_
    exact k)
  obtain ⟨cl14, Ar14, q14, S14, M14, H14, G14⟩ := V11b
  obtain ⟨T14, h14, X14, e14, W14, st14⟩ := stB X11 hx hZ e11 Ar14 (j := (3 : Int32)) (inb_of S14 ⟨by decide, by decide⟩) (g := (mkF m 28 #[.val (.int ax), .val (.int bx), .val (.int cx), .val (.int dx), .val (.int ex), .val (.ref b2), .unset, .unset, .unset] [(.int (dx.toInt8.toInt32)), (.int (3 : Int32)), (.ref b2)])) rfl rfl (hb hby at_28)
  have V14 : Arv Z h14 b2 k2 .byte (4 : Int32) [(.int (ax.toInt8.toInt32)), (.int (bx.toInt8.toInt32)), (.int (cx.toInt8.toInt32)), (.int ((dx.toInt8.toInt32).toInt8.toInt32))] (.int (0 : Int32)) := Arv.set Ar14 q14 S14 M14 H14 G14 (fits_nar_byte _) W14 3 rfl (Nat.le_of_ble_eq_true rfl)
  have V14b : Arv Z h14 b2 k2 .byte (4 : Int32) [(.int (ax.toInt8.toInt32)), (.int (bx.toInt8.toInt32)), (.int (cx.toInt8.toInt32)), (.int (dx.toInt8.toInt32))] (.int (0 : Int32)) := by rw [own_b8 dx] at V14; exact V14
  have N14 := Fr.snoc X14 N11 g_b2
  have z14 : n0 ≤ h14.size := Nat.le_trans z11 (Keep.of_wr W14).1
  have P15 : Wy p.tables e below (s₁.setTop (entryFrame m #[(.int ax), (.int bx), (.int cx), (.int dx), (.int ex)] maxLocals)) (T14.setTop (mkF m 29 #[.val (.int ax), .val (.int bx), .val (.int cx), .val (.int dx), .val (.int ex), .val (.ref b2), .unset, .unset, .unset] [])) := fun t k => P13 t (st14 _ k)
  have P16 : Wy p.tables e below (s₁.setTop (entryFrame m #[(.int ax), (.int bx), (.int cx), (.int dx), (.int ex)] maxLocals)) (T14.setTop (mkF m 38 #[.val (.int ax), .val (.int bx), .val (.int cx), .val (.int dx), .val (.int ex), .val (.ref b2), .val (.int ((ex &&& (2147483647 : Int32)) - ((ex &&& (2147483647 : Int32)) / (3 : Int32)) * (3 : Int32))), .unset, .unset] [])) := fun t k => P15 t (by
    show Steps p.tables e below (T14.setTop (mkF m 29 #[.val (.int ax), .val (.int bx), .val (.int cx), .val (.int dx), .val (.int ex), .val (.ref b2), .unset, .unset, .unset] [])) _
    refine XS.iload X14.here hx rfl (hb hby at_29) rfl  ?_
    show Steps p.tables e below (T14.setTop (mkF m 31 #[.val (.int ax), .val (.int bx), .val (.int cx), .val (.int dx), .val (.int ex), .val (.ref b2), .unset, .unset, .unset] [(.int ex)])) _
    refine X14.ldcInt hx hown (mvT hZ (hw _ (List.mem_of_getElem? (i := 1) rfl))) (g := (mkF m 31 #[.val (.int ax), .val (.int bx), .val (.int cx), .val (.int dx), .val (.int ex), .val (.ref b2), .unset, .unset, .unset] [(.int ex)])) rfl (hb hby at_31) _ ?_
    show Steps p.tables e below (T14.setTop (mkF m 33 #[.val (.int ax), .val (.int bx), .val (.int cx), .val (.int dx), .val (.int ex), .val (.ref b2), .unset, .unset, .unset] [(.int (2147483647 : Int32)), (.int ex)])) _
    refine XS.iand X14.here hx rfl (hb hby at_33) rfl ?_
    show Steps p.tables e below (T14.setTop (mkF m 34 #[.val (.int ax), .val (.int bx), .val (.int cx), .val (.int dx), .val (.int ex), .val (.ref b2), .unset, .unset, .unset] [(.int (ex &&& (2147483647 : Int32)))])) _
    refine XS.iconst X14.here hx rfl (hb hby at_34) ?_
    show Steps p.tables e below (T14.setTop (mkF m 35 #[.val (.int ax), .val (.int bx), .val (.int cx), .val (.int dx), .val (.int ex), .val (.ref b2), .unset, .unset, .unset] [(.int (3 : Int32)), (.int (ex &&& (2147483647 : Int32)))])) _
    refine XS.irem X14.here hx rfl (hb hby at_35) rfl (by decide) ?_
    show Steps p.tables e below (T14.setTop (mkF m 36 #[.val (.int ax), .val (.int bx), .val (.int cx), .val (.int dx), .val (.int ex), .val (.ref b2), .unset, .unset, .unset] [(.int ((ex &&& (2147483647 : Int32)) - ((ex &&& (2147483647 : Int32)) / (3 : Int32)) * (3 : Int32)))])) _
    refine XS.istore X14.here hx rfl (hb hby at_36) rfl (l' := #[.val (.int ax), .val (.int bx), .val (.int cx), .val (.int dx), .val (.int ex), .val (.ref b2), .val (.int ((ex &&& (2147483647 : Int32)) - ((ex &&& (2147483647 : Int32)) / (3 : Int32)) * (3 : Int32))), .unset, .unset]) rfl ?_
    exact k)
  obtain ⟨v17, hv17⟩ : ∃ z : Int32, z = ((ex &&& (2147483647 : Int32)) - ((ex &&& (2147483647 : Int32)) / (3 : Int32)) * (3 : Int32)) := ⟨_, rfl⟩
  have P18 : Wy p.tables e below (s₁.setTop (entryFrame m #[(.int ax), (.int bx), (.int cx), (.int dx), (.int ex)] maxLocals)) (T14.setTop (mkF m 38 #[.val (.int ax), .val (.int bx), .val (.int cx), .val (.int dx), .val (.int ex), .val (.ref b2), .val (.int v17), .unset, .unset] [])) := fun t k => by subst hv17; exact P16 t k
  obtain ⟨T46, L46, X46, e46, N46, r44, hr44, P45⟩ : ∃ T46 L46, Stand p l e room_1 s m #[(.int ax), (.int bx), (.int cx), (.int dx), (.int ex)] below meth c T46 L46 1 4 ∧ T46.heap = h14 ∧ Fr n0 L46 ∧ ∃ r44 : Int32, r44 = (if v17 = (0 : Int32) then (((F1 ax) * (256 : Int32)) + (F1 bx)) else (if v17 = (1 : Int32) then (((F1 bx) * (256 : Int32)) + (F1 cx)) else (((F1 cx) * (256 : Int32)) + (F1 dx)))) ∧ Wy p.tables e below (s₁.setTop (entryFrame m #[(.int ax), (.int bx), (.int cx), (.int dx), (.int ex)] maxLocals)) (T46.setTop (mkF m 100 #[.val (.int ax), .val (.int bx), .val (.int cx), .val (.int dx), .val (.int ex), .val (.ref b2), .val (.int v17), .val (.int r44), .unset] [])) := by
    have P47 : Wy p.tables e below (s₁.setTop (entryFrame m #[(.int ax), (.int bx), (.int cx), (.int dx), (.int ex)] maxLocals)) (T14.setTop (mkF m 40 #[.val (.int ax), .val (.int bx), .val (.int cx), .val (.int dx), .val (.int ex), .val (.ref b2), .val (.int v17), .unset, .unset] [(.int v17)])) := fun t k => P18 t (by
      show Steps p.tables e below (T14.setTop (mkF m 38 #[.val (.int ax), .val (.int bx), .val (.int cx), .val (.int dx), .val (.int ex), .val (.ref b2), .val (.int v17), .unset, .unset] [])) _
      refine XS.iload X14.here hx rfl (hb hby at_38) rfl  ?_
      exact k)
    by_cases hc40_48 : v17 = (0 : Int32)
    · have P49 : Wy p.tables e below (s₁.setTop (entryFrame m #[(.int ax), (.int bx), (.int cx), (.int dx), (.int ex)] maxLocals)) (T14.setTop (mkF m 44 #[.val (.int ax), .val (.int bx), .val (.int cx), .val (.int dx), .val (.int ex), .val (.ref b2), .val (.int v17), .unset, .unset] [(.int ax)])) := fun t k => P47 t (by
        show Steps p.tables e below (T14.setTop (mkF m 40 #[.val (.int ax), .val (.int bx), .val (.int cx), .val (.int dx), .val (.int ex), .val (.ref b2), .val (.int v17), .unset, .unset] [(.int v17)])) _
        refine XS.ifNo X14.here hx rfl (hb hby at_40) rfl ((if0 _ _).trans (teq hc40_48).2) ?_
        show Steps p.tables e below (T14.setTop (mkF m 43 #[.val (.int ax), .val (.int bx), .val (.int cx), .val (.int dx), .val (.int ex), .val (.ref b2), .val (.int v17), .unset, .unset] [])) _
        refine XS.iloadN X14.here hx rfl (hb hby at_43) rfl  ?_
        exact k)
      obtain ⟨_, _, ⟨T50, L50, k50, n50⟩, -, X50, ⟨Lc50, hQ50, l50, y50, z50⟩, st50⟩ := Jvm.LawKit.callS X14 hx (y := (⟨"com/example/linkwright/linkwright/classfile/ByteCursorU2AtPinLaw", "unsignedOf", "(I)I"⟩ : MethodName)) hown (mvT hZ (hw _ (List.mem_of_getElem? (i := 2) rfl))) (mvT hZ (hw _ (List.mem_of_getElem? (i := 3) rfl))) (mvT hZ (hw _ (List.mem_of_getElem? (i := 4) rfl))) (mvT hZ (hw _ (List.mem_of_getElem? (i := 5) rfl))) (by decide) (backOf (W := 0) (rm1 l Z a0 hw [] ax h14 n0 z14 ) hZ (hw _ (List.mem_of_getElem? (i := 5) rfl)) (hw _ (List.mem_of_getElem? (i := 4) rfl)) (by decide) (by decide)) (g := (mkF m 44 #[.val (.int ax), .val (.int bx), .val (.int cx), .val (.int dx), .val (.int ex), .val (.ref b2), .val (.int v17), .unset, .unset] [(.int ax)])) rfl (by rw [hml]; rfl) (argsL := [(.int ax)]) (rest := []) (lenOf pd_lIrI rfl) rfl (by show 2 * 0 + _ ≤ _; exact Nat.le_of_eq rfl) (hb hby at_44) (fun _ _ => ⟨rfl, e14, (by decide : 1 + 0 ≤ _), (by decide : 4 + 0 ≤ _)⟩)
      dsimp only [Pt.U, Pt.locs, Pt.cells, Pt.slots] at X50 l50 y50 z50 st50 hQ50
      subst l50 y50 z50
      obtain ⟨rfl, N50q, e50⟩ := hQ50
      have N50 := Fr.app N14 N50q
      have P51 : Wy p.tables e below (s₁.setTop (entryFrame m #[(.int ax), (.int bx), (.int cx), (.int dx), (.int ex)] maxLocals)) (T50.setTop (mkF m 47 #[.val (.int ax), .val (.int bx), .val (.int cx), .val (.int dx), .val (.int ex), .val (.ref b2), .val (.int v17), .unset, .unset] [(.int (F1 ax))])) := fun t k => P49 t (st50 _ k)
      have P52 : Wy p.tables e below (s₁.setTop (entryFrame m #[(.int ax), (.int bx), (.int cx), (.int dx), (.int ex)] maxLocals)) (T50.setTop (mkF m 52 #[.val (.int ax), .val (.int bx), .val (.int cx), .val (.int dx), .val (.int ex), .val (.ref b2), .val (.int v17), .unset, .unset] [(.int bx), (.int ((F1 ax) * (256 : Int32)))])) := fun t k => P51 t (by
        show Steps p.tables e below (T50.setTop (mkF m 47 #[.val (.int ax), .val (.int bx), .val (.int cx), .val (.int dx), .val (.int ex), .val (.ref b2), .val (.int v17), .unset, .unset] [(.int (F1 ax))])) _
        refine XS.sipush X50.here hx rfl (hb hby at_47) ?_
        show Steps p.tables e below (T50.setTop (mkF m 50 #[.val (.int ax), .val (.int bx), .val (.int cx), .val (.int dx), .val (.int ex), .val (.ref b2), .val (.int v17), .unset, .unset] [(.int (256 : Int32)), (.int (F1 ax))])) _
        refine XS.imul X50.here hx rfl (hb hby at_50) rfl ?_
        show Steps p.tables e below (T50.setTop (mkF m 51 #[.val (.int ax), .val (.int bx), .val (.int cx), .val (.int dx), .val (.int ex), .val (.ref b2), .val (.int v17), .unset, .unset] [(.int ((F1 ax) * (256 : Int32)))])) _
        refine XS.iloadN X50.here hx rfl (hb hby at_51) rfl  ?_
        exact k)
      obtain ⟨_, _, ⟨T53, L53, k53, n53⟩, -, X53, ⟨Lc53, hQ53, l53, y53, z53⟩, st53⟩ := Jvm.LawKit.callS X50 hx (y := (⟨"com/example/linkwright/linkwright/classfile/ByteCursorU2AtPinLaw", "unsignedOf", "(I)I"⟩ : MethodName)) hown (mvT hZ (hw _ (List.mem_of_getElem? (i := 2) rfl))) (mvT hZ (hw _ (List.mem_of_getElem? (i := 3) rfl))) (mvT hZ (hw _ (List.mem_of_getElem? (i := 4) rfl))) (mvT hZ (hw _ (List.mem_of_getElem? (i := 5) rfl))) (by decide) (backOf (W := 1) (rm1 l Z a0 hw [] bx h14 n0 z14 ) hZ (hw _ (List.mem_of_getElem? (i := 5) rfl)) (hw _ (List.mem_of_getElem? (i := 4) rfl)) (by decide) (by decide)) (g := (mkF m 52 #[.val (.int ax), .val (.int bx), .val (.int cx), .val (.int dx), .val (.int ex), .val (.ref b2), .val (.int v17), .unset, .unset] [(.int bx), (.int ((F1 ax) * (256 : Int32)))])) rfl (by rw [hml]; rfl) (argsL := [(.int bx)]) (rest := [(.int ((F1 ax) * (256 : Int32)))]) (lenOf pd_lIrI rfl) rfl (by show 2 * 0 + _ ≤ _; exact Nat.le_of_eq rfl) (hb hby at_52) (fun _ _ => ⟨rfl, e50, (by decide : 1 + 0 ≤ _), (by decide : 4 + 0 ≤ _)⟩)
      dsimp only [Pt.U, Pt.locs, Pt.cells, Pt.slots] at X53 l53 y53 z53 st53 hQ53
      subst l53 y53 z53
      obtain ⟨rfl, N53q, e53⟩ := hQ53
      have N53 := Fr.app N50 N53q
      have P54 : Wy p.tables e below (s₁.setTop (entryFrame m #[(.int ax), (.int bx), (.int cx), (.int dx), (.int ex)] maxLocals)) (T53.setTop (mkF m 55 #[.val (.int ax), .val (.int bx), .val (.int cx), .val (.int dx), .val (.int ex), .val (.ref b2), .val (.int v17), .unset, .unset] [(.int (F1 bx)), (.int ((F1 ax) * (256 : Int32)))])) := fun t k => P52 t (st53 _ k)
      have P55 : Wy p.tables e below (s₁.setTop (entryFrame m #[(.int ax), (.int bx), (.int cx), (.int dx), (.int ex)] maxLocals)) (T53.setTop (mkF m 100 #[.val (.int ax), .val (.int bx), .val (.int cx), .val (.int dx), .val (.int ex), .val (.ref b2), .val (.int v17), .val (.int (((F1 ax) * (256 : Int32)) + (F1 bx))), .unset] [])) := fun t k => P54 t (by
        show Steps p.tables e below (T53.setTop (mkF m 55 #[.val (.int ax), .val (.int bx), .val (.int cx), .val (.int dx), .val (.int ex), .val (.ref b2), .val (.int v17), .unset, .unset] [(.int (F1 bx)), (.int ((F1 ax) * (256 : Int32)))])) _
        refine XS.iadd X53.here hx rfl (hb hby at_55) rfl ?_
        show Steps p.tables e below (T53.setTop (mkF m 56 #[.val (.int ax), .val (.int bx), .val (.int cx), .val (.int dx), .val (.int ex), .val (.ref b2), .val (.int v17), .unset, .unset] [(.int (((F1 ax) * (256 : Int32)) + (F1 bx)))])) _
        refine XS.istore X53.here hx rfl (hb hby at_56) rfl (l' := #[.val (.int ax), .val (.int bx), .val (.int cx), .val (.int dx), .val (.int ex), .val (.ref b2), .val (.int v17), .val (.int (((F1 ax) * (256 : Int32)) + (F1 bx))), .unset]) rfl ?_
        show Steps p.tables e below (T53.setTop (mkF m 58 #[.val (.int ax), .val (.int bx), .val (.int cx), .val (.int dx), .val (.int ex), .val (.ref b2), .val (.int v17), .val (.int (((F1 ax) * (256 : Int32)) + (F1 bx))), .unset] [])) _
        refine XS.goto X53.here hx rfl (pc0 := 58) (pc' := 100) rfl (hb hby at_58) (by decide) (by decide) ?_
        exact k)
      exact ⟨T53, _, X53, e53, N53, (((F1 ax) * (256 : Int32)) + (F1 bx)), (by simp only [if_pos hc40_48]), P55⟩
    · have P56 : Wy p.tables e below (s₁.setTop (entryFrame m #[(.int ax), (.int bx), (.int cx), (.int dx), (.int ex)] maxLocals)) (T14.setTop (mkF m 64 #[.val (.int ax), .val (.int bx), .val (.int cx), .val (.int dx), .val (.int ex), .val (.ref b2), .val (.int v17), .unset, .unset] [(.int (1 : Int32)), (.int v17)])) := fun t k => P47 t (by
        show Steps p.tables e below (T14.setTop (mkF m 40 #[.val (.int ax), .val (.int bx), .val (.int cx), .val (.int dx), .val (.int ex), .val (.ref b2), .val (.int v17), .unset, .unset] [(.int v17)])) _
        refine XS.ifYes X14.here hx rfl (pc0 := 40) (pc' := 61) rfl (hb hby at_40) rfl ((if0 _ _).trans (feq hc40_48).2) (by decide) (by decide) ?_
        show Steps p.tables e below (T14.setTop (mkF m 61 #[.val (.int ax), .val (.int bx), .val (.int cx), .val (.int dx), .val (.int ex), .val (.ref b2), .val (.int v17), .unset, .unset] [])) _
        refine XS.iload X14.here hx rfl (hb hby at_61) rfl  ?_
        show Steps p.tables e below (T14.setTop (mkF m 63 #[.val (.int ax), .val (.int bx), .val (.int cx), .val (.int dx), .val (.int ex), .val (.ref b2), .val (.int v17), .unset, .unset] [(.int v17)])) _
        refine XS.iconst X14.here hx rfl (hb hby at_63) ?_
        exact k)
      by_cases hc64_57 : v17 = (1 : Int32)
      · have P58 : Wy p.tables e below (s₁.setTop (entryFrame m #[(.int ax), (.int bx), (.int cx), (.int dx), (.int ex)] maxLocals)) (T14.setTop (mkF m 68 #[.val (.int ax), .val (.int bx), .val (.int cx), .val (.int dx), .val (.int ex), .val (.ref b2), .val (.int v17), .unset, .unset] [(.int bx)])) := fun t k => P56 t (by
          show Steps p.tables e below (T14.setTop (mkF m 64 #[.val (.int ax), .val (.int bx), .val (.int cx), .val (.int dx), .val (.int ex), .val (.ref b2), .val (.int v17), .unset, .unset] [(.int (1 : Int32)), (.int v17)])) _
          refine XS.icmpNo X14.here hx rfl (hb hby at_64) rfl (teq hc64_57).2 ?_
          show Steps p.tables e below (T14.setTop (mkF m 67 #[.val (.int ax), .val (.int bx), .val (.int cx), .val (.int dx), .val (.int ex), .val (.ref b2), .val (.int v17), .unset, .unset] [])) _
          refine XS.iloadN X14.here hx rfl (hb hby at_67) rfl  ?_
          exact k)
        obtain ⟨_, _, ⟨T59, L59, k59, n59⟩, -, X59, ⟨Lc59, hQ59, l59, y59, z59⟩, st59⟩ := Jvm.LawKit.callS X14 hx (y := (⟨"com/example/linkwright/linkwright/classfile/ByteCursorU2AtPinLaw", "unsignedOf", "(I)I"⟩ : MethodName)) hown (mvT hZ (hw _ (List.mem_of_getElem? (i := 2) rfl))) (mvT hZ (hw _ (List.mem_of_getElem? (i := 3) rfl))) (mvT hZ (hw _ (List.mem_of_getElem? (i := 4) rfl))) (mvT hZ (hw _ (List.mem_of_getElem? (i := 5) rfl))) (by decide) (backOf (W := 0) (rm1 l Z a0 hw [] bx h14 n0 z14 ) hZ (hw _ (List.mem_of_getElem? (i := 5) rfl)) (hw _ (List.mem_of_getElem? (i := 4) rfl)) (by decide) (by decide)) (g := (mkF m 68 #[.val (.int ax), .val (.int bx), .val (.int cx), .val (.int dx), .val (.int ex), .val (.ref b2), .val (.int v17), .unset, .unset] [(.int bx)])) rfl (by rw [hml]; rfl) (argsL := [(.int bx)]) (rest := []) (lenOf pd_lIrI rfl) rfl (by show 2 * 0 + _ ≤ _; exact Nat.le_of_eq rfl) (hb hby at_68) (fun _ _ => ⟨rfl, e14, (by decide : 1 + 0 ≤ _), (by decide : 4 + 0 ≤ _)⟩)
        dsimp only [Pt.U, Pt.locs, Pt.cells, Pt.slots] at X59 l59 y59 z59 st59 hQ59
        subst l59 y59 z59
        obtain ⟨rfl, N59q, e59⟩ := hQ59
        have N59 := Fr.app N14 N59q
        have P60 : Wy p.tables e below (s₁.setTop (entryFrame m #[(.int ax), (.int bx), (.int cx), (.int dx), (.int ex)] maxLocals)) (T59.setTop (mkF m 71 #[.val (.int ax), .val (.int bx), .val (.int cx), .val (.int dx), .val (.int ex), .val (.ref b2), .val (.int v17), .unset, .unset] [(.int (F1 bx))])) := fun t k => P58 t (st59 _ k)
        have P61 : Wy p.tables e below (s₁.setTop (entryFrame m #[(.int ax), (.int bx), (.int cx), (.int dx), (.int ex)] maxLocals)) (T59.setTop (mkF m 76 #[.val (.int ax), .val (.int bx), .val (.int cx), .val (.int dx), .val (.int ex), .val (.ref b2), .val (.int v17), .unset, .unset] [(.int cx), (.int ((F1 bx) * (256 : Int32)))])) := fun t k => P60 t (by
          show Steps p.tables e below (T59.setTop (mkF m 71 #[.val (.int ax), .val (.int bx), .val (.int cx), .val (.int dx), .val (.int ex), .val (.ref b2), .val (.int v17), .unset, .unset] [(.int (F1 bx))])) _
          refine XS.sipush X59.here hx rfl (hb hby at_71) ?_
          show Steps p.tables e below (T59.setTop (mkF m 74 #[.val (.int ax), .val (.int bx), .val (.int cx), .val (.int dx), .val (.int ex), .val (.ref b2), .val (.int v17), .unset, .unset] [(.int (256 : Int32)), (.int (F1 bx))])) _
          refine XS.imul X59.here hx rfl (hb hby at_74) rfl ?_
          show Steps p.tables e below (T59.setTop (mkF m 75 #[.val (.int ax), .val (.int bx), .val (.int cx), .val (.int dx), .val (.int ex), .val (.ref b2), .val (.int v17), .unset, .unset] [(.int ((F1 bx) * (256 : Int32)))])) _
          refine XS.iloadN X59.here hx rfl (hb hby at_75) rfl  ?_
          exact k)
        obtain ⟨_, _, ⟨T62, L62, k62, n62⟩, -, X62, ⟨Lc62, hQ62, l62, y62, z62⟩, st62⟩ := Jvm.LawKit.callS X59 hx (y := (⟨"com/example/linkwright/linkwright/classfile/ByteCursorU2AtPinLaw", "unsignedOf", "(I)I"⟩ : MethodName)) hown (mvT hZ (hw _ (List.mem_of_getElem? (i := 2) rfl))) (mvT hZ (hw _ (List.mem_of_getElem? (i := 3) rfl))) (mvT hZ (hw _ (List.mem_of_getElem? (i := 4) rfl))) (mvT hZ (hw _ (List.mem_of_getElem? (i := 5) rfl))) (by decide) (backOf (W := 1) (rm1 l Z a0 hw [] cx h14 n0 z14 ) hZ (hw _ (List.mem_of_getElem? (i := 5) rfl)) (hw _ (List.mem_of_getElem? (i := 4) rfl)) (by decide) (by decide)) (g := (mkF m 76 #[.val (.int ax), .val (.int bx), .val (.int cx), .val (.int dx), .val (.int ex), .val (.ref b2), .val (.int v17), .unset, .unset] [(.int cx), (.int ((F1 bx) * (256 : Int32)))])) rfl (by rw [hml]; rfl) (argsL := [(.int cx)]) (rest := [(.int ((F1 bx) * (256 : Int32)))]) (lenOf pd_lIrI rfl) rfl (by show 2 * 0 + _ ≤ _; exact Nat.le_of_eq rfl) (hb hby at_76) (fun _ _ => ⟨rfl, e59, (by decide : 1 + 0 ≤ _), (by decide : 4 + 0 ≤ _)⟩)
        dsimp only [Pt.U, Pt.locs, Pt.cells, Pt.slots] at X62 l62 y62 z62 st62 hQ62
        subst l62 y62 z62
        obtain ⟨rfl, N62q, e62⟩ := hQ62
        have N62 := Fr.app N59 N62q
        have P63 : Wy p.tables e below (s₁.setTop (entryFrame m #[(.int ax), (.int bx), (.int cx), (.int dx), (.int ex)] maxLocals)) (T62.setTop (mkF m 79 #[.val (.int ax), .val (.int bx), .val (.int cx), .val (.int dx), .val (.int ex), .val (.ref b2), .val (.int v17), .unset, .unset] [(.int (F1 cx)), (.int ((F1 bx) * (256 : Int32)))])) := fun t k => P61 t (st62 _ k)
        have P64 : Wy p.tables e below (s₁.setTop (entryFrame m #[(.int ax), (.int bx), (.int cx), (.int dx), (.int ex)] maxLocals)) (T62.setTop (mkF m 100 #[.val (.int ax), .val (.int bx), .val (.int cx), .val (.int dx), .val (.int ex), .val (.ref b2), .val (.int v17), .val (.int (((F1 bx) * (256 : Int32)) + (F1 cx))), .unset] [])) := fun t k => P63 t (by
          show Steps p.tables e below (T62.setTop (mkF m 79 #[.val (.int ax), .val (.int bx), .val (.int cx), .val (.int dx), .val (.int ex), .val (.ref b2), .val (.int v17), .unset, .unset] [(.int (F1 cx)), (.int ((F1 bx) * (256 : Int32)))])) _
          refine XS.iadd X62.here hx rfl (hb hby at_79) rfl ?_
          show Steps p.tables e below (T62.setTop (mkF m 80 #[.val (.int ax), .val (.int bx), .val (.int cx), .val (.int dx), .val (.int ex), .val (.ref b2), .val (.int v17), .unset, .unset] [(.int (((F1 bx) * (256 : Int32)) + (F1 cx)))])) _
          refine XS.istore X62.here hx rfl (hb hby at_80) rfl (l' := #[.val (.int ax), .val (.int bx), .val (.int cx), .val (.int dx), .val (.int ex), .val (.ref b2), .val (.int v17), .val (.int (((F1 bx) * (256 : Int32)) + (F1 cx))), .unset]) rfl ?_
          show Steps p.tables e below (T62.setTop (mkF m 82 #[.val (.int ax), .val (.int bx), .val (.int cx), .val (.int dx), .val (.int ex), .val (.ref b2), .val (.int v17), .val (.int (((F1 bx) * (256 : Int32)) + (F1 cx))), .unset] [])) _
          refine XS.goto X62.here hx rfl (pc0 := 82) (pc' := 100) rfl (hb hby at_82) (by decide) (by decide) ?_
          exact k)
        exact ⟨T62, _, X62, e62, N62, (((F1 bx) * (256 : Int32)) + (F1 cx)), (by simp only [if_neg hc40_48, if_pos hc64_57]), P64⟩
      · have P65 : Wy p.tables e below (s₁.setTop (entryFrame m #[(.int ax), (.int bx), (.int cx), (.int dx), (.int ex)] maxLocals)) (T14.setTop (mkF m 86 #[.val (.int ax), .val (.int bx), .val (.int cx), .val (.int dx), .val (.int ex), .val (.ref b2), .val (.int v17), .unset, .unset] [(.int cx)])) := fun t k => P56 t (by
          show Steps p.tables e below (T14.setTop (mkF m 64 #[.val (.int ax), .val (.int bx), .val (.int cx), .val (.int dx), .val (.int ex), .val (.ref b2), .val (.int v17), .unset, .unset] [(.int (1 : Int32)), (.int v17)])) _
          refine XS.icmpYes X14.here hx rfl (pc0 := 64) (pc' := 85) rfl (hb hby at_64) rfl (feq hc64_57).2 (by decide) (by decide) ?_
          show Steps p.tables e below (T14.setTop (mkF m 85 #[.val (.int ax), .val (.int bx), .val (.int cx), .val (.int dx), .val (.int ex), .val (.ref b2), .val (.int v17), .unset, .unset] [])) _
          refine XS.iloadN X14.here hx rfl (hb hby at_85) rfl  ?_
          exact k)
        obtain ⟨_, _, ⟨T66, L66, k66, n66⟩, -, X66, ⟨Lc66, hQ66, l66, y66, z66⟩, st66⟩ := Jvm.LawKit.callS X14 hx (y := (⟨"com/example/linkwright/linkwright/classfile/ByteCursorU2AtPinLaw", "unsignedOf", "(I)I"⟩ : MethodName)) hown (mvT hZ (hw _ (List.mem_of_getElem? (i := 2) rfl))) (mvT hZ (hw _ (List.mem_of_getElem? (i := 3) rfl))) (mvT hZ (hw _ (List.mem_of_getElem? (i := 4) rfl))) (mvT hZ (hw _ (List.mem_of_getElem? (i := 5) rfl))) (by decide) (backOf (W := 0) (rm1 l Z a0 hw [] cx h14 n0 z14 ) hZ (hw _ (List.mem_of_getElem? (i := 5) rfl)) (hw _ (List.mem_of_getElem? (i := 4) rfl)) (by decide) (by decide)) (g := (mkF m 86 #[.val (.int ax), .val (.int bx), .val (.int cx), .val (.int dx), .val (.int ex), .val (.ref b2), .val (.int v17), .unset, .unset] [(.int cx)])) rfl (by rw [hml]; rfl) (argsL := [(.int cx)]) (rest := []) (lenOf pd_lIrI rfl) rfl (by show 2 * 0 + _ ≤ _; exact Nat.le_of_eq rfl) (hb hby at_86) (fun _ _ => ⟨rfl, e14, (by decide : 1 + 0 ≤ _), (by decide : 4 + 0 ≤ _)⟩)
        dsimp only [Pt.U, Pt.locs, Pt.cells, Pt.slots] at X66 l66 y66 z66 st66 hQ66
        subst l66 y66 z66
        obtain ⟨rfl, N66q, e66⟩ := hQ66
        have N66 := Fr.app N14 N66q
        have P67 : Wy p.tables e below (s₁.setTop (entryFrame m #[(.int ax), (.int bx), (.int cx), (.int dx), (.int ex)] maxLocals)) (T66.setTop (mkF m 89 #[.val (.int ax), .val (.int bx), .val (.int cx), .val (.int dx), .val (.int ex), .val (.ref b2), .val (.int v17), .unset, .unset] [(.int (F1 cx))])) := fun t k => P65 t (st66 _ k)
        have P68 : Wy p.tables e below (s₁.setTop (entryFrame m #[(.int ax), (.int bx), (.int cx), (.int dx), (.int ex)] maxLocals)) (T66.setTop (mkF m 94 #[.val (.int ax), .val (.int bx), .val (.int cx), .val (.int dx), .val (.int ex), .val (.ref b2), .val (.int v17), .unset, .unset] [(.int dx), (.int ((F1 cx) * (256 : Int32)))])) := fun t k => P67 t (by
          show Steps p.tables e below (T66.setTop (mkF m 89 #[.val (.int ax), .val (.int bx), .val (.int cx), .val (.int dx), .val (.int ex), .val (.ref b2), .val (.int v17), .unset, .unset] [(.int (F1 cx))])) _
          refine XS.sipush X66.here hx rfl (hb hby at_89) ?_
          show Steps p.tables e below (T66.setTop (mkF m 92 #[.val (.int ax), .val (.int bx), .val (.int cx), .val (.int dx), .val (.int ex), .val (.ref b2), .val (.int v17), .unset, .unset] [(.int (256 : Int32)), (.int (F1 cx))])) _
          refine XS.imul X66.here hx rfl (hb hby at_92) rfl ?_
          show Steps p.tables e below (T66.setTop (mkF m 93 #[.val (.int ax), .val (.int bx), .val (.int cx), .val (.int dx), .val (.int ex), .val (.ref b2), .val (.int v17), .unset, .unset] [(.int ((F1 cx) * (256 : Int32)))])) _
          refine XS.iloadN X66.here hx rfl (hb hby at_93) rfl  ?_
          exact k)
        obtain ⟨_, _, ⟨T69, L69, k69, n69⟩, -, X69, ⟨Lc69, hQ69, l69, y69, z69⟩, st69⟩ := Jvm.LawKit.callS X66 hx (y := (⟨"com/example/linkwright/linkwright/classfile/ByteCursorU2AtPinLaw", "unsignedOf", "(I)I"⟩ : MethodName)) hown (mvT hZ (hw _ (List.mem_of_getElem? (i := 2) rfl))) (mvT hZ (hw _ (List.mem_of_getElem? (i := 3) rfl))) (mvT hZ (hw _ (List.mem_of_getElem? (i := 4) rfl))) (mvT hZ (hw _ (List.mem_of_getElem? (i := 5) rfl))) (by decide) (backOf (W := 1) (rm1 l Z a0 hw [] dx h14 n0 z14 ) hZ (hw _ (List.mem_of_getElem? (i := 5) rfl)) (hw _ (List.mem_of_getElem? (i := 4) rfl)) (by decide) (by decide)) (g := (mkF m 94 #[.val (.int ax), .val (.int bx), .val (.int cx), .val (.int dx), .val (.int ex), .val (.ref b2), .val (.int v17), .unset, .unset] [(.int dx), (.int ((F1 cx) * (256 : Int32)))])) rfl (by rw [hml]; rfl) (argsL := [(.int dx)]) (rest := [(.int ((F1 cx) * (256 : Int32)))]) (lenOf pd_lIrI rfl) rfl (by show 2 * 0 + _ ≤ _; exact Nat.le_of_eq rfl) (hb hby at_94) (fun _ _ => ⟨rfl, e66, (by decide : 1 + 0 ≤ _), (by decide : 4 + 0 ≤ _)⟩)
        dsimp only [Pt.U, Pt.locs, Pt.cells, Pt.slots] at X69 l69 y69 z69 st69 hQ69
        subst l69 y69 z69
        obtain ⟨rfl, N69q, e69⟩ := hQ69
        have N69 := Fr.app N66 N69q
        have P70 : Wy p.tables e below (s₁.setTop (entryFrame m #[(.int ax), (.int bx), (.int cx), (.int dx), (.int ex)] maxLocals)) (T69.setTop (mkF m 97 #[.val (.int ax), .val (.int bx), .val (.int cx), .val (.int dx), .val (.int ex), .val (.ref b2), .val (.int v17), .unset, .unset] [(.int (F1 dx)), (.int ((F1 cx) * (256 : Int32)))])) := fun t k => P68 t (st69 _ k)
        have P71 : Wy p.tables e below (s₁.setTop (entryFrame m #[(.int ax), (.int bx), (.int cx), (.int dx), (.int ex)] maxLocals)) (T69.setTop (mkF m 100 #[.val (.int ax), .val (.int bx), .val (.int cx), .val (.int dx), .val (.int ex), .val (.ref b2), .val (.int v17), .val (.int (((F1 cx) * (256 : Int32)) + (F1 dx))), .unset] [])) := fun t k => P70 t (by
          show Steps p.tables e below (T69.setTop (mkF m 97 #[.val (.int ax), .val (.int bx), .val (.int cx), .val (.int dx), .val (.int ex), .val (.ref b2), .val (.int v17), .unset, .unset] [(.int (F1 dx)), (.int ((F1 cx) * (256 : Int32)))])) _
          refine XS.iadd X69.here hx rfl (hb hby at_97) rfl ?_
          show Steps p.tables e below (T69.setTop (mkF m 98 #[.val (.int ax), .val (.int bx), .val (.int cx), .val (.int dx), .val (.int ex), .val (.ref b2), .val (.int v17), .unset, .unset] [(.int (((F1 cx) * (256 : Int32)) + (F1 dx)))])) _
          refine XS.istore X69.here hx rfl (hb hby at_98) rfl (l' := #[.val (.int ax), .val (.int bx), .val (.int cx), .val (.int dx), .val (.int ex), .val (.ref b2), .val (.int v17), .val (.int (((F1 cx) * (256 : Int32)) + (F1 dx))), .unset]) rfl ?_
          exact k)
        exact ⟨T69, _, X69, e69, N69, (((F1 cx) * (256 : Int32)) + (F1 dx)), (by simp only [if_neg hc40_48, if_neg hc64_57]), P71⟩
  have hix := own_idx hv17
  obtain ⟨clu, Aru, qu, Su, Mu, Hu, Gu⟩ := V14b
  have hu0 := inb_of Su (own_i0 hix)
  have hu1 := inb_of Su (own_i1 hix)
  have P72 : Wy p.tables e below (s₁.setTop (entryFrame m #[(.int ax), (.int bx), (.int cx), (.int dx), (.int ex)] maxLocals)) (T46.setTop (mkF m 104 #[.val (.int ax), .val (.int bx), .val (.int cx), .val (.int dx), .val (.int ex), .val (.ref b2), .val (.int v17), .val (.int r44), .unset] [(.int v17), (.ref b2)])) := fun t k => P45 t (by
    show Steps p.tables e below (T46.setTop (mkF m 100 #[.val (.int ax), .val (.int bx), .val (.int cx), .val (.int dx), .val (.int ex), .val (.ref b2), .val (.int v17), .val (.int r44), .unset] [])) _
    refine XS.aload X46.here hx rfl (hb hby at_100) rfl rfl  ?_
    show Steps p.tables e below (T46.setTop (mkF m 102 #[.val (.int ax), .val (.int bx), .val (.int cx), .val (.int dx), .val (.int ex), .val (.ref b2), .val (.int v17), .val (.int r44), .unset] [(.ref b2)])) _
    refine XS.iload X46.here hx rfl (hb hby at_102) rfl  ?_
    exact k)
  obtain ⟨_, _, ⟨T73, L73, k73, n73⟩, -, X73, ⟨Lc73, hQ73, l73, y73, z73⟩, st73⟩ := Jvm.LawKit.callS X46 hx (y := (⟨"com/example/linkwright/linkwright/classfile/ByteCursor", "u2At", "([BI)I"⟩ : MethodName)) hown (mvT hZ (hw _ (List.mem_of_getElem? (i := 6) rfl))) (mvT hZ (hw _ (List.mem_of_getElem? (i := 7) rfl))) (mvT hZ (hw _ (List.mem_of_getElem? (i := 8) rfl))) (mvT hZ (hw _ (List.mem_of_getElem? (i := 9) rfl))) (by decide) (backOf (W := 0) (rm2 l Z a0 hw [] b2 v17 clu ((own_l ax bx cx dx).getD v17.toNatClampNeg 0) ((own_l ax bx cx dx).getD (v17 + (1 : Int32)).toNatClampNeg 0) h14 n0 z14 Aru hu0 ((Hu _ (own_in hu0)).trans (congrArg some (own_getD (own_l ax bx cx dx) _))) hu1 ((Hu _ (own_in hu1)).trans (congrArg some (own_getD (own_l ax bx cx dx) _)))) hZ (hw _ (List.mem_of_getElem? (i := 9) rfl)) (hw _ (List.mem_of_getElem? (i := 8) rfl)) (by decide) (by decide)) (g := (mkF m 104 #[.val (.int ax), .val (.int bx), .val (.int cx), .val (.int dx), .val (.int ex), .val (.ref b2), .val (.int v17), .val (.int r44), .unset] [(.int v17), (.ref b2)])) rfl (by rw [hml]; rfl) (argsL := [(.ref b2), (.int v17)]) (rest := []) (lenOf pd_lABIrI rfl) rfl (by show 2 * 0 + _ ≤ _; exact Nat.le_of_eq rfl) (hb hby at_104) (fun _ _ => ⟨rfl, e46, (by decide : 1 + 0 ≤ _), (by decide : 4 + 0 ≤ _)⟩)
  dsimp only [Pt.U, Pt.locs, Pt.cells, Pt.slots] at X73 l73 y73 z73 st73 hQ73
  subst l73 y73 z73
  obtain ⟨rfl, N73q, e73⟩ := hQ73
  have N73 := Fr.app N46 N73q
  have P74 : Wy p.tables e below (s₁.setTop (entryFrame m #[(.int ax), (.int bx), (.int cx), (.int dx), (.int ex)] maxLocals)) (T73.setTop (mkF m 107 #[.val (.int ax), .val (.int bx), .val (.int cx), .val (.int dx), .val (.int ex), .val (.ref b2), .val (.int v17), .val (.int r44), .unset] [(.int (own_u2 ((own_l ax bx cx dx).getD v17.toNatClampNeg 0) ((own_l ax bx cx dx).getD (v17 + (1 : Int32)).toNatClampNeg 0)))])) := fun t k => P72 t (st73 _ k)
  have P75 : Wy p.tables e below (s₁.setTop (entryFrame m #[(.int ax), (.int bx), (.int cx), (.int dx), (.int ex)] maxLocals)) (T73.setTop (mkF m 109 #[.val (.int ax), .val (.int bx), .val (.int cx), .val (.int dx), .val (.int ex), .val (.ref b2), .val (.int v17), .val (.int r44), .val (.int (own_u2 ((own_l ax bx cx dx).getD v17.toNatClampNeg 0) ((own_l ax bx cx dx).getD (v17 + (1 : Int32)).toNatClampNeg 0)))] [])) := fun t k => P74 t (by
    show Steps p.tables e below (T73.setTop (mkF m 107 #[.val (.int ax), .val (.int bx), .val (.int cx), .val (.int dx), .val (.int ex), .val (.ref b2), .val (.int v17), .val (.int r44), .unset] [(.int (own_u2 ((own_l ax bx cx dx).getD v17.toNatClampNeg 0) ((own_l ax bx cx dx).getD (v17 + (1 : Int32)).toNatClampNeg 0)))])) _
    refine XS.istore X73.here hx rfl (hb hby at_107) rfl (l' := #[.val (.int ax), .val (.int bx), .val (.int cx), .val (.int dx), .val (.int ex), .val (.ref b2), .val (.int v17), .val (.int r44), .val (.int (own_u2 ((own_l ax bx cx dx).getD v17.toNatClampNeg 0) ((own_l ax bx cx dx).getD (v17 + (1 : Int32)).toNatClampNeg 0)))]) rfl ?_
    exact k)
  obtain ⟨v76, hv76⟩ : ∃ z : Int32, z = (own_u2 ((own_l ax bx cx dx).getD v17.toNatClampNeg 0) ((own_l ax bx cx dx).getD (v17 + (1 : Int32)).toNatClampNeg 0)) := ⟨_, rfl⟩
  have P77 : Wy p.tables e below (s₁.setTop (entryFrame m #[(.int ax), (.int bx), (.int cx), (.int dx), (.int ex)] maxLocals)) (T73.setTop (mkF m 109 #[.val (.int ax), .val (.int bx), .val (.int cx), .val (.int dx), .val (.int ex), .val (.ref b2), .val (.int v17), .val (.int r44), .val (.int v76)] [])) := fun t k => by subst hv76; exact P75 t k
  have P78 : Wy p.tables e below (s₁.setTop (entryFrame m #[(.int ax), (.int bx), (.int cx), (.int dx), (.int ex)] maxLocals)) (T73.setTop (mkF m 133 #[.val (.int ax), .val (.int bx), .val (.int cx), .val (.int dx), .val (.int ex), .val (.ref b2), .val (.int v17), .val (.int r44), .val (.int v76)] [(.int (1 : Int32))])) := fun t k => P77 t (by
    show Steps p.tables e below (T73.setTop (mkF m 109 #[.val (.int ax), .val (.int bx), .val (.int cx), .val (.int dx), .val (.int ex), .val (.ref b2), .val (.int v17), .val (.int r44), .val (.int v76)] [])) _
    refine XS.iload X73.here hx rfl (hb hby at_109) rfl  ?_
    show Steps p.tables e below (T73.setTop (mkF m 111 #[.val (.int ax), .val (.int bx), .val (.int cx), .val (.int dx), .val (.int ex), .val (.ref b2), .val (.int v17), .val (.int r44), .val (.int v76)] [(.int v76)])) _
    refine XS.iload X73.here hx rfl (hb hby at_111) rfl  ?_
    show Steps p.tables e below (T73.setTop (mkF m 113 #[.val (.int ax), .val (.int bx), .val (.int cx), .val (.int dx), .val (.int ex), .val (.ref b2), .val (.int v17), .val (.int r44), .val (.int v76)] [(.int r44), (.int v76)])) _
    refine XS.icmpNo X73.here hx rfl (hb hby at_113) rfl (teq ((own_law hix hr44 hv76).1 : v76 = r44)).2 ?_
    show Steps p.tables e below (T73.setTop (mkF m 116 #[.val (.int ax), .val (.int bx), .val (.int cx), .val (.int dx), .val (.int ex), .val (.ref b2), .val (.int v17), .val (.int r44), .val (.int v76)] [])) _
    refine XS.iload X73.here hx rfl (hb hby at_116) rfl  ?_
    show Steps p.tables e below (T73.setTop (mkF m 118 #[.val (.int ax), .val (.int bx), .val (.int cx), .val (.int dx), .val (.int ex), .val (.ref b2), .val (.int v17), .val (.int r44), .val (.int v76)] [(.int v76)])) _
    refine XS.ifNo X73.here hx rfl (hb hby at_118) rfl ((if0 _ _).trans (flt ((own_law hix hr44 hv76).2.1 : ¬ (v76 < (0 : Int32)))).1) ?_
    show Steps p.tables e below (T73.setTop (mkF m 121 #[.val (.int ax), .val (.int bx), .val (.int cx), .val (.int dx), .val (.int ex), .val (.ref b2), .val (.int v17), .val (.int r44), .val (.int v76)] [])) _
    refine XS.iload X73.here hx rfl (hb hby at_121) rfl  ?_
    show Steps p.tables e below (T73.setTop (mkF m 123 #[.val (.int ax), .val (.int bx), .val (.int cx), .val (.int dx), .val (.int ex), .val (.ref b2), .val (.int v17), .val (.int r44), .val (.int v76)] [(.int v76)])) _
    refine X73.ldcInt hx hown (mvT hZ (hw _ (List.mem_of_getElem? (i := 10) rfl))) (g := (mkF m 123 #[.val (.int ax), .val (.int bx), .val (.int cx), .val (.int dx), .val (.int ex), .val (.ref b2), .val (.int v17), .val (.int r44), .val (.int v76)] [(.int v76)])) rfl (hb hby at_123) _ ?_
    show Steps p.tables e below (T73.setTop (mkF m 125 #[.val (.int ax), .val (.int bx), .val (.int cx), .val (.int dx), .val (.int ex), .val (.ref b2), .val (.int v17), .val (.int r44), .val (.int v76)] [(.int (65535 : Int32)), (.int v76)])) _
    refine XS.icmpNo X73.here hx rfl (hb hby at_125) rfl (flt ((own_law hix hr44 hv76).2.2 : ¬ ((65535 : Int32) < v76))).2.2.1 ?_
    show Steps p.tables e below (T73.setTop (mkF m 128 #[.val (.int ax), .val (.int bx), .val (.int cx), .val (.int dx), .val (.int ex), .val (.ref b2), .val (.int v17), .val (.int r44), .val (.int v76)] [])) _
    refine XS.iconst X73.here hx rfl (hb hby at_128) ?_
    show Steps p.tables e below (T73.setTop (mkF m 129 #[.val (.int ax), .val (.int bx), .val (.int cx), .val (.int dx), .val (.int ex), .val (.ref b2), .val (.int v17), .val (.int r44), .val (.int v76)] [(.int (1 : Int32))])) _
    refine XS.goto X73.here hx rfl (pc0 := 129) (pc' := 133) rfl (hb hby at_129) (by decide) (by decide) ?_
    exact k)
  obtain ⟨fs, hr, hrun, hended, hW, hsame⟩ := X73.leave (v := some (.int (nar .boolean (1 : Int32)))) (fun h => by rw [Bd.returns] at h; cases h)
  refine ⟨_, _, P78 _ ?_, hrun, hended, _, _, rfl, ?_, ⟨_, rfl⟩, hW, hsame.mono (by decide) (by decide)⟩
  · show Steps p.tables e below (T73.setTop (mkF m 133 #[.val (.int ax), .val (.int bx), .val (.int cx), .val (.int dx), .val (.int ex), .val (.ref b2), .val (.int v17), .val (.int r44), .val (.int v76)] [(.int (1 : Int32))])) _
    exact retN X73 hx (t := .boolean) Bd.returns (by simp) (hb hby at_133) hr
  · show Q0 Z ax bx cx dx ex h0 n0 _ T73.heap _
    rw [e73]
    exact ⟨rfl, N73⟩
set_option maxRecDepth 65536 in
set_option maxHeartbeats 40000000 in
theorem comes_1 {Post : Tables → Env → Array Value → State → Outcome → State → Prop} (hpost : ∀ tb e args s v u, (limb_1_1.after args s (.returned v) u = true ∧ limb_1_2.after args s (.returned v) u = true ∧ True) → FrameEnd s (.returned v) u (Jvm.fieldLocs frame_1_writes args s ++ Jvm.arrayLocs frame_1_arrays args s ++ Jvm.staticLocs frame_1_statics s) 16 128 → Post tb e args s (.returned v) u) :
    ArmFor flags0 classFile x code maxLocals ret World_1 tables_1 room_1 Calls_1 rest_1 Pre_1 Post := by
  intro l hfl _ _ p e ha hc hk s m args below hf hA hF happ hP
  obtain ⟨hcalls, hrest, hpre⟩ := hP
  obtain ⟨-, -, -, hnamed, -, -, -, hat⟩ := (Spec.applies_iff hf).mp happ
  obtain ⟨hg, hn⟩ := and_e (Cond.before_iff.mp (show (Jvm.Cond.and given_1 narrow_1).before args s = true from hpre))
  obtain ⟨g1, g2⟩ := and_e hg
  obtain ⟨g3, g4⟩ := and_e g2
  obtain ⟨g5, g6⟩ := and_e g4
  obtain ⟨g7, g8⟩ := and_e g6
  obtain ⟨g9, g10⟩ := and_e g8
  obtain ⟨w0, w1, w2, w3, w4, rfl⟩ : ∃ w0 w1 w2 w3 w4 : Value, args = #[w0, w1, w2, w3, w4] := by
    have hs : args.size = 5 := by simpa [Cond.value, given_1] using g1
    obtain ⟨L⟩ := args
    match L, hs with
    | [w0, w1, w2, w3, w4], _ => exact ⟨w0, w1, w2, w3, w4, rfl⟩
  have hw := fun d (hd : d ∈ tables_1) => atoms_spec (ws := Jvm.Cond.code x code maxLocals ret :: tables_1) hat d (List.mem_cons_of_mem _ hd)
  have hfit : Fit s := fun {y c} hc i hi => by
    obtain ⟨ha, rfl⟩ := Array.getElem?_eq_some_iff.mp hc
    have q := List.all_eq_true.mp ((Array.all_eq_true_iff_forall_mem.mp hF) _ (Array.getElem_mem ha)) i (List.mem_range.mpr hi)
    simpa [Array.getElem?_eq_getElem hi] using q
  obtain ⟨i0, ei0⟩ := is_v g3
  obtain rfl : w0 = (.int i0) := Option.some.inj ei0
  obtain ⟨i1, ei1⟩ := is_v g5
  obtain rfl : w1 = (.int i1) := Option.some.inj ei1
  obtain ⟨i2, ei2⟩ := is_v g7
  obtain rfl : w2 = (.int i2) := Option.some.inj ei2
  obtain ⟨i3, ei3⟩ := is_v g9
  obtain rfl : w3 = (.int i3) := Option.some.inj ei3
  obtain ⟨i4, ei4⟩ := is_v g10
  obtain rfl : w4 = (.int i4) := Option.some.inj ei4
  obtain ⟨n, o, h1, h2, h3, _, L, rfl, ⟨rfl, N⟩, hq⟩ := rm0 l s _ hw tables_1 i0 i1 i2 i3 i4 s.heap s.heap.size (Nat.le_refl _)  p e ha hc hk s m _ below hf ((Spec.applies_iff_loose hf).mp happ).1 ⟨rfl, State.Warmed39.refl s, rfl⟩ trivial
  refine ⟨n, _, h1, h2, h3, hpost _ _ _ _ _ _ ⟨Cond.after_iff.mpr rfl, Cond.after_iff.mpr (eq_i res_at (Term.int_eval (1)) rfl), trivial⟩ ⟨hq.1, hq.2.1, (hq.2.2.sift fun y hy => Or.inr (N y hy)).mono (by decide) (by decide)⟩⟩
theorem main_1_1 : Claimed_1_1 := comes_1 fun _ _ _ _ _ _ h hF => ⟨h.1, hF⟩
theorem main_1_2 : Claimed_1_2 := comes_1 fun _ _ _ _ _ _ h hF => ⟨h.2.1, hF⟩
end Jvm.Pilot.@@N@@
namespace Jvm.Pilot.@@N@@
open Jvm Jvm.ClassFile Sem Op Lib Jvm.Free Jvm.Stand Jvm.Pilot.@@N@@.Jvm.D
/-! MADE BY PROGRAM (witnessworld.py) out of the Statement's table words and the real class files: 9 classes; the members and pool entries that the words name. The judged class is class 1, her method 2. -/
namespace start1
open Jvm.ClassFile
def u (s : String) : CpInfo := .utf8 (stringToUtf16 s)
/-- a pool by its gaps: so many unusable entries, then the entry; so many at the end -/
def gap : Nat → List CpInfo → List CpInfo
  | 0, r => r
  | n + 1, r => .unusable :: gap n r
def poolList (es : List (Nat × CpInfo)) (last : Nat) : List CpInfo := es.foldr (fun e r => gap e.1 (e.2 :: r)) (gap last [])
def pool (es : List (Nat × CpInfo)) (last : Nat) : Array CpInfo := ⟨poolList es last⟩
def fileOf (pool : Array CpInfo) (this : Nat) (attrs : Array Attribute := #[]) (ms : Array MethodInfo := #[]) (fl : Nat := 33) (sup : Nat := 0) (ifs : Array Nat := #[]) (fds : Array FieldInfo := #[]) : ClassFile where
  minorVersion := 0
  majorVersion := 65
  constantPool := pool
  accessFlags := fl
  thisClass := this
  superClass := sup
  interfaces := ifs
  fields := fds
  methods := ms
  attributes := attrs
def plain (name : String) (sup : Option ClassId) : Class where
  name := name
  kind := .ordinary
  loader := none
  accessFlags := 33
  super := sup
  interfaces := #[]
  cf := none
  fields := #[]
  methods := #[]
  instanceTypes := #[]
  staticTypes := #[]
  resolved := #[]
  callSites := []
  init := .initialized
  statics := none
  mirror := none

def pool0 : Array CpInfo := pool [(5, u "<init>"), (0, u "()V"), (1, .class_ 10), (1, u "java/lang/Object")] 113

def k0m0 : Method := { name := "<init>", desc := "()V", sig := { parameters := [], returnType := none }, accessFlags := 1, code := none }
/-- java/lang/Object -/
def k0 : Class := { plain "java/lang/Object" none with
  accessFlags := 33
  interfaces := #[]
  cf := some (fileOf pool0 8 #[] #[{ accessFlags := 1, nameIndex := 5, descriptorIndex := 6, attributes := #[] }] 33 0 #[] #[])
  fields := #[]
  methods := #[k0m0]
  instanceTypes := #[]
  staticTypes := #[]
  resolved := Array.replicate 124 none
  statics := none }

def pool1 : Array CpInfo := pool [(2, .class_ 4), (1, u "java/lang/Object"), (0, u "<init>"), (0, u "()V"), (0, .integer 2147483647), (0, .methodref 9 10), (0, .class_ 11), (0, .nameAndType 12 13), (0, u "com/example/linkwright/linkwright/classfile/ByteCursorU2AtPinLaw"), (0, u "unsignedOf"), (0, u "(I)I"), (0, .methodref 15 16), (0, .class_ 17), (0, .nameAndType 18 19), (0, u "com/example/linkwright/linkwright/classfile/ByteCursor"), (0, u "u2At"), (0, u "([BI)I"), (0, .integer 65535), (3, u "law"), (0, u "(IIIII)Z")] 4

def k1m0 : Method := { name := "<init>", desc := "()V", sig := { parameters := [], returnType := none }, accessFlags := 1, code := none }
def k1c1 : Code := { maxStack := 2, maxLocals := 2, code := method_2_code, exceptionTable := #[], attributes := #[] }
def k1m1 : Method := { name := "unsignedOf", desc := "(I)I", sig := { parameters := [.int], returnType := some .int }, accessFlags := 10, code := some k1c1 }
def k1c2 : Code := { maxStack := 3, maxLocals := 9, code := code, exceptionTable := #[], attributes := #[] }
def k1m2 : Method := { name := "law", desc := "(IIIII)Z", sig := { parameters := [.int, .int, .int, .int, .int], returnType := some .boolean }, accessFlags := 9, code := some k1c2 }
/-- com/example/linkwright/linkwright/classfile/ByteCursorU2AtPinLaw -/
def k1 : Class := { plain "com/example/linkwright/linkwright/classfile/ByteCursorU2AtPinLaw" (some 0) with
  accessFlags := 49
  interfaces := #[]
  cf := some (fileOf pool1 9 #[] #[{ accessFlags := 1, nameIndex := 5, descriptorIndex := 6, attributes := #[] }, { accessFlags := 10, nameIndex := 12, descriptorIndex := 13, attributes := #[] }, { accessFlags := 9, nameIndex := 24, descriptorIndex := 25, attributes := #[] }] 49 2 #[] #[])
  fields := #[]
  methods := #[k1m0, k1m1, k1m2]
  instanceTypes := #[]
  staticTypes := #[]
  resolved := Array.replicate 30 none
  statics := none }

def pool2 : Array CpInfo := pool [(2, .class_ 4), (1, u "com/example/linkwright/linkwright/classfile/ByteCursor"), (3, .class_ 10), (1, u "java/lang/Object"), (3, u "bytes"), (0, u "[B"), (2, u "origin"), (0, u "I"), (2, u "position"), (2, u "limit"), (34, u "u2At"), (0, u "([BI)I")] 19

def k2c0 : Code := { maxStack := 4, maxLocals := 2, code := prog_4_method_9_code, exceptionTable := #[], attributes := #[] }
def k2m0 : Method := { name := "u2At", desc := "([BI)I", sig := { parameters := [(.array .byte), .int], returnType := some .int }, accessFlags := 8, code := some k2c0 }
/-- com/example/linkwright/linkwright/classfile/ByteCursor -/
def k2 : Class := { plain "com/example/linkwright/linkwright/classfile/ByteCursor" (some 0) with
  accessFlags := 48
  interfaces := #[]
  cf := some (fileOf pool2 2 #[] #[{ accessFlags := 8, nameIndex := 60, descriptorIndex := 61, attributes := #[] }] 48 8 #[] #[{ accessFlags := 18, nameIndex := 14, descriptorIndex := 15, attributes := #[] }, { accessFlags := 18, nameIndex := 18, descriptorIndex := 19, attributes := #[] }, { accessFlags := 18, nameIndex := 25, descriptorIndex := 19, attributes := #[] }, { accessFlags := 2, nameIndex := 22, descriptorIndex := 19, attributes := #[] }])
  fields := #[{ name := "bytes", type := (.array .byte), accessFlags := 18, slot := 0, constantValue := 0 }, { name := "origin", type := .int, accessFlags := 18, slot := 1, constantValue := 0 }, { name := "limit", type := .int, accessFlags := 18, slot := 2, constantValue := 0 }, { name := "position", type := .int, accessFlags := 2, slot := 3, constantValue := 0 }]
  methods := #[k2m0]
  instanceTypes := #[(.array .byte), .int, .int, .int]
  staticTypes := #[]
  resolved := Array.replicate 81 none
  statics := none }

def pool3 : Array CpInfo := pool [(1, u "java/lang/Cloneable"), (0, .class_ 1), (0, u "java/lang/Object"), (0, .class_ 3)] 3

/-- java/lang/Cloneable -/
def k3 : Class := { plain "java/lang/Cloneable" (some 0) with
  accessFlags := 1537
  interfaces := #[]
  cf := some (fileOf pool3 2 #[] #[] 1537 4 #[] #[])
  fields := #[]
  methods := #[]
  instanceTypes := #[]
  staticTypes := #[]
  resolved := Array.replicate 8 none
  statics := none }

def pool4 : Array CpInfo := pool [(1, u "java/io/Serializable"), (0, .class_ 1), (0, u "java/lang/Object"), (0, .class_ 3)] 3

/-- java/io/Serializable -/
def k4 : Class := { plain "java/io/Serializable" (some 0) with
  accessFlags := 1537
  interfaces := #[]
  cf := some (fileOf pool4 2 #[] #[] 1537 4 #[] #[])
  fields := #[]
  methods := #[]
  instanceTypes := #[]
  staticTypes := #[]
  resolved := Array.replicate 8 none
  statics := none }

/-- the primitive byte -/
def k5 : Class := { plain "byte" none with kind := .primitive 'B', accessFlags := 0x411 }
/-- [B -/
def k6 : Class := { plain "[B" (some 0) with kind := .array 5 .byte, interfaces := #[3, 4], accessFlags := 1041 }

/-- the primitive int -/
def k7 : Class := { plain "int" none with kind := .primitive 'I', accessFlags := 0x411 }
/-- [I -/
def k8 : Class := { plain "[I" (some 0) with kind := .array 7 .int, interfaces := #[3, 4], accessFlags := 1041 }

def heap : Heap := #[]
def classes : Array Class := #[k0, k1, k2, k3, k4, k5, k6, k7, k8]
def interned : List (Array UInt16 × Addr) := []
def slotsUsed : Nat := 0
def theMethod : MethodId := ⟨1, 2⟩
def args0 : Array Value := #[.int 5, .int 7, .int 5, .int 7, .int 5]
def aboutOver (below : List Frame) : State where
  vm := { classes := classes, interned := interned.toArray }
  heap := heap
  slotsUsed := slotsUsed
  threads := #[{ frames := .invoking theMethod args0 :: below }]
def below0 : List Frame := [.native { method := ⟨0, 0⟩, args := #[] }]
def about1 : State := aboutOver below0
def p0 : Program := .bare "" "" ""
def e0 : Env := launch0.env 0 0 0
theorem w_frames : about1.frames = Frame.invoking theMethod args0 :: below0 := rfl
set_option maxRecDepth 65536 in
theorem w_args : argsFit about1.vm theMethod args0 = true := by decide +kernel
set_option maxRecDepth 65536 in
theorem w_heap : heapFits about1 = true := by decide +kernel
set_option maxRecDepth 65536 in
theorem w_runnable : about1.curStatus? = some .runnable := by decide +kernel
set_option maxRecDepth 65536 in
theorem w_alone : about1.alone = true := by decide +kernel
set_option maxRecDepth 65536 in
theorem w_named : about1.methodNamed? x = some theMethod := by decide +kernel
set_option maxRecDepth 65536 in
theorem w_hears : about1.hears theMethod below0 = true := by decide +kernel
set_option maxRecDepth 65536 in
theorem w_ripe : about1.ripe theMethod args0 below0 = true := by decide +kernel
theorem w_running : about1.status = .running := rfl
set_option maxRecDepth 65536 in
theorem w_room : about1.hasRoom e0.platform room_1 = true :=
  launch0.hasRoom_least _ room_1 (by decide +kernel) (by decide +kernel) (by decide +kernel) (by decide +kernel) (by decide +kernel) (by decide +kernel)
theorem allAtoms_all (ts : List Jvm.Cond) (a : Array Jvm.Value) (st : Jvm.State) : (allAtoms ts).before a st = ts.all (fun c => c.before a st) := by
  induction ts with
  | nil => rfl
  | cons c t ih =>
    show (Jvm.Cond.and c (allAtoms t)).before a st = _
    rw [Jvm.Cond.before_and, ih, List.all_cons]
def words1 : List Jvm.Cond := Jvm.Cond.code x code maxLocals ret :: tables_1
/-- a 'code' word, met by the world's own term for the bytes: nothing is compared byte by byte -/
theorem code_word {y : MethodName} {bytes : ByteArray} {mx : Nat} {rt : Option FieldType} {a : Array Value} {s : State} {m : MethodId} {meth : Method} {c : Code} (h1 : s.methodNamed? y = some m) (h2 : s.vm.method? m = some meth) (h3 : meth.code = some c) (h4 : c.code = bytes)
    (h5 : (c.maxLocals == mx && c.exceptionTable.isEmpty && decide (c.maxStack ≤ mostOperands) && decide (meth.sig.returnType = rt) && !meth.locks && decide (parseMethodDescriptor y.desc = some meth.sig)) = true) : (Jvm.Cond.code y bytes mx rt).before a s = true := by
  simp only [Bool.and_eq_true, beq_iff_eq, Bool.not_eq_true', decide_eq_true_eq] at h5
  obtain ⟨⟨⟨⟨⟨g1, g2⟩, g3⟩, g4⟩, g5⟩, g6⟩ := h5
  simp [Cond.before, Cond.holds, Cond.value, h1, h2, h3, h4, g1, g2, g3, g4, g5, g6]
def isCode : Jvm.Cond → Bool
  | .code _ _ _ _ => true
  | _ => false
theorem all_split {L : List Jvm.Cond} {P : Jvm.Cond → Bool} (h1 : L.all (fun c => isCode c || P c) = true) (h2 : ∀ c ∈ L.filter isCode, P c = true) : L.all P = true := by
  refine List.all_eq_true.mpr fun c hc => ?_
  have h := List.all_eq_true.mp h1 c hc
  rcases Bool.eq_false_or_eq_true (isCode c) with hi | hi
  · exact h2 c (List.mem_filter.mpr ⟨hc, hi⟩)
  · simpa [hi] using h
set_option maxRecDepth 65536 in
theorem w_c0 : (Jvm.Cond.code x code maxLocals ret).before args0 about1 = true := code_word (m := ⟨1, 2⟩) (meth := k1m2) (c := k1c2) (by decide +kernel) rfl rfl rfl (by decide +kernel)
set_option maxRecDepth 65536 in
theorem w_c1 : (Jvm.Cond.code ({ cls := "com/example/linkwright/linkwright/classfile/ByteCursorU2AtPinLaw", name := "unsignedOf", desc := "(I)I" } : Jvm.MethodName) method_2_code (2 : Nat) (Option.some Jvm.ClassFile.FieldType.int)).before args0 about1 = true := code_word (m := ⟨1, 1⟩) (meth := k1m1) (c := k1c1) (by decide +kernel) rfl rfl rfl (by decide +kernel)
set_option maxRecDepth 65536 in
theorem w_c2 : (Jvm.Cond.code ({ cls := "com/example/linkwright/linkwright/classfile/ByteCursor", name := "u2At", desc := "([BI)I" } : Jvm.MethodName) prog_4_method_9_code (2 : Nat) (Option.some Jvm.ClassFile.FieldType.int)).before args0 about1 = true := code_word (m := ⟨2, 0⟩) (meth := k2m0) (c := k2c0) (by decide +kernel) rfl rfl rfl (by decide +kernel)
def codes1 : List Jvm.Cond := [Jvm.Cond.code x code maxLocals ret, Jvm.Cond.code ({ cls := "com/example/linkwright/linkwright/classfile/ByteCursorU2AtPinLaw", name := "unsignedOf", desc := "(I)I" } : Jvm.MethodName) method_2_code (2 : Nat) (Option.some Jvm.ClassFile.FieldType.int), Jvm.Cond.code ({ cls := "com/example/linkwright/linkwright/classfile/ByteCursor", name := "u2At", desc := "([BI)I" } : Jvm.MethodName) prog_4_method_9_code (2 : Nat) (Option.some Jvm.ClassFile.FieldType.int)]
set_option maxRecDepth 65536 in
theorem codes_eq : words1.filter isCode = codes1 := rfl
theorem w_codes : ∀ c ∈ words1.filter isCode, c.before args0 about1 = true := by
  rw [codes_eq]
  intro c hc
  simp only [codes1, List.mem_cons, List.not_mem_nil, or_false] at hc
  rcases hc with rfl | rfl | rfl
  · exact w_c0
  · exact w_c1
  · exact w_c2
set_option maxRecDepth 65536 in
theorem w_t1 : words1.all (fun c => isCode c || c.before args0 about1) = true := by decide +kernel
theorem w_tables : (allAtoms (Jvm.Cond.code x code maxLocals ret :: tables_1)).before args0 about1 = true := by
  rw [allAtoms_all]
  show words1.all (fun c => c.before args0 about1) = true
  refine all_split ?_ w_codes
  rw [w_t1]
set_option maxRecDepth 65536 in
theorem w_case : (Jvm.Cond.and given_1 narrow_1).before args0 about1 = true := by decide +kernel
theorem w_applies : (headSpec (Jvm.Cond.code x code maxLocals ret :: tables_1) room_1).applies x e0.platform about1 = true :=
  (Spec.applies_iff w_frames).mpr ⟨w_running, w_runnable, w_alone, w_named, w_hears, w_ripe, w_room, w_tables⟩
theorem atStart : AtStart classFile x code maxLocals ret World_1 tables_1 room_1 Calls_1 rest_1 Pre_1 launch0 p0 e0 about1 theMethod args0 below0 :=
  ⟨lists_1, trivial, launch0.admits_env _ _ _, launch0.least_env, fairChoices_fair.cas, fairChoices_fair.clock, w_frames, w_args, w_heap, w_applies, trivial, trivial, w_case⟩
end start1
theorem witness_1 : WitnessClaimed_1 := ⟨start1.p0, start1.e0, start1.about1, start1.theMethod, start1.args0, start1.below0, start1.atStart⟩
end Jvm.Pilot.@@N@@
