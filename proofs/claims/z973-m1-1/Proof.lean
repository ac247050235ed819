import JvmDerived
import JvmDerived.Pilot.@@N@@Statement
import JvmDerived.Pilot.@@N@@Code
set_option linter.unusedVariables false
set_option linter.unusedSimpArgs false

namespace Jvm.RoadKit
open Sem ClassFile Op Lib Jvm.Stand Jvm.Free Jvm.LawKit
section New
variable {p : Program} {l : Launch} {e : Env} {R : Room} {s : State} {m : MethodId} {args : Array Value} {below : List Frame} {meth : Method} {c : Code} {T : State} {locs : List Loc} {cells slots : Nat}
theorem retI (X : Stand p l e R s m args below meth c T locs cells slots) (hx : p.tables.exec = Jvm.exec) {pc : Nat} {Ls : Array Slot} {z : Int32} {rest : List Value} (hret : meth.sig.returnType = some .int) (hd : decode c.code pc = .ok (.ireturn, 1)) {fs : List Frame}
    (hl : ∀ (f : JFrame) (acts : List Action), f.method = m → f.locked = none → f.entered = [] → (doReturn e (T.setTop f) acts (some (.int z))).1 = T.setFrames fs) : Steps p.tables e below (T.setTop (mkF m pc Ls (.int z :: rest))) (T.setFrames fs) := by
  have hm' : T.vm.method? m = some meth := X.method'
  have hn : narrow .int (.int z) = .int z := rfl
  show Steps p.tables e below (T.setTop { method := m, pc := pc, locals := Ls, stack := _ :: rest, locked := none }) _
  jvm_step X.here [X.here.top, hx, hd, hm', hret, hn]
  first | (intro acts; rw [hl _ acts rfl rfl rfl]) | rw [hl _ _ rfl rfl rfl]
  exact Steps.refl _
end New
end Jvm.RoadKit
namespace Jvm.Pilot.@@N@@
open Jvm Jvm.ClassFile Sem Op Lib Jvm.Free Jvm.Stand Jvm.LawKit Jvm.RoadKit Bundle Jvm.Pilot.@@N@@.Jvm.D
/-- from A the run comes to B -/
abbrev Wy (tb : Tables) (e : Env) (below : List Frame) (A B : State) : Prop := ∀ t, Steps tb e below B t → Steps tb e below A t
theorem own_nat {c : Int32} (h : 0 ≤ c.toInt) : c = Int32.ofNat c.toInt.toNat := by
  apply Int32.toInt_inj.mp
  have h1 := c.toInt_lt
  rw [Int32.toInt_ofNat_of_lt (by omega)]
  omega
theorem own_lt {a b : Int32} : a < b ↔ a.toInt < b.toInt := Int32.lt_iff_toInt_lt
theorem own_ltF (k : Nat) (c : Int32) (h0 : 0 ≤ c.toInt) (h1 : c.toInt < k) : ∃ n : Fin k, c = Int32.ofNat n.val :=
  ⟨⟨c.toInt.toNat, by omega⟩, own_nat h0⟩
theorem own_rem (x y : Int32) (hx : 0 ≤ x.toInt) (hy : 0 < y.toInt) : (x - (x / y) * y).toInt = x.toInt % y.toInt := by
  have h1 := (c_idiv x y y.toInt rfl (by intro h; rw [h] at hy; exact absurd hy (by decide))).1 hx
  have h2 := c_imul (x / y) y
  have h3 := c_isub x ((x / y) * y)
  have r1 := rng32 ((x / y) * y)
  have r2 := rng32 (x - (x / y) * y)
  have r3 := rng32 x
  have r4 := rng32 y
  have e : x.toInt / y.toInt * y.toInt = x.toInt - x.toInt % y.toInt := by
    have := Int.emod_def x.toInt y.toInt
    rw [Int.mul_comm] at this
    omega
  rw [h1, e] at h2
  have b1 := Int.emod_nonneg x.toInt (show y.toInt ≠ 0 by omega)
  have b2 := Int.emod_lt_of_pos x.toInt hy
  have b3 : x.toInt % y.toInt ≤ x.toInt := by
    by_cases q : x.toInt < y.toInt
    · rw [Int.emod_eq_of_lt hx q]; omega
    · omega
  omega
theorem own_nm {a b : Addr} (h : a ≠ b) : a ∉ [b] := by simpa using h
theorem own_nm2 {a b c : Addr} (h : a ≠ b) (h2 : a ≠ c) : a ∉ [b, c] := by simp [h, h2]

theorem own_getD (l : List Int32) (k : Nat) : (l.map Value.int).getD k (.int 0) = .int (l.getD k 0) := by
  induction l generalizing k with
  | nil => simp
  | cons a r ih => cases k with
    | zero => simp
    | succ k => simpa using ih k
theorem own_in {cl : Cell} {j : Int32} (h : ¬ (j < 0 ∨ cl.slots.size ≤ j.toNatClampNeg)) : j.toNatClampNeg < cl.slots.size := Nat.lt_of_not_le fun q => h (Or.inr q)
theorem own_b8 (x : Int32) : x.toInt8.toInt32.toInt8.toInt32 = x.toInt8.toInt32 := by simp
/-- the array at ad is a byte[] of these values -/
def own_By (Z : State) (h : Heap) (ad : Addr) (vs : List Int32) : Prop := ∃ cl : Cell, Arr Z h ad cl .byte ∧ cl.slots.size = vs.length ∧ ∀ k, k < vs.length → cl.slots[k]? = some (.int (vs.getD k 0))
theorem own_by_of {Z : State} {h : Heap} {ad : Addr} {k : ClassId} {z : Int32} {ws : List Value} {vs : List Int32} (V : Arv Z h ad k .byte z ws (.int 0)) (hw : ws = vs.map Value.int) (hz : z.toNatClampNeg = vs.length) : own_By Z h ad vs := by
  obtain ⟨cl, A, -, S, -, H, -⟩ := V
  exact ⟨cl, A, by rw [S, hz], fun k hk => by rw [H k (by rw [S, hz]; exact hk), hw, own_getD]⟩
theorem own_at {cl : Cell} {vs : List Int32} {j : Int32} (Sz : cl.slots.size = vs.length) (Ha : ∀ k, k < vs.length → cl.slots[k]? = some (.int (vs.getD k 0))) (h0 : 0 ≤ j.toInt) (h1 : j.toInt < vs.length) :
    (¬ (j < 0 ∨ cl.slots.size ≤ j.toNatClampNeg)) ∧ cl.slots[j.toNatClampNeg]? = some (.int (vs.getD j.toNatClampNeg 0)) := by
  have e : j.toNatClampNeg = j.toInt.toNat := rfl
  have z : (0 : Int32).toInt = 0 := rfl
  refine ⟨?_, Ha _ (by omega)⟩
  rw [Int32.lt_iff_toInt_lt, Sz]
  omega
theorem own_ofN {n : Nat} (h : n < 2147483648) : (Int32.ofNat n).toInt = n := Int32.toInt_ofNat_of_lt h
theorem own_ofC {n : Nat} (h : n < 2147483648) : (Int32.ofNat n).toNatClampNeg = n := Int32.toNatClampNeg_ofNat_of_lt h
theorem own_one (i : Nat) : Int32.ofNat i + (1 : Int32) = Int32.ofNat (i + 1) := (Int32.ofNat_add i 1).symm
theorem own_ltN {i t : Nat} (hi : i < 2147483648) (ht : t < 2147483648) : Int32.ofNat i < Int32.ofNat t ↔ i < t := by
  rw [Int32.lt_iff_toInt_lt, own_ofN hi, own_ofN ht]; omega

def Fmk (ax : Int32) : Int32 := (if (ax &&& (256 : Int32)) = (0 : Int32) then (ax.toInt8.toInt32) else (((48 : Int32) + (((ax.toUInt32 >>> ((9 : Int32) &&& 31).toUInt32).toInt32) - (((ax.toUInt32 >>> ((9 : Int32) &&& 31).toUInt32).toInt32) / (10 : Int32)) * (10 : Int32))).toInt8.toInt32))
theorem d1_0 : decode method_3_code 0 = .ok (.iload_n 0, 1) := by decide +kernel
theorem d1_1 : decode method_3_code 1 = .ok (.sipush 256, 3) := by decide +kernel
theorem d1_4 : decode method_3_code 4 = .ok (.iand, 1) := by decide +kernel
theorem d1_5 : decode method_3_code 5 = .ok (.ifCond .eq 15, 3) := by decide +kernel
theorem d1_8 : decode method_3_code 8 = .ok (.bipush 48, 2) := by decide +kernel
theorem d1_10 : decode method_3_code 10 = .ok (.iload_n 0, 1) := by decide +kernel
theorem d1_11 : decode method_3_code 11 = .ok (.bipush 9, 2) := by decide +kernel
theorem d1_13 : decode method_3_code 13 = .ok (.iushr, 1) := by decide +kernel
theorem d1_14 : decode method_3_code 14 = .ok (.bipush 10, 2) := by decide +kernel
theorem d1_16 : decode method_3_code 16 = .ok (.irem, 1) := by decide +kernel
theorem d1_17 : decode method_3_code 17 = .ok (.iadd, 1) := by decide +kernel
theorem d1_18 : decode method_3_code 18 = .ok (.i2b, 1) := by decide +kernel
theorem d1_19 : decode method_3_code 19 = .ok (.ireturn, 1) := by decide +kernel
theorem d1_20 : decode method_3_code 20 = .ok (.iload_n 0, 1) := by decide +kernel
theorem d1_21 : decode method_3_code 21 = .ok (.i2b, 1) := by decide +kernel
theorem d1_22 : decode method_3_code 22 = .ok (.ireturn, 1) := by decide +kernel
theorem pn_com_example_zbirka_zbirka_Iso2709ReaderDigitsPinLaw : plainName "com/example/zbirka/zbirka/Iso2709ReaderDigitsPinLaw" = true := by first | (simp [plainName, overriddenIn]; done) | decide +kernel
theorem ef_rm1 (m : MethodId) (ax : Int32)  : entryFrame m #[(.int ax)] 1 = (mkF m 0 #[.val (.int ax)] []) := by first | (simp [entryFrame, mkF, argsToLocals, Value.category]; done) | rfl
def Q1 (Z : State) (ax : Int32) (h0 : Heap) (n0 : Nat) (v : Option Value) (h : Heap) (L : List Loc) : Prop := v = some (.int (Fmk ax)) ∧ Fr n0 L ∧ h = h0
set_option maxRecDepth 65536 in
set_option maxHeartbeats 40000000 in
theorem rm1 (l : Launch) (Z : State) (a0 : Array Value) (hw : ∀ d ∈ tables_1, d.before a0 Z = true) (ws : List Jvm.Cond) (ax : Int32) (h0 : Heap) (n0 : Nat) (Z0 : n0 ≤ h0.size)  :
    MetFree l (⟨"com/example/zbirka/zbirka/Iso2709ReaderDigitsPinLaw", "mk", "(I)B"⟩ : MethodName) (head1 (Jvm.Cond.code (⟨"com/example/zbirka/zbirka/Iso2709ReaderDigitsPinLaw", "mk", "(I)B"⟩ : MethodName) method_3_code 1 (some .byte) :: ws) ({ frames := 0, cells := 0, slots := 0, locals := 0 } : Room)) (fun a U => a = #[(.int ax)] ∧ Z.Warmed39 U.vm ∧ U.heap = h0) (fun _ _ _ _ _ => True) (fun _ U o U' => ∃ v L, o = .returned v ∧ Q1 Z ax h0 n0 v U'.heap L ∧ FrameEnd U o U' L ({ frames := 0, cells := 0, slots := 0, locals := 0 } : Room).cells ({ frames := 0, cells := 0, slots := 0, locals := 0 } : Room).slots) := by
  refine MetFree.of_bodySF (plainFor_of_name pn_com_example_zbirka_zbirka_Iso2709ReaderDigitsPinLaw) hisR ?_
  intro p e s m args below meth c s₁ Bd hml0 hP hK
  obtain ⟨rfl, hZ, hh⟩ := hP
  have hx := Bd.exec
  have hby := Bd.bytes
  have hml : c.maxLocals = 1 := hml0
  have hown : s.vm.findClass "com/example/zbirka/zbirka/Iso2709ReaderDigitsPinLaw" = some m.cls := by have q := findClass_of_methodNamed Bd.named; exact q
  have hnm := (name_of_methodNamed Bd.named Bd.method).1
  have X0 : Stand p l e ({ frames := 0, cells := 0, slots := 0, locals := 0 } : Room) s m #[(.int ax)] below meth c s₁ [] 0 0 := Stand.of_body Bd
  have e0 : s₁.heap = h0 := by rw [← hh, Bd.state]; rfl
  have N0 := Fr.nil n0
  have P0 : Wy p.tables e below (s₁.setTop (entryFrame m #[(.int ax)] 1)) (s₁.setTop (mkF m 0 #[.val (.int ax)] [])) := fun t k => castTop (ef_rm1 m ax) k
  have P1 : Wy p.tables e below (s₁.setTop (entryFrame m #[(.int ax)] 1)) (s₁.setTop (mkF m 5 #[.val (.int ax)] [(.int (ax &&& (256 : Int32)))])) := fun t k => P0 t (by
    show Steps p.tables e below (s₁.setTop (mkF m 0 #[.val (.int ax)] [])) _
    refine XS.iloadN X0.here hx rfl (hb hby d1_0) rfl  ?_
    show Steps p.tables e below (s₁.setTop (mkF m 1 #[.val (.int ax)] [(.int ax)])) _
    refine XS.sipush X0.here hx rfl (hb hby d1_1) ?_
    show Steps p.tables e below (s₁.setTop (mkF m 4 #[.val (.int ax)] [(.int (256 : Int32)), (.int ax)])) _
    refine XS.iand X0.here hx rfl (hb hby d1_4) rfl ?_
    exact k)
  by_cases hc5_2 : (ax &&& (256 : Int32)) = (0 : Int32)
  · have P3 : Wy p.tables e below (s₁.setTop (entryFrame m #[(.int ax)] 1)) (s₁.setTop (mkF m 22 #[.val (.int ax)] [(.int (ax.toInt8.toInt32))])) := fun t k => P1 t (by
      show Steps p.tables e below (s₁.setTop (mkF m 5 #[.val (.int ax)] [(.int (ax &&& (256 : Int32)))])) _
      refine XS.ifYes X0.here hx rfl (pc0 := 5) (pc' := 20) rfl (hb hby d1_5) rfl ((if0 _ _).trans (teq hc5_2).1) (by decide) (by decide) ?_
      show Steps p.tables e below (s₁.setTop (mkF m 20 #[.val (.int ax)] [])) _
      refine XS.iloadN X0.here hx rfl (hb hby d1_20) rfl  ?_
      show Steps p.tables e below (s₁.setTop (mkF m 21 #[.val (.int ax)] [(.int ax)])) _
      refine XS.i2b X0.here hx rfl (hb hby d1_21) rfl ?_
      exact k)
    obtain ⟨fs, hr, hrun, hended, hW, hsame⟩ := X0.leave (v := some (.int (nar .byte (ax.toInt8.toInt32)))) (fun h => by rw [Bd.returns] at h; cases h)
    refine ⟨_, _, P3 _ ?_, hrun, hended, _, _, rfl, ?_, ⟨_, rfl⟩, hW, hsame.mono (by decide) (by decide)⟩
    · show Steps p.tables e below (s₁.setTop (mkF m 22 #[.val (.int ax)] [(.int (ax.toInt8.toInt32))])) _
      exact retN X0 hx (t := .byte) Bd.returns (by simp) (hb hby d1_22) hr
    · show Q1 Z ax h0 n0 _ s₁.heap _
      rw [e0]
      exact ⟨congrArg (fun z => some (Value.int z)) (show _ = Fmk ax from by simp only [Fmk, if_pos hc5_2]; exact own_b8 _), N0, rfl⟩
  · have P4 : Wy p.tables e below (s₁.setTop (entryFrame m #[(.int ax)] 1)) (s₁.setTop (mkF m 19 #[.val (.int ax)] [(.int (((48 : Int32) + (((ax.toUInt32 >>> ((9 : Int32) &&& 31).toUInt32).toInt32) - (((ax.toUInt32 >>> ((9 : Int32) &&& 31).toUInt32).toInt32) / (10 : Int32)) * (10 : Int32))).toInt8.toInt32))])) := fun t k => P1 t (by
      show Steps p.tables e below (s₁.setTop (mkF m 5 #[.val (.int ax)] [(.int (ax &&& (256 : Int32)))])) _
      refine XS.ifNo X0.here hx rfl (hb hby d1_5) rfl ((if0 _ _).trans (feq hc5_2).1) ?_
      show Steps p.tables e below (s₁.setTop (mkF m 8 #[.val (.int ax)] [])) _
      refine XS.bipush X0.here hx rfl (hb hby d1_8) ?_
      show Steps p.tables e below (s₁.setTop (mkF m 10 #[.val (.int ax)] [(.int (48 : Int32))])) _
      refine XS.iloadN X0.here hx rfl (hb hby d1_10) rfl  ?_
      show Steps p.tables e below (s₁.setTop (mkF m 11 #[.val (.int ax)] [(.int ax), (.int (48 : Int32))])) _
      refine XS.bipush X0.here hx rfl (hb hby d1_11) ?_
      show Steps p.tables e below (s₁.setTop (mkF m 13 #[.val (.int ax)] [(.int (9 : Int32)), (.int ax), (.int (48 : Int32))])) _
      refine XS.iushr X0.here hx rfl (hb hby d1_13) rfl ?_
      show Steps p.tables e below (s₁.setTop (mkF m 14 #[.val (.int ax)] [(.int ((ax.toUInt32 >>> ((9 : Int32) &&& 31).toUInt32).toInt32)), (.int (48 : Int32))])) _
      refine XS.bipush X0.here hx rfl (hb hby d1_14) ?_
      show Steps p.tables e below (s₁.setTop (mkF m 16 #[.val (.int ax)] [(.int (10 : Int32)), (.int ((ax.toUInt32 >>> ((9 : Int32) &&& 31).toUInt32).toInt32)), (.int (48 : Int32))])) _
      refine XS.irem X0.here hx rfl (hb hby d1_16) rfl (by decide) ?_
      show Steps p.tables e below (s₁.setTop (mkF m 17 #[.val (.int ax)] [(.int (((ax.toUInt32 >>> ((9 : Int32) &&& 31).toUInt32).toInt32) - (((ax.toUInt32 >>> ((9 : Int32) &&& 31).toUInt32).toInt32) / (10 : Int32)) * (10 : Int32))), (.int (48 : Int32))])) _
      refine XS.iadd X0.here hx rfl (hb hby d1_17) rfl ?_
      show Steps p.tables e below (s₁.setTop (mkF m 18 #[.val (.int ax)] [(.int ((48 : Int32) + (((ax.toUInt32 >>> ((9 : Int32) &&& 31).toUInt32).toInt32) - (((ax.toUInt32 >>> ((9 : Int32) &&& 31).toUInt32).toInt32) / (10 : Int32)) * (10 : Int32))))])) _
      refine XS.i2b X0.here hx rfl (hb hby d1_18) rfl ?_
      exact k)
    obtain ⟨fs, hr, hrun, hended, hW, hsame⟩ := X0.leave (v := some (.int (nar .byte (((48 : Int32) + (((ax.toUInt32 >>> ((9 : Int32) &&& 31).toUInt32).toInt32) - (((ax.toUInt32 >>> ((9 : Int32) &&& 31).toUInt32).toInt32) / (10 : Int32)) * (10 : Int32))).toInt8.toInt32)))) (fun h => by rw [Bd.returns] at h; cases h)
    refine ⟨_, _, P4 _ ?_, hrun, hended, _, _, rfl, ?_, ⟨_, rfl⟩, hW, hsame.mono (by decide) (by decide)⟩
    · show Steps p.tables e below (s₁.setTop (mkF m 19 #[.val (.int ax)] [(.int (((48 : Int32) + (((ax.toUInt32 >>> ((9 : Int32) &&& 31).toUInt32).toInt32) - (((ax.toUInt32 >>> ((9 : Int32) &&& 31).toUInt32).toInt32) / (10 : Int32)) * (10 : Int32))).toInt8.toInt32))])) _
      exact retN X0 hx (t := .byte) Bd.returns (by simp) (hb hby d1_19) hr
    · show Q1 Z ax h0 n0 _ s₁.heap _
      rw [e0]
      exact ⟨congrArg (fun z => some (Value.int z)) (show _ = Fmk ax from by simp only [Fmk, if_neg hc5_2]; exact own_b8 _), N0, rfl⟩
def Fd (ax : Int32) : Int32 := (if ax < (48 : Int32) then (0 : Int32) else (if (57 : Int32) < ax then (0 : Int32) else (1 : Int32)))
theorem d5_0 : decode method_4_code 0 = .ok (.iload_n 0, 1) := by decide +kernel
theorem d5_1 : decode method_4_code 1 = .ok (.bipush 48, 2) := by decide +kernel
theorem d5_3 : decode method_4_code 3 = .ok (.if_icmp .lt 13, 3) := by decide +kernel
theorem d5_6 : decode method_4_code 6 = .ok (.iload_n 0, 1) := by decide +kernel
theorem d5_7 : decode method_4_code 7 = .ok (.bipush 57, 2) := by decide +kernel
theorem d5_9 : decode method_4_code 9 = .ok (.if_icmp .gt 7, 3) := by decide +kernel
theorem d5_12 : decode method_4_code 12 = .ok (.iconst 1, 1) := by decide +kernel
theorem d5_13 : decode method_4_code 13 = .ok (.goto 4, 3) := by decide +kernel
theorem d5_16 : decode method_4_code 16 = .ok (.iconst 0, 1) := by decide +kernel
theorem d5_17 : decode method_4_code 17 = .ok (.ireturn, 1) := by decide +kernel
theorem ef_rm5 (m : MethodId) (ax : Int32)  : entryFrame m #[(.int ax)] 1 = (mkF m 0 #[.val (.int ax)] []) := by first | (simp [entryFrame, mkF, argsToLocals, Value.category]; done) | rfl
def Q5 (Z : State) (ax : Int32) (h0 : Heap) (n0 : Nat) (v : Option Value) (h : Heap) (L : List Loc) : Prop := v = some (.int (Fd ax)) ∧ Fr n0 L ∧ h = h0
set_option maxRecDepth 65536 in
set_option maxHeartbeats 40000000 in
theorem rm5 (l : Launch) (Z : State) (a0 : Array Value) (hw : ∀ d ∈ tables_1, d.before a0 Z = true) (ws : List Jvm.Cond) (ax : Int32) (h0 : Heap) (n0 : Nat) (Z0 : n0 ≤ h0.size)  :
    MetFree l (⟨"com/example/zbirka/zbirka/Iso2709ReaderDigitsPinLaw", "isDigit", "(B)Z"⟩ : MethodName) (head1 (Jvm.Cond.code (⟨"com/example/zbirka/zbirka/Iso2709ReaderDigitsPinLaw", "isDigit", "(B)Z"⟩ : MethodName) method_4_code 1 (some .boolean) :: ws) ({ frames := 0, cells := 0, slots := 0, locals := 0 } : Room)) (fun a U => a = #[(.int ax)] ∧ Z.Warmed39 U.vm ∧ U.heap = h0) (fun _ _ _ _ _ => True) (fun _ U o U' => ∃ v L, o = .returned v ∧ Q5 Z ax h0 n0 v U'.heap L ∧ FrameEnd U o U' L ({ frames := 0, cells := 0, slots := 0, locals := 0 } : Room).cells ({ frames := 0, cells := 0, slots := 0, locals := 0 } : Room).slots) := by
  refine MetFree.of_bodySF (plainFor_of_name pn_com_example_zbirka_zbirka_Iso2709ReaderDigitsPinLaw) hisR ?_
  intro p e s m args below meth c s₁ Bd hml0 hP hK
  obtain ⟨rfl, hZ, hh⟩ := hP
  have hx := Bd.exec
  have hby := Bd.bytes
  have hml : c.maxLocals = 1 := hml0
  have hown : s.vm.findClass "com/example/zbirka/zbirka/Iso2709ReaderDigitsPinLaw" = some m.cls := by have q := findClass_of_methodNamed Bd.named; exact q
  have hnm := (name_of_methodNamed Bd.named Bd.method).1
  have X0 : Stand p l e ({ frames := 0, cells := 0, slots := 0, locals := 0 } : Room) s m #[(.int ax)] below meth c s₁ [] 0 0 := Stand.of_body Bd
  have e0 : s₁.heap = h0 := by rw [← hh, Bd.state]; rfl
  have N0 := Fr.nil n0
  have P0 : Wy p.tables e below (s₁.setTop (entryFrame m #[(.int ax)] 1)) (s₁.setTop (mkF m 0 #[.val (.int ax)] [])) := fun t k => castTop (ef_rm5 m ax) k
  have P1 : Wy p.tables e below (s₁.setTop (entryFrame m #[(.int ax)] 1)) (s₁.setTop (mkF m 3 #[.val (.int ax)] [(.int (48 : Int32)), (.int ax)])) := fun t k => P0 t (by
    show Steps p.tables e below (s₁.setTop (mkF m 0 #[.val (.int ax)] [])) _
    refine XS.iloadN X0.here hx rfl (hb hby d5_0) rfl  ?_
    show Steps p.tables e below (s₁.setTop (mkF m 1 #[.val (.int ax)] [(.int ax)])) _
    refine XS.bipush X0.here hx rfl (hb hby d5_1) ?_
    exact k)
  by_cases hc3_2 : ax < (48 : Int32)
  · have P3 : Wy p.tables e below (s₁.setTop (entryFrame m #[(.int ax)] 1)) (s₁.setTop (mkF m 17 #[.val (.int ax)] [(.int (0 : Int32))])) := fun t k => P1 t (by
      show Steps p.tables e below (s₁.setTop (mkF m 3 #[.val (.int ax)] [(.int (48 : Int32)), (.int ax)])) _
      refine XS.icmpYes X0.here hx rfl (pc0 := 3) (pc' := 16) rfl (hb hby d5_3) rfl (tlt hc3_2).1 (by decide) (by decide) ?_
      show Steps p.tables e below (s₁.setTop (mkF m 16 #[.val (.int ax)] [])) _
      refine XS.iconst X0.here hx rfl (hb hby d5_16) ?_
      exact k)
    obtain ⟨fs, hr, hrun, hended, hW, hsame⟩ := X0.leave (v := some (.int (nar .boolean (0 : Int32)))) (fun h => by rw [Bd.returns] at h; cases h)
    refine ⟨_, _, P3 _ ?_, hrun, hended, _, _, rfl, ?_, ⟨_, rfl⟩, hW, hsame.mono (by decide) (by decide)⟩
    · show Steps p.tables e below (s₁.setTop (mkF m 17 #[.val (.int ax)] [(.int (0 : Int32))])) _
      exact retN X0 hx (t := .boolean) Bd.returns (by simp) (hb hby d5_17) hr
    · show Q5 Z ax h0 n0 _ s₁.heap _
      rw [e0]
      exact ⟨congrArg (fun z => some (Value.int z)) (show _ = Fd ax from by simp only [Fd, if_pos hc3_2]; try rfl), N0, rfl⟩
  · have P4 : Wy p.tables e below (s₁.setTop (entryFrame m #[(.int ax)] 1)) (s₁.setTop (mkF m 9 #[.val (.int ax)] [(.int (57 : Int32)), (.int ax)])) := fun t k => P1 t (by
      show Steps p.tables e below (s₁.setTop (mkF m 3 #[.val (.int ax)] [(.int (48 : Int32)), (.int ax)])) _
      refine XS.icmpNo X0.here hx rfl (hb hby d5_3) rfl (flt hc3_2).1 ?_
      show Steps p.tables e below (s₁.setTop (mkF m 6 #[.val (.int ax)] [])) _
      refine XS.iloadN X0.here hx rfl (hb hby d5_6) rfl  ?_
      show Steps p.tables e below (s₁.setTop (mkF m 7 #[.val (.int ax)] [(.int ax)])) _
      refine XS.bipush X0.here hx rfl (hb hby d5_7) ?_
      exact k)
    by_cases hc9_5 : (57 : Int32) < ax
    · have P6 : Wy p.tables e below (s₁.setTop (entryFrame m #[(.int ax)] 1)) (s₁.setTop (mkF m 17 #[.val (.int ax)] [(.int (0 : Int32))])) := fun t k => P4 t (by
        show Steps p.tables e below (s₁.setTop (mkF m 9 #[.val (.int ax)] [(.int (57 : Int32)), (.int ax)])) _
        refine XS.icmpYes X0.here hx rfl (pc0 := 9) (pc' := 16) rfl (hb hby d5_9) rfl (tlt hc9_5).2.2.1 (by decide) (by decide) ?_
        show Steps p.tables e below (s₁.setTop (mkF m 16 #[.val (.int ax)] [])) _
        refine XS.iconst X0.here hx rfl (hb hby d5_16) ?_
        exact k)
      obtain ⟨fs, hr, hrun, hended, hW, hsame⟩ := X0.leave (v := some (.int (nar .boolean (0 : Int32)))) (fun h => by rw [Bd.returns] at h; cases h)
      refine ⟨_, _, P6 _ ?_, hrun, hended, _, _, rfl, ?_, ⟨_, rfl⟩, hW, hsame.mono (by decide) (by decide)⟩
      · show Steps p.tables e below (s₁.setTop (mkF m 17 #[.val (.int ax)] [(.int (0 : Int32))])) _
        exact retN X0 hx (t := .boolean) Bd.returns (by simp) (hb hby d5_17) hr
      · show Q5 Z ax h0 n0 _ s₁.heap _
        rw [e0]
        exact ⟨congrArg (fun z => some (Value.int z)) (show _ = Fd ax from by simp only [Fd, if_neg hc3_2, if_pos hc9_5]; try rfl), N0, rfl⟩
    · have P7 : Wy p.tables e below (s₁.setTop (entryFrame m #[(.int ax)] 1)) (s₁.setTop (mkF m 17 #[.val (.int ax)] [(.int (1 : Int32))])) := fun t k => P4 t (by
        show Steps p.tables e below (s₁.setTop (mkF m 9 #[.val (.int ax)] [(.int (57 : Int32)), (.int ax)])) _
        refine XS.icmpNo X0.here hx rfl (hb hby d5_9) rfl (flt hc9_5).2.2.1 ?_
        show Steps p.tables e below (s₁.setTop (mkF m 12 #[.val (.int ax)] [])) _
        refine XS.iconst X0.here hx rfl (hb hby d5_12) ?_
        show Steps p.tables e below (s₁.setTop (mkF m 13 #[.val (.int ax)] [(.int (1 : Int32))])) _
        refine XS.goto X0.here hx rfl (pc0 := 13) (pc' := 17) rfl (hb hby d5_13) (by decide) (by decide) ?_
        exact k)
      obtain ⟨fs, hr, hrun, hended, hW, hsame⟩ := X0.leave (v := some (.int (nar .boolean (1 : Int32)))) (fun h => by rw [Bd.returns] at h; cases h)
      refine ⟨_, _, P7 _ ?_, hrun, hended, _, _, rfl, ?_, ⟨_, rfl⟩, hW, hsame.mono (by decide) (by decide)⟩
      · show Steps p.tables e below (s₁.setTop (mkF m 17 #[.val (.int ax)] [(.int (1 : Int32))])) _
        exact retN X0 hx (t := .boolean) Bd.returns (by simp) (hb hby d5_17) hr
      · show Q5 Z ax h0 n0 _ s₁.heap _
        rw [e0]
        exact ⟨congrArg (fun z => some (Value.int z)) (show _ = Fd ax from by simp only [Fd, if_neg hc3_2, if_neg hc9_5]; try rfl), N0, rfl⟩
def Fp (ax : Int32) : Int32 := (if ax = (0 : Int32) then (1 : Int32) else (if ax = (1 : Int32) then (10 : Int32) else (if ax = (2 : Int32) then (100 : Int32) else (if ax = (3 : Int32) then (1000 : Int32) else (10000 : Int32)))))
theorem d6_0 : decode method_6_code 0 = .ok (.iload_n 0, 1) := by decide +kernel
theorem d6_1 : decode method_6_code 1 = .ok (.ifCond .ne 5, 3) := by decide +kernel
theorem d6_4 : decode method_6_code 4 = .ok (.iconst 1, 1) := by decide +kernel
theorem d6_5 : decode method_6_code 5 = .ok (.ireturn, 1) := by decide +kernel
theorem d6_6 : decode method_6_code 6 = .ok (.iload_n 0, 1) := by decide +kernel
theorem d6_7 : decode method_6_code 7 = .ok (.iconst 1, 1) := by decide +kernel
theorem d6_8 : decode method_6_code 8 = .ok (.if_icmp .ne 6, 3) := by decide +kernel
theorem d6_11 : decode method_6_code 11 = .ok (.bipush 10, 2) := by decide +kernel
theorem d6_13 : decode method_6_code 13 = .ok (.ireturn, 1) := by decide +kernel
theorem d6_14 : decode method_6_code 14 = .ok (.iload_n 0, 1) := by decide +kernel
theorem d6_15 : decode method_6_code 15 = .ok (.iconst 2, 1) := by decide +kernel
theorem d6_16 : decode method_6_code 16 = .ok (.if_icmp .ne 6, 3) := by decide +kernel
theorem d6_19 : decode method_6_code 19 = .ok (.bipush 100, 2) := by decide +kernel
theorem d6_21 : decode method_6_code 21 = .ok (.ireturn, 1) := by decide +kernel
theorem d6_22 : decode method_6_code 22 = .ok (.iload_n 0, 1) := by decide +kernel
theorem d6_23 : decode method_6_code 23 = .ok (.iconst 3, 1) := by decide +kernel
theorem d6_24 : decode method_6_code 24 = .ok (.if_icmp .ne 7, 3) := by decide +kernel
theorem d6_27 : decode method_6_code 27 = .ok (.sipush 1000, 3) := by decide +kernel
theorem d6_30 : decode method_6_code 30 = .ok (.ireturn, 1) := by decide +kernel
theorem d6_31 : decode method_6_code 31 = .ok (.sipush 10000, 3) := by decide +kernel
theorem d6_34 : decode method_6_code 34 = .ok (.ireturn, 1) := by decide +kernel
theorem ef_rm6 (m : MethodId) (ax : Int32)  : entryFrame m #[(.int ax)] 1 = (mkF m 0 #[.val (.int ax)] []) := by first | (simp [entryFrame, mkF, argsToLocals, Value.category]; done) | rfl
def Q6 (Z : State) (ax : Int32) (h0 : Heap) (n0 : Nat) (v : Option Value) (h : Heap) (L : List Loc) : Prop := v = some (.int (Fp ax)) ∧ Fr n0 L ∧ h = h0
set_option maxRecDepth 65536 in
set_option maxHeartbeats 40000000 in
theorem rm6 (l : Launch) (Z : State) (a0 : Array Value) (hw : ∀ d ∈ tables_1, d.before a0 Z = true) (ws : List Jvm.Cond) (ax : Int32) (h0 : Heap) (n0 : Nat) (Z0 : n0 ≤ h0.size)  :
    MetFree l (⟨"com/example/zbirka/zbirka/Iso2709ReaderDigitsPinLaw", "pow10", "(I)I"⟩ : MethodName) (head1 (Jvm.Cond.code (⟨"com/example/zbirka/zbirka/Iso2709ReaderDigitsPinLaw", "pow10", "(I)I"⟩ : MethodName) method_6_code 1 (some .int) :: ws) ({ frames := 0, cells := 0, slots := 0, locals := 0 } : Room)) (fun a U => a = #[(.int ax)] ∧ Z.Warmed39 U.vm ∧ U.heap = h0) (fun _ _ _ _ _ => True) (fun _ U o U' => ∃ v L, o = .returned v ∧ Q6 Z ax h0 n0 v U'.heap L ∧ FrameEnd U o U' L ({ frames := 0, cells := 0, slots := 0, locals := 0 } : Room).cells ({ frames := 0, cells := 0, slots := 0, locals := 0 } : Room).slots) := by
  refine MetFree.of_bodySF (plainFor_of_name pn_com_example_zbirka_zbirka_Iso2709ReaderDigitsPinLaw) hisR ?_
  intro p e s m args below meth c s₁ Bd hml0 hP hK
  obtain ⟨rfl, hZ, hh⟩ := hP
  have hx := Bd.exec
  have hby := Bd.bytes
  have hml : c.maxLocals = 1 := hml0
  have hown : s.vm.findClass "com/example/zbirka/zbirka/Iso2709ReaderDigitsPinLaw" = some m.cls := by have q := findClass_of_methodNamed Bd.named; exact q
  have hnm := (name_of_methodNamed Bd.named Bd.method).1
  have X0 : Stand p l e ({ frames := 0, cells := 0, slots := 0, locals := 0 } : Room) s m #[(.int ax)] below meth c s₁ [] 0 0 := Stand.of_body Bd
  have e0 : s₁.heap = h0 := by rw [← hh, Bd.state]; rfl
  have N0 := Fr.nil n0
  have P0 : Wy p.tables e below (s₁.setTop (entryFrame m #[(.int ax)] 1)) (s₁.setTop (mkF m 0 #[.val (.int ax)] [])) := fun t k => castTop (ef_rm6 m ax) k
  have P1 : Wy p.tables e below (s₁.setTop (entryFrame m #[(.int ax)] 1)) (s₁.setTop (mkF m 1 #[.val (.int ax)] [(.int ax)])) := fun t k => P0 t (by
    show Steps p.tables e below (s₁.setTop (mkF m 0 #[.val (.int ax)] [])) _
    refine XS.iloadN X0.here hx rfl (hb hby d6_0) rfl  ?_
    exact k)
  by_cases hc1_2 : ax = (0 : Int32)
  · have P3 : Wy p.tables e below (s₁.setTop (entryFrame m #[(.int ax)] 1)) (s₁.setTop (mkF m 5 #[.val (.int ax)] [(.int (1 : Int32))])) := fun t k => P1 t (by
      show Steps p.tables e below (s₁.setTop (mkF m 1 #[.val (.int ax)] [(.int ax)])) _
      refine XS.ifNo X0.here hx rfl (hb hby d6_1) rfl ((if0 _ _).trans (teq hc1_2).2) ?_
      show Steps p.tables e below (s₁.setTop (mkF m 4 #[.val (.int ax)] [])) _
      refine XS.iconst X0.here hx rfl (hb hby d6_4) ?_
      exact k)
    obtain ⟨fs, hr, hrun, hended, hW, hsame⟩ := X0.leave (v := some (.int (1 : Int32))) (fun h => by rw [Bd.returns] at h; cases h)
    refine ⟨_, _, P3 _ ?_, hrun, hended, _, _, rfl, ?_, ⟨_, rfl⟩, hW, hsame.mono (by decide) (by decide)⟩
    · show Steps p.tables e below (s₁.setTop (mkF m 5 #[.val (.int ax)] [(.int (1 : Int32))])) _
      exact retI X0 hx Bd.returns (hb hby d6_5) hr
    · show Q6 Z ax h0 n0 _ s₁.heap _
      rw [e0]
      exact ⟨congrArg (fun z => some (Value.int z)) (show _ = Fp ax from by simp only [Fp, if_pos hc1_2]; try rfl), N0, rfl⟩
  · have P4 : Wy p.tables e below (s₁.setTop (entryFrame m #[(.int ax)] 1)) (s₁.setTop (mkF m 8 #[.val (.int ax)] [(.int (1 : Int32)), (.int ax)])) := fun t k => P1 t (by
      show Steps p.tables e below (s₁.setTop (mkF m 1 #[.val (.int ax)] [(.int ax)])) _
      refine XS.ifYes X0.here hx rfl (pc0 := 1) (pc' := 6) rfl (hb hby d6_1) rfl ((if0 _ _).trans (feq hc1_2).2) (by decide) (by decide) ?_
      show Steps p.tables e below (s₁.setTop (mkF m 6 #[.val (.int ax)] [])) _
      refine XS.iloadN X0.here hx rfl (hb hby d6_6) rfl  ?_
      show Steps p.tables e below (s₁.setTop (mkF m 7 #[.val (.int ax)] [(.int ax)])) _
      refine XS.iconst X0.here hx rfl (hb hby d6_7) ?_
      exact k)
    by_cases hc8_5 : ax = (1 : Int32)
    · have P6 : Wy p.tables e below (s₁.setTop (entryFrame m #[(.int ax)] 1)) (s₁.setTop (mkF m 13 #[.val (.int ax)] [(.int (10 : Int32))])) := fun t k => P4 t (by
        show Steps p.tables e below (s₁.setTop (mkF m 8 #[.val (.int ax)] [(.int (1 : Int32)), (.int ax)])) _
        refine XS.icmpNo X0.here hx rfl (hb hby d6_8) rfl (teq hc8_5).2 ?_
        show Steps p.tables e below (s₁.setTop (mkF m 11 #[.val (.int ax)] [])) _
        refine XS.bipush X0.here hx rfl (hb hby d6_11) ?_
        exact k)
      obtain ⟨fs, hr, hrun, hended, hW, hsame⟩ := X0.leave (v := some (.int (10 : Int32))) (fun h => by rw [Bd.returns] at h; cases h)
      refine ⟨_, _, P6 _ ?_, hrun, hended, _, _, rfl, ?_, ⟨_, rfl⟩, hW, hsame.mono (by decide) (by decide)⟩
      · show Steps p.tables e below (s₁.setTop (mkF m 13 #[.val (.int ax)] [(.int (10 : Int32))])) _
        exact retI X0 hx Bd.returns (hb hby d6_13) hr
      · show Q6 Z ax h0 n0 _ s₁.heap _
        rw [e0]
        exact ⟨congrArg (fun z => some (Value.int z)) (show _ = Fp ax from by simp only [Fp, if_neg hc1_2, if_pos hc8_5]; try rfl), N0, rfl⟩
    · have P7 : Wy p.tables e below (s₁.setTop (entryFrame m #[(.int ax)] 1)) (s₁.setTop (mkF m 16 #[.val (.int ax)] [(.int (2 : Int32)), (.int ax)])) := fun t k => P4 t (by
        show Steps p.tables e below (s₁.setTop (mkF m 8 #[.val (.int ax)] [(.int (1 : Int32)), (.int ax)])) _
        refine XS.icmpYes X0.here hx rfl (pc0 := 8) (pc' := 14) rfl (hb hby d6_8) rfl (feq hc8_5).2 (by decide) (by decide) ?_
        show Steps p.tables e below (s₁.setTop (mkF m 14 #[.val (.int ax)] [])) _
        refine XS.iloadN X0.here hx rfl (hb hby d6_14) rfl  ?_
        show Steps p.tables e below (s₁.setTop (mkF m 15 #[.val (.int ax)] [(.int ax)])) _
        refine XS.iconst X0.here hx rfl (hb hby d6_15) ?_
        exact k)
      by_cases hc16_8 : ax = (2 : Int32)
      · have P9 : Wy p.tables e below (s₁.setTop (entryFrame m #[(.int ax)] 1)) (s₁.setTop (mkF m 21 #[.val (.int ax)] [(.int (100 : Int32))])) := fun t k => P7 t (by
          show Steps p.tables e below (s₁.setTop (mkF m 16 #[.val (.int ax)] [(.int (2 : Int32)), (.int ax)])) _
          refine XS.icmpNo X0.here hx rfl (hb hby d6_16) rfl (teq hc16_8).2 ?_
          show Steps p.tables e below (s₁.setTop (mkF m 19 #[.val (.int ax)] [])) _
          refine XS.bipush X0.here hx rfl (hb hby d6_19) ?_
          exact k)
        obtain ⟨fs, hr, hrun, hended, hW, hsame⟩ := X0.leave (v := some (.int (100 : Int32))) (fun h => by rw [Bd.returns] at h; cases h)
        refine ⟨_, _, P9 _ ?_, hrun, hended, _, _, rfl, ?_, ⟨_, rfl⟩, hW, hsame.mono (by decide) (by decide)⟩
        · show Steps p.tables e below (s₁.setTop (mkF m 21 #[.val (.int ax)] [(.int (100 : Int32))])) _
          exact retI X0 hx Bd.returns (hb hby d6_21) hr
        · show Q6 Z ax h0 n0 _ s₁.heap _
          rw [e0]
          exact ⟨congrArg (fun z => some (Value.int z)) (show _ = Fp ax from by simp only [Fp, if_neg hc1_2, if_neg hc8_5, if_pos hc16_8]; try rfl), N0, rfl⟩
      · have P10 : Wy p.tables e below (s₁.setTop (entryFrame m #[(.int ax)] 1)) (s₁.setTop (mkF m 24 #[.val (.int ax)] [(.int (3 : Int32)), (.int ax)])) := fun t k => P7 t (by
          show Steps p.tables e below (s₁.setTop (mkF m 16 #[.val (.int ax)] [(.int (2 : Int32)), (.int ax)])) _
          refine XS.icmpYes X0.here hx rfl (pc0 := 16) (pc' := 22) rfl (hb hby d6_16) rfl (feq hc16_8).2 (by decide) (by decide) ?_
          show Steps p.tables e below (s₁.setTop (mkF m 22 #[.val (.int ax)] [])) _
          refine XS.iloadN X0.here hx rfl (hb hby d6_22) rfl  ?_
          show Steps p.tables e below (s₁.setTop (mkF m 23 #[.val (.int ax)] [(.int ax)])) _
          refine XS.iconst X0.here hx rfl (hb hby d6_23) ?_
          exact k)
        by_cases hc24_11 : ax = (3 : Int32)
        · have P12 : Wy p.tables e below (s₁.setTop (entryFrame m #[(.int ax)] 1)) (s₁.setTop (mkF m 30 #[.val (.int ax)] [(.int (1000 : Int32))])) := fun t k => P10 t (by
            show Steps p.tables e below (s₁.setTop (mkF m 24 #[.val (.int ax)] [(.int (3 : Int32)), (.int ax)])) _
            refine XS.icmpNo X0.here hx rfl (hb hby d6_24) rfl (teq hc24_11).2 ?_
            show Steps p.tables e below (s₁.setTop (mkF m 27 #[.val (.int ax)] [])) _
            refine XS.sipush X0.here hx rfl (hb hby d6_27) ?_
            exact k)
          obtain ⟨fs, hr, hrun, hended, hW, hsame⟩ := X0.leave (v := some (.int (1000 : Int32))) (fun h => by rw [Bd.returns] at h; cases h)
          refine ⟨_, _, P12 _ ?_, hrun, hended, _, _, rfl, ?_, ⟨_, rfl⟩, hW, hsame.mono (by decide) (by decide)⟩
          · show Steps p.tables e below (s₁.setTop (mkF m 30 #[.val (.int ax)] [(.int (1000 : Int32))])) _
            exact retI X0 hx Bd.returns (hb hby d6_30) hr
          · show Q6 Z ax h0 n0 _ s₁.heap _
            rw [e0]
            exact ⟨congrArg (fun z => some (Value.int z)) (show _ = Fp ax from by simp only [Fp, if_neg hc1_2, if_neg hc8_5, if_neg hc16_8, if_pos hc24_11]; try rfl), N0, rfl⟩
        · have P13 : Wy p.tables e below (s₁.setTop (entryFrame m #[(.int ax)] 1)) (s₁.setTop (mkF m 34 #[.val (.int ax)] [(.int (10000 : Int32))])) := fun t k => P10 t (by
            show Steps p.tables e below (s₁.setTop (mkF m 24 #[.val (.int ax)] [(.int (3 : Int32)), (.int ax)])) _
            refine XS.icmpYes X0.here hx rfl (pc0 := 24) (pc' := 31) rfl (hb hby d6_24) rfl (feq hc24_11).2 (by decide) (by decide) ?_
            show Steps p.tables e below (s₁.setTop (mkF m 31 #[.val (.int ax)] [])) _
            refine XS.sipush X0.here hx rfl (hb hby d6_31) ?_
            exact k)
          obtain ⟨fs, hr, hrun, hended, hW, hsame⟩ := X0.leave (v := some (.int (10000 : Int32))) (fun h => by rw [Bd.returns] at h; cases h)
          refine ⟨_, _, P13 _ ?_, hrun, hended, _, _, rfl, ?_, ⟨_, rfl⟩, hW, hsame.mono (by decide) (by decide)⟩
          · show Steps p.tables e below (s₁.setTop (mkF m 34 #[.val (.int ax)] [(.int (10000 : Int32))])) _
            exact retI X0 hx Bd.returns (hb hby d6_34) hr
          · show Q6 Z ax h0 n0 _ s₁.heap _
            rw [e0]
            exact ⟨congrArg (fun z => some (Value.int z)) (show _ = Fp ax from by simp only [Fp, if_neg hc1_2, if_neg hc8_5, if_neg hc16_8, if_neg hc24_11]; try rfl), N0, rfl⟩
def own_bad (vs : List Int32) (i f t : Int32) : Int32 := if i < f then (0 : Int32) else (if i < t then (if (Fd (vs.getD i.toNatClampNeg 0)) = (0 : Int32) then (1 : Int32) else (0 : Int32)) else (0 : Int32))
def own_term (vs : List Int32) (i f t : Int32) : Int32 := if i < f then (0 : Int32) else (if i < t then (((vs.getD i.toNatClampNeg 0) - (48 : Int32)) * (Fp ((t - (1 : Int32)) - i))) else (0 : Int32))
def own_D (vs : List Int32) : Nat → Nat → Int32 → Int32
  | 0, _, ac => ac
  | k + 1, i, ac => if vs.getD i 0 < (48 : Int32) then -1 else (if (57 : Int32) < vs.getD i 0 then -1 else own_D vs k (i + 1) (((ac * (10 : Int32)) + vs.getD i 0) - (48 : Int32)))
def own_E (vs : List Int32) (f t : Int32) : Int32 := (if (own_bad vs (0 : Int32) f t) = (0 : Int32) then (if (own_bad vs (1 : Int32) f t) = (0 : Int32) then (if (own_bad vs (2 : Int32) f t) = (0 : Int32) then (if (own_bad vs (3 : Int32) f t) = (0 : Int32) then (if (own_bad vs (4 : Int32) f t) = (0 : Int32) then (((((own_term vs (0 : Int32) f t) + (own_term vs (1 : Int32) f t)) + (own_term vs (2 : Int32) f t)) + (own_term vs (3 : Int32) f t)) + (own_term vs (4 : Int32) f t)) else (-1 : Int32)) else (-1 : Int32)) else (-1 : Int32)) else (-1 : Int32)) else (-1 : Int32))

theorem d2_0 : decode method_5_code 0 = .ok (.iload_n 1, 1) := by decide +kernel
theorem d2_1 : decode method_5_code 1 = .ok (.iload_n 2, 1) := by decide +kernel
theorem d2_2 : decode method_5_code 2 = .ok (.if_icmp .lt 21, 3) := by decide +kernel
theorem d2_5 : decode method_5_code 5 = .ok (.iload_n 1, 1) := by decide +kernel
theorem d2_6 : decode method_5_code 6 = .ok (.iload_n 3, 1) := by decide +kernel
theorem d2_7 : decode method_5_code 7 = .ok (.if_icmp .ge 16, 3) := by decide +kernel
theorem d2_10 : decode method_5_code 10 = .ok (.aload_n 0, 1) := by decide +kernel
theorem d2_11 : decode method_5_code 11 = .ok (.iload_n 1, 1) := by decide +kernel
theorem d2_12 : decode method_5_code 12 = .ok (.baload, 1) := by decide +kernel
theorem d2_13 : decode method_5_code 13 = .ok (.invokestatic 27, 3) := by decide +kernel
theorem d2_16 : decode method_5_code 16 = .ok (.ifCond .ne 7, 3) := by decide +kernel
theorem d2_19 : decode method_5_code 19 = .ok (.iconst 1, 1) := by decide +kernel
theorem d2_20 : decode method_5_code 20 = .ok (.goto 4, 3) := by decide +kernel
theorem d2_23 : decode method_5_code 23 = .ok (.iconst 0, 1) := by decide +kernel
theorem d2_24 : decode method_5_code 24 = .ok (.ireturn, 1) := by decide +kernel
theorem pd_lBrZ : parseMethodDescriptor "(B)Z" = some ⟨[.byte], some .boolean⟩ := by decide +kernel
theorem ef_rm2 (m : MethodId) (ad : Addr) (ix : Int32) (fx : Int32) (tx : Int32)  : entryFrame m #[(.ref ad), (.int ix), (.int fx), (.int tx)] 4 = (mkF m 0 #[.val (.ref ad), .val (.int ix), .val (.int fx), .val (.int tx)] []) := by first | (simp [entryFrame, mkF, argsToLocals, Value.category]; done) | rfl
def Q2 (Z : State) (ad : Addr) (ix fx tx : Int32) (vs : List Int32) (h0 : Heap) (n0 : Nat) (v : Option Value) (h : Heap) (L : List Loc) : Prop := v = some (.int (own_bad vs ix fx tx)) ∧ Fr n0 L ∧ h = h0
set_option maxRecDepth 65536 in
set_option maxHeartbeats 40000000 in
theorem rm2 (l : Launch) (Z : State) (a0 : Array Value) (hw : ∀ d ∈ tables_1, d.before a0 Z = true) (ws : List Jvm.Cond) (ad : Addr) (ix fx tx : Int32) (vs : List Int32) (h0 : Heap) (n0 : Nat) (Z0 : n0 ≤ h0.size) (B : own_By Z h0 ad vs) (hi0 : 0 ≤ ix.toInt) (hi1 : ix.toInt < vs.length) :
    MetFree l (⟨"com/example/zbirka/zbirka/Iso2709ReaderDigitsPinLaw", "bad", "([BIII)Z"⟩ : MethodName) (head1 (Jvm.Cond.code (⟨"com/example/zbirka/zbirka/Iso2709ReaderDigitsPinLaw", "bad", "([BIII)Z"⟩ : MethodName) method_5_code 4 (some .boolean) :: ws) ({ frames := 1, cells := 0, slots := 0, locals := 12 } : Room)) (fun a U => a = #[(.ref ad), (.int ix), (.int fx), (.int tx)] ∧ Z.Warmed39 U.vm ∧ U.heap = h0) (fun _ _ _ _ _ => True) (fun _ U o U' => ∃ v L, o = .returned v ∧ Q2 Z ad ix fx tx vs h0 n0 v U'.heap L ∧ FrameEnd U o U' L ({ frames := 1, cells := 0, slots := 0, locals := 12 } : Room).cells ({ frames := 1, cells := 0, slots := 0, locals := 12 } : Room).slots) := by
  refine MetFree.of_bodySF (plainFor_of_name pn_com_example_zbirka_zbirka_Iso2709ReaderDigitsPinLaw) hisR ?_
  intro p e s m args below meth c s₁ Bd hml0 hP hK
  obtain ⟨rfl, hZ, hh⟩ := hP
  have hx := Bd.exec
  have hby := Bd.bytes
  have hml : c.maxLocals = 4 := hml0
  have hown : s.vm.findClass "com/example/zbirka/zbirka/Iso2709ReaderDigitsPinLaw" = some m.cls := by have q := findClass_of_methodNamed Bd.named; exact q
  have hnm := (name_of_methodNamed Bd.named Bd.method).1
  have X0 : Stand p l e ({ frames := 1, cells := 0, slots := 0, locals := 12 } : Room) s m #[(.ref ad), (.int ix), (.int fx), (.int tx)] below meth c s₁ [] 0 0 := Stand.of_body Bd
  have e0 : s₁.heap = h0 := by rw [← hh, Bd.state]; rfl
  have N0 := Fr.nil n0
  have P0 : Wy p.tables e below (s₁.setTop (entryFrame m #[(.ref ad), (.int ix), (.int fx), (.int tx)] 4)) (s₁.setTop (mkF m 0 #[.val (.ref ad), .val (.int ix), .val (.int fx), .val (.int tx)] [])) := fun t k => castTop (ef_rm2 m ad ix fx tx) k
  obtain ⟨cl, Ar, Sz, Ha⟩ := B
  have ha := own_at (j := ix) Sz Ha hi0 hi1
  have P1 : Wy p.tables e below (s₁.setTop (entryFrame m #[(.ref ad), (.int ix), (.int fx), (.int tx)] 4)) (s₁.setTop (mkF m 2 #[.val (.ref ad), .val (.int ix), .val (.int fx), .val (.int tx)] [(.int fx), (.int ix)])) := fun t k => P0 t (by
    show Steps p.tables e below (s₁.setTop (mkF m 0 #[.val (.ref ad), .val (.int ix), .val (.int fx), .val (.int tx)] [])) _
    refine XS.iloadN X0.here hx rfl (hb hby d2_0) rfl  ?_
    show Steps p.tables e below (s₁.setTop (mkF m 1 #[.val (.ref ad), .val (.int ix), .val (.int fx), .val (.int tx)] [(.int ix)])) _
    refine XS.iloadN X0.here hx rfl (hb hby d2_1) rfl  ?_
    exact k)
  by_cases hc2_2 : ix < fx
  · have P3 : Wy p.tables e below (s₁.setTop (entryFrame m #[(.ref ad), (.int ix), (.int fx), (.int tx)] 4)) (s₁.setTop (mkF m 24 #[.val (.ref ad), .val (.int ix), .val (.int fx), .val (.int tx)] [(.int (0 : Int32))])) := fun t k => P1 t (by
      show Steps p.tables e below (s₁.setTop (mkF m 2 #[.val (.ref ad), .val (.int ix), .val (.int fx), .val (.int tx)] [(.int fx), (.int ix)])) _
      refine XS.icmpYes X0.here hx rfl (pc0 := 2) (pc' := 23) rfl (hb hby d2_2) rfl (tlt hc2_2).1 (by decide) (by decide) ?_
      show Steps p.tables e below (s₁.setTop (mkF m 23 #[.val (.ref ad), .val (.int ix), .val (.int fx), .val (.int tx)] [])) _
      refine XS.iconst X0.here hx rfl (hb hby d2_23) ?_
      exact k)
    obtain ⟨fs, hr, hrun, hended, hW, hsame⟩ := X0.leave (v := some (.int (nar .boolean (0 : Int32)))) (fun h => by rw [Bd.returns] at h; cases h)
    refine ⟨_, _, P3 _ ?_, hrun, hended, _, _, rfl, ?_, ⟨_, rfl⟩, hW, hsame.mono (by decide) (by decide)⟩
    · show Steps p.tables e below (s₁.setTop (mkF m 24 #[.val (.ref ad), .val (.int ix), .val (.int fx), .val (.int tx)] [(.int (0 : Int32))])) _
      exact retN X0 hx (t := .boolean) Bd.returns (by simp) (hb hby d2_24) hr
    · show Q2 Z ad ix fx tx vs h0 n0 _ s₁.heap _
      rw [e0]
      exact ⟨congrArg (fun z => some (Value.int z)) (show _ = own_bad vs ix fx tx from by simp only [own_bad, if_pos hc2_2]; try rfl), N0, rfl⟩
  · have P4 : Wy p.tables e below (s₁.setTop (entryFrame m #[(.ref ad), (.int ix), (.int fx), (.int tx)] 4)) (s₁.setTop (mkF m 7 #[.val (.ref ad), .val (.int ix), .val (.int fx), .val (.int tx)] [(.int tx), (.int ix)])) := fun t k => P1 t (by
      show Steps p.tables e below (s₁.setTop (mkF m 2 #[.val (.ref ad), .val (.int ix), .val (.int fx), .val (.int tx)] [(.int fx), (.int ix)])) _
      refine XS.icmpNo X0.here hx rfl (hb hby d2_2) rfl (flt hc2_2).1 ?_
      show Steps p.tables e below (s₁.setTop (mkF m 5 #[.val (.ref ad), .val (.int ix), .val (.int fx), .val (.int tx)] [])) _
      refine XS.iloadN X0.here hx rfl (hb hby d2_5) rfl  ?_
      show Steps p.tables e below (s₁.setTop (mkF m 6 #[.val (.ref ad), .val (.int ix), .val (.int fx), .val (.int tx)] [(.int ix)])) _
      refine XS.iloadN X0.here hx rfl (hb hby d2_6) rfl  ?_
      exact k)
    by_cases hc7_5 : ix < tx
    · have P6 : Wy p.tables e below (s₁.setTop (entryFrame m #[(.ref ad), (.int ix), (.int fx), (.int tx)] 4)) (s₁.setTop (mkF m 12 #[.val (.ref ad), .val (.int ix), .val (.int fx), .val (.int tx)] [(.int ix), (.ref ad)])) := fun t k => P4 t (by
        show Steps p.tables e below (s₁.setTop (mkF m 7 #[.val (.ref ad), .val (.int ix), .val (.int fx), .val (.int tx)] [(.int tx), (.int ix)])) _
        refine XS.icmpNo X0.here hx rfl (hb hby d2_7) rfl (tlt hc7_5).2.1 ?_
        show Steps p.tables e below (s₁.setTop (mkF m 10 #[.val (.ref ad), .val (.int ix), .val (.int fx), .val (.int tx)] [])) _
        refine XS.aloadN X0.here hx rfl (hb hby d2_10) rfl rfl  ?_
        show Steps p.tables e below (s₁.setTop (mkF m 11 #[.val (.ref ad), .val (.int ix), .val (.int fx), .val (.int tx)] [(.ref ad)])) _
        refine XS.iloadN X0.here hx rfl (hb hby d2_11) rfl  ?_
        exact k)
      have P7 : Wy p.tables e below (s₁.setTop (entryFrame m #[(.ref ad), (.int ix), (.int fx), (.int tx)] 4)) (s₁.setTop (mkF m 13 #[.val (.ref ad), .val (.int ix), .val (.int fx), .val (.int tx)] [(.int (vs.getD ix.toNatClampNeg 0))])) := fun t k => P6 t (X0.baloadBytes hx (j := ix) (v := (.int (vs.getD ix.toNatClampNeg 0))) (by rw [e0]; exact Ar.1) (State.isArrayOf_alike hZ.alike Ar.2.1) Ar.2.2 ha.1 ha.2 (g := (mkF m 12 #[.val (.ref ad), .val (.int ix), .val (.int fx), .val (.int tx)] [(.int ix), (.ref ad)])) rfl rfl (hb hby d2_12) _ k)
      obtain ⟨_, _, ⟨T8, L8, k8, n8⟩, -, X8, ⟨Lc8, hQ8, l8, y8, z8⟩, st8⟩ := Jvm.LawKit.callS X0 hx (y := (⟨"com/example/zbirka/zbirka/Iso2709ReaderDigitsPinLaw", "isDigit", "(B)Z"⟩ : MethodName)) hown (mvT hZ (hw _ (List.mem_of_getElem? (i := 15) rfl))) (mvT hZ (hw _ (List.mem_of_getElem? (i := 16) rfl))) (mvT hZ (hw _ (List.mem_of_getElem? (i := 3) rfl))) (mvT hZ (hw _ (List.mem_of_getElem? (i := 17) rfl))) (by decide) (backOf (W := 0) (rm5 l Z a0 hw [] (vs.getD ix.toNatClampNeg 0) h0 n0 Z0 ) hZ (hw _ (List.mem_of_getElem? (i := 17) rfl)) (hw _ (List.mem_of_getElem? (i := 3) rfl)) (by decide) (by decide)) (g := (mkF m 13 #[.val (.ref ad), .val (.int ix), .val (.int fx), .val (.int tx)] [(.int (vs.getD ix.toNatClampNeg 0))])) rfl (by rw [hml]; rfl) (argsL := [(.int (vs.getD ix.toNatClampNeg 0))]) (rest := []) (lenOf pd_lBrZ rfl) rfl (by show 2 * 0 + _ ≤ _; exact Nat.le_of_eq rfl) (hb hby d2_13) (fun _ _ => ⟨rfl, e0, (by decide : 0 + 0 ≤ _), (by decide : 0 + 0 ≤ _)⟩)
      dsimp only [Pt.U, Pt.locs, Pt.cells, Pt.slots] at X8 l8 y8 z8 st8 hQ8
      subst l8 y8 z8
      obtain ⟨rfl, N8q, e8⟩ := hQ8
      have N8 := Fr.app N0 N8q
      have P9 : Wy p.tables e below (s₁.setTop (entryFrame m #[(.ref ad), (.int ix), (.int fx), (.int tx)] 4)) (T8.setTop (mkF m 16 #[.val (.ref ad), .val (.int ix), .val (.int fx), .val (.int tx)] [(.int (Fd (vs.getD ix.toNatClampNeg 0)))])) := fun t k => P7 t (st8 _ k)
      by_cases hc16_10 : (Fd (vs.getD ix.toNatClampNeg 0)) = (0 : Int32)
      · have P11 : Wy p.tables e below (s₁.setTop (entryFrame m #[(.ref ad), (.int ix), (.int fx), (.int tx)] 4)) (T8.setTop (mkF m 24 #[.val (.ref ad), .val (.int ix), .val (.int fx), .val (.int tx)] [(.int (1 : Int32))])) := fun t k => P9 t (by
          show Steps p.tables e below (T8.setTop (mkF m 16 #[.val (.ref ad), .val (.int ix), .val (.int fx), .val (.int tx)] [(.int (Fd (vs.getD ix.toNatClampNeg 0)))])) _
          refine XS.ifNo X8.here hx rfl (hb hby d2_16) rfl ((if0 _ _).trans (teq hc16_10).2) ?_
          show Steps p.tables e below (T8.setTop (mkF m 19 #[.val (.ref ad), .val (.int ix), .val (.int fx), .val (.int tx)] [])) _
          refine XS.iconst X8.here hx rfl (hb hby d2_19) ?_
          show Steps p.tables e below (T8.setTop (mkF m 20 #[.val (.ref ad), .val (.int ix), .val (.int fx), .val (.int tx)] [(.int (1 : Int32))])) _
          refine XS.goto X8.here hx rfl (pc0 := 20) (pc' := 24) rfl (hb hby d2_20) (by decide) (by decide) ?_
          exact k)
        obtain ⟨fs, hr, hrun, hended, hW, hsame⟩ := X8.leave (v := some (.int (nar .boolean (1 : Int32)))) (fun h => by rw [Bd.returns] at h; cases h)
        refine ⟨_, _, P11 _ ?_, hrun, hended, _, _, rfl, ?_, ⟨_, rfl⟩, hW, hsame.mono (by decide) (by decide)⟩
        · show Steps p.tables e below (T8.setTop (mkF m 24 #[.val (.ref ad), .val (.int ix), .val (.int fx), .val (.int tx)] [(.int (1 : Int32))])) _
          exact retN X8 hx (t := .boolean) Bd.returns (by simp) (hb hby d2_24) hr
        · show Q2 Z ad ix fx tx vs h0 n0 _ T8.heap _
          rw [e8]
          exact ⟨congrArg (fun z => some (Value.int z)) (show _ = own_bad vs ix fx tx from by simp only [own_bad, if_neg hc2_2, if_pos hc7_5, if_pos hc16_10]; try rfl), N8, rfl⟩
      · have P12 : Wy p.tables e below (s₁.setTop (entryFrame m #[(.ref ad), (.int ix), (.int fx), (.int tx)] 4)) (T8.setTop (mkF m 24 #[.val (.ref ad), .val (.int ix), .val (.int fx), .val (.int tx)] [(.int (0 : Int32))])) := fun t k => P9 t (by
          show Steps p.tables e below (T8.setTop (mkF m 16 #[.val (.ref ad), .val (.int ix), .val (.int fx), .val (.int tx)] [(.int (Fd (vs.getD ix.toNatClampNeg 0)))])) _
          refine XS.ifYes X8.here hx rfl (pc0 := 16) (pc' := 23) rfl (hb hby d2_16) rfl ((if0 _ _).trans (feq hc16_10).2) (by decide) (by decide) ?_
          show Steps p.tables e below (T8.setTop (mkF m 23 #[.val (.ref ad), .val (.int ix), .val (.int fx), .val (.int tx)] [])) _
          refine XS.iconst X8.here hx rfl (hb hby d2_23) ?_
          exact k)
        obtain ⟨fs, hr, hrun, hended, hW, hsame⟩ := X8.leave (v := some (.int (nar .boolean (0 : Int32)))) (fun h => by rw [Bd.returns] at h; cases h)
        refine ⟨_, _, P12 _ ?_, hrun, hended, _, _, rfl, ?_, ⟨_, rfl⟩, hW, hsame.mono (by decide) (by decide)⟩
        · show Steps p.tables e below (T8.setTop (mkF m 24 #[.val (.ref ad), .val (.int ix), .val (.int fx), .val (.int tx)] [(.int (0 : Int32))])) _
          exact retN X8 hx (t := .boolean) Bd.returns (by simp) (hb hby d2_24) hr
        · show Q2 Z ad ix fx tx vs h0 n0 _ T8.heap _
          rw [e8]
          exact ⟨congrArg (fun z => some (Value.int z)) (show _ = own_bad vs ix fx tx from by simp only [own_bad, if_neg hc2_2, if_pos hc7_5, if_neg hc16_10]; try rfl), N8, rfl⟩
    · have P13 : Wy p.tables e below (s₁.setTop (entryFrame m #[(.ref ad), (.int ix), (.int fx), (.int tx)] 4)) (s₁.setTop (mkF m 24 #[.val (.ref ad), .val (.int ix), .val (.int fx), .val (.int tx)] [(.int (0 : Int32))])) := fun t k => P4 t (by
        show Steps p.tables e below (s₁.setTop (mkF m 7 #[.val (.ref ad), .val (.int ix), .val (.int fx), .val (.int tx)] [(.int tx), (.int ix)])) _
        refine XS.icmpYes X0.here hx rfl (pc0 := 7) (pc' := 23) rfl (hb hby d2_7) rfl (flt hc7_5).2.1 (by decide) (by decide) ?_
        show Steps p.tables e below (s₁.setTop (mkF m 23 #[.val (.ref ad), .val (.int ix), .val (.int fx), .val (.int tx)] [])) _
        refine XS.iconst X0.here hx rfl (hb hby d2_23) ?_
        exact k)
      obtain ⟨fs, hr, hrun, hended, hW, hsame⟩ := X0.leave (v := some (.int (nar .boolean (0 : Int32)))) (fun h => by rw [Bd.returns] at h; cases h)
      refine ⟨_, _, P13 _ ?_, hrun, hended, _, _, rfl, ?_, ⟨_, rfl⟩, hW, hsame.mono (by decide) (by decide)⟩
      · show Steps p.tables e below (s₁.setTop (mkF m 24 #[.val (.ref ad), .val (.int ix), .val (.int fx), .val (.int tx)] [(.int (0 : Int32))])) _
        exact retN X0 hx (t := .boolean) Bd.returns (by simp) (hb hby d2_24) hr
      · show Q2 Z ad ix fx tx vs h0 n0 _ s₁.heap _
        rw [e0]
        exact ⟨congrArg (fun z => some (Value.int z)) (show _ = own_bad vs ix fx tx from by simp only [own_bad, if_neg hc2_2, if_neg hc7_5]; try rfl), N0, rfl⟩
theorem d3_0 : decode method_7_code 0 = .ok (.iload_n 1, 1) := by decide +kernel
theorem d3_1 : decode method_7_code 1 = .ok (.iload_n 2, 1) := by decide +kernel
theorem d3_2 : decode method_7_code 2 = .ok (.if_icmp .lt 8, 3) := by decide +kernel
theorem d3_5 : decode method_7_code 5 = .ok (.iload_n 1, 1) := by decide +kernel
theorem d3_6 : decode method_7_code 6 = .ok (.iload_n 3, 1) := by decide +kernel
theorem d3_7 : decode method_7_code 7 = .ok (.if_icmp .lt 5, 3) := by decide +kernel
theorem d3_10 : decode method_7_code 10 = .ok (.iconst 0, 1) := by decide +kernel
theorem d3_11 : decode method_7_code 11 = .ok (.ireturn, 1) := by decide +kernel
theorem d3_12 : decode method_7_code 12 = .ok (.aload_n 0, 1) := by decide +kernel
theorem d3_13 : decode method_7_code 13 = .ok (.iload_n 1, 1) := by decide +kernel
theorem d3_14 : decode method_7_code 14 = .ok (.baload, 1) := by decide +kernel
theorem d3_15 : decode method_7_code 15 = .ok (.bipush 48, 2) := by decide +kernel
theorem d3_17 : decode method_7_code 17 = .ok (.isub, 1) := by decide +kernel
theorem d3_18 : decode method_7_code 18 = .ok (.iload_n 3, 1) := by decide +kernel
theorem d3_19 : decode method_7_code 19 = .ok (.iconst 1, 1) := by decide +kernel
theorem d3_20 : decode method_7_code 20 = .ok (.isub, 1) := by decide +kernel
theorem d3_21 : decode method_7_code 21 = .ok (.iload_n 1, 1) := by decide +kernel
theorem d3_22 : decode method_7_code 22 = .ok (.isub, 1) := by decide +kernel
theorem d3_23 : decode method_7_code 23 = .ok (.invokestatic 31, 3) := by decide +kernel
theorem d3_26 : decode method_7_code 26 = .ok (.imul, 1) := by decide +kernel
theorem d3_27 : decode method_7_code 27 = .ok (.ireturn, 1) := by decide +kernel
theorem pd_lIrI : parseMethodDescriptor "(I)I" = some ⟨[.int], some .int⟩ := by decide +kernel
theorem ef_rm3 (m : MethodId) (ad : Addr) (ix : Int32) (fx : Int32) (tx : Int32)  : entryFrame m #[(.ref ad), (.int ix), (.int fx), (.int tx)] 4 = (mkF m 0 #[.val (.ref ad), .val (.int ix), .val (.int fx), .val (.int tx)] []) := by first | (simp [entryFrame, mkF, argsToLocals, Value.category]; done) | rfl
def Q3 (Z : State) (ad : Addr) (ix fx tx : Int32) (vs : List Int32) (h0 : Heap) (n0 : Nat) (v : Option Value) (h : Heap) (L : List Loc) : Prop := v = some (.int (own_term vs ix fx tx)) ∧ Fr n0 L ∧ h = h0
set_option maxRecDepth 65536 in
set_option maxHeartbeats 40000000 in
theorem rm3 (l : Launch) (Z : State) (a0 : Array Value) (hw : ∀ d ∈ tables_1, d.before a0 Z = true) (ws : List Jvm.Cond) (ad : Addr) (ix fx tx : Int32) (vs : List Int32) (h0 : Heap) (n0 : Nat) (Z0 : n0 ≤ h0.size) (B : own_By Z h0 ad vs) (hi0 : 0 ≤ ix.toInt) (hi1 : ix.toInt < vs.length) :
    MetFree l (⟨"com/example/zbirka/zbirka/Iso2709ReaderDigitsPinLaw", "term", "([BIII)I"⟩ : MethodName) (head1 (Jvm.Cond.code (⟨"com/example/zbirka/zbirka/Iso2709ReaderDigitsPinLaw", "term", "([BIII)I"⟩ : MethodName) method_7_code 4 (some .int) :: ws) ({ frames := 1, cells := 0, slots := 0, locals := 13 } : Room)) (fun a U => a = #[(.ref ad), (.int ix), (.int fx), (.int tx)] ∧ Z.Warmed39 U.vm ∧ U.heap = h0) (fun _ _ _ _ _ => True) (fun _ U o U' => ∃ v L, o = .returned v ∧ Q3 Z ad ix fx tx vs h0 n0 v U'.heap L ∧ FrameEnd U o U' L ({ frames := 1, cells := 0, slots := 0, locals := 13 } : Room).cells ({ frames := 1, cells := 0, slots := 0, locals := 13 } : Room).slots) := by
  refine MetFree.of_bodySF (plainFor_of_name pn_com_example_zbirka_zbirka_Iso2709ReaderDigitsPinLaw) hisR ?_
  intro p e s m args below meth c s₁ Bd hml0 hP hK
  obtain ⟨rfl, hZ, hh⟩ := hP
  have hx := Bd.exec
  have hby := Bd.bytes
  have hml : c.maxLocals = 4 := hml0
  have hown : s.vm.findClass "com/example/zbirka/zbirka/Iso2709ReaderDigitsPinLaw" = some m.cls := by have q := findClass_of_methodNamed Bd.named; exact q
  have hnm := (name_of_methodNamed Bd.named Bd.method).1
  have X0 : Stand p l e ({ frames := 1, cells := 0, slots := 0, locals := 13 } : Room) s m #[(.ref ad), (.int ix), (.int fx), (.int tx)] below meth c s₁ [] 0 0 := Stand.of_body Bd
  have e0 : s₁.heap = h0 := by rw [← hh, Bd.state]; rfl
  have N0 := Fr.nil n0
  have P0 : Wy p.tables e below (s₁.setTop (entryFrame m #[(.ref ad), (.int ix), (.int fx), (.int tx)] 4)) (s₁.setTop (mkF m 0 #[.val (.ref ad), .val (.int ix), .val (.int fx), .val (.int tx)] [])) := fun t k => castTop (ef_rm3 m ad ix fx tx) k
  obtain ⟨cl, Ar, Sz, Ha⟩ := B
  have ha := own_at (j := ix) Sz Ha hi0 hi1
  have P1 : Wy p.tables e below (s₁.setTop (entryFrame m #[(.ref ad), (.int ix), (.int fx), (.int tx)] 4)) (s₁.setTop (mkF m 2 #[.val (.ref ad), .val (.int ix), .val (.int fx), .val (.int tx)] [(.int fx), (.int ix)])) := fun t k => P0 t (by
    show Steps p.tables e below (s₁.setTop (mkF m 0 #[.val (.ref ad), .val (.int ix), .val (.int fx), .val (.int tx)] [])) _
    refine XS.iloadN X0.here hx rfl (hb hby d3_0) rfl  ?_
    show Steps p.tables e below (s₁.setTop (mkF m 1 #[.val (.ref ad), .val (.int ix), .val (.int fx), .val (.int tx)] [(.int ix)])) _
    refine XS.iloadN X0.here hx rfl (hb hby d3_1) rfl  ?_
    exact k)
  by_cases hc2_2 : ix < fx
  · have P3 : Wy p.tables e below (s₁.setTop (entryFrame m #[(.ref ad), (.int ix), (.int fx), (.int tx)] 4)) (s₁.setTop (mkF m 11 #[.val (.ref ad), .val (.int ix), .val (.int fx), .val (.int tx)] [(.int (0 : Int32))])) := fun t k => P1 t (by
      show Steps p.tables e below (s₁.setTop (mkF m 2 #[.val (.ref ad), .val (.int ix), .val (.int fx), .val (.int tx)] [(.int fx), (.int ix)])) _
      refine XS.icmpYes X0.here hx rfl (pc0 := 2) (pc' := 10) rfl (hb hby d3_2) rfl (tlt hc2_2).1 (by decide) (by decide) ?_
      show Steps p.tables e below (s₁.setTop (mkF m 10 #[.val (.ref ad), .val (.int ix), .val (.int fx), .val (.int tx)] [])) _
      refine XS.iconst X0.here hx rfl (hb hby d3_10) ?_
      exact k)
    obtain ⟨fs, hr, hrun, hended, hW, hsame⟩ := X0.leave (v := some (.int (0 : Int32))) (fun h => by rw [Bd.returns] at h; cases h)
    refine ⟨_, _, P3 _ ?_, hrun, hended, _, _, rfl, ?_, ⟨_, rfl⟩, hW, hsame.mono (by decide) (by decide)⟩
    · show Steps p.tables e below (s₁.setTop (mkF m 11 #[.val (.ref ad), .val (.int ix), .val (.int fx), .val (.int tx)] [(.int (0 : Int32))])) _
      exact retI X0 hx Bd.returns (hb hby d3_11) hr
    · show Q3 Z ad ix fx tx vs h0 n0 _ s₁.heap _
      rw [e0]
      exact ⟨congrArg (fun z => some (Value.int z)) (show _ = own_term vs ix fx tx from by simp only [own_term, if_pos hc2_2]; try rfl), N0, rfl⟩
  · have P4 : Wy p.tables e below (s₁.setTop (entryFrame m #[(.ref ad), (.int ix), (.int fx), (.int tx)] 4)) (s₁.setTop (mkF m 7 #[.val (.ref ad), .val (.int ix), .val (.int fx), .val (.int tx)] [(.int tx), (.int ix)])) := fun t k => P1 t (by
      show Steps p.tables e below (s₁.setTop (mkF m 2 #[.val (.ref ad), .val (.int ix), .val (.int fx), .val (.int tx)] [(.int fx), (.int ix)])) _
      refine XS.icmpNo X0.here hx rfl (hb hby d3_2) rfl (flt hc2_2).1 ?_
      show Steps p.tables e below (s₁.setTop (mkF m 5 #[.val (.ref ad), .val (.int ix), .val (.int fx), .val (.int tx)] [])) _
      refine XS.iloadN X0.here hx rfl (hb hby d3_5) rfl  ?_
      show Steps p.tables e below (s₁.setTop (mkF m 6 #[.val (.ref ad), .val (.int ix), .val (.int fx), .val (.int tx)] [(.int ix)])) _
      refine XS.iloadN X0.here hx rfl (hb hby d3_6) rfl  ?_
      exact k)
    by_cases hc7_5 : ix < tx
    · have P6 : Wy p.tables e below (s₁.setTop (entryFrame m #[(.ref ad), (.int ix), (.int fx), (.int tx)] 4)) (s₁.setTop (mkF m 14 #[.val (.ref ad), .val (.int ix), .val (.int fx), .val (.int tx)] [(.int ix), (.ref ad)])) := fun t k => P4 t (by
        show Steps p.tables e below (s₁.setTop (mkF m 7 #[.val (.ref ad), .val (.int ix), .val (.int fx), .val (.int tx)] [(.int tx), (.int ix)])) _
        refine XS.icmpYes X0.here hx rfl (pc0 := 7) (pc' := 12) rfl (hb hby d3_7) rfl (tlt hc7_5).1 (by decide) (by decide) ?_
        show Steps p.tables e below (s₁.setTop (mkF m 12 #[.val (.ref ad), .val (.int ix), .val (.int fx), .val (.int tx)] [])) _
        refine XS.aloadN X0.here hx rfl (hb hby d3_12) rfl rfl  ?_
        show Steps p.tables e below (s₁.setTop (mkF m 13 #[.val (.ref ad), .val (.int ix), .val (.int fx), .val (.int tx)] [(.ref ad)])) _
        refine XS.iloadN X0.here hx rfl (hb hby d3_13) rfl  ?_
        exact k)
      have P7 : Wy p.tables e below (s₁.setTop (entryFrame m #[(.ref ad), (.int ix), (.int fx), (.int tx)] 4)) (s₁.setTop (mkF m 15 #[.val (.ref ad), .val (.int ix), .val (.int fx), .val (.int tx)] [(.int (vs.getD ix.toNatClampNeg 0))])) := fun t k => P6 t (X0.baloadBytes hx (j := ix) (v := (.int (vs.getD ix.toNatClampNeg 0))) (by rw [e0]; exact Ar.1) (State.isArrayOf_alike hZ.alike Ar.2.1) Ar.2.2 ha.1 ha.2 (g := (mkF m 14 #[.val (.ref ad), .val (.int ix), .val (.int fx), .val (.int tx)] [(.int ix), (.ref ad)])) rfl rfl (hb hby d3_14) _ k)
      have P8 : Wy p.tables e below (s₁.setTop (entryFrame m #[(.ref ad), (.int ix), (.int fx), (.int tx)] 4)) (s₁.setTop (mkF m 23 #[.val (.ref ad), .val (.int ix), .val (.int fx), .val (.int tx)] [(.int ((tx - (1 : Int32)) - ix)), (.int ((vs.getD ix.toNatClampNeg 0) - (48 : Int32)))])) := fun t k => P7 t (by
        show Steps p.tables e below (s₁.setTop (mkF m 15 #[.val (.ref ad), .val (.int ix), .val (.int fx), .val (.int tx)] [(.int (vs.getD ix.toNatClampNeg 0))])) _
        refine XS.bipush X0.here hx rfl (hb hby d3_15) ?_
        show Steps p.tables e below (s₁.setTop (mkF m 17 #[.val (.ref ad), .val (.int ix), .val (.int fx), .val (.int tx)] [(.int (48 : Int32)), (.int (vs.getD ix.toNatClampNeg 0))])) _
        refine XS.isub X0.here hx rfl (hb hby d3_17) rfl ?_
        show Steps p.tables e below (s₁.setTop (mkF m 18 #[.val (.ref ad), .val (.int ix), .val (.int fx), .val (.int tx)] [(.int ((vs.getD ix.toNatClampNeg 0) - (48 : Int32)))])) _
        refine XS.iloadN X0.here hx rfl (hb hby d3_18) rfl  ?_
        show Steps p.tables e below (s₁.setTop (mkF m 19 #[.val (.ref ad), .val (.int ix), .val (.int fx), .val (.int tx)] [(.int tx), (.int ((vs.getD ix.toNatClampNeg 0) - (48 : Int32)))])) _
        refine XS.iconst X0.here hx rfl (hb hby d3_19) ?_
        show Steps p.tables e below (s₁.setTop (mkF m 20 #[.val (.ref ad), .val (.int ix), .val (.int fx), .val (.int tx)] [(.int (1 : Int32)), (.int tx), (.int ((vs.getD ix.toNatClampNeg 0) - (48 : Int32)))])) _
        refine XS.isub X0.here hx rfl (hb hby d3_20) rfl ?_
        show Steps p.tables e below (s₁.setTop (mkF m 21 #[.val (.ref ad), .val (.int ix), .val (.int fx), .val (.int tx)] [(.int (tx - (1 : Int32))), (.int ((vs.getD ix.toNatClampNeg 0) - (48 : Int32)))])) _
        refine XS.iloadN X0.here hx rfl (hb hby d3_21) rfl  ?_
        show Steps p.tables e below (s₁.setTop (mkF m 22 #[.val (.ref ad), .val (.int ix), .val (.int fx), .val (.int tx)] [(.int ix), (.int (tx - (1 : Int32))), (.int ((vs.getD ix.toNatClampNeg 0) - (48 : Int32)))])) _
        refine XS.isub X0.here hx rfl (hb hby d3_22) rfl ?_
        exact k)
      obtain ⟨_, _, ⟨T9, L9, k9, n9⟩, -, X9, ⟨Lc9, hQ9, l9, y9, z9⟩, st9⟩ := Jvm.LawKit.callS X0 hx (y := (⟨"com/example/zbirka/zbirka/Iso2709ReaderDigitsPinLaw", "pow10", "(I)I"⟩ : MethodName)) hown (mvT hZ (hw _ (List.mem_of_getElem? (i := 18) rfl))) (mvT hZ (hw _ (List.mem_of_getElem? (i := 19) rfl))) (mvT hZ (hw _ (List.mem_of_getElem? (i := 3) rfl))) (mvT hZ (hw _ (List.mem_of_getElem? (i := 20) rfl))) (by decide) (backOf (W := 1) (rm6 l Z a0 hw [] ((tx - (1 : Int32)) - ix) h0 n0 Z0 ) hZ (hw _ (List.mem_of_getElem? (i := 20) rfl)) (hw _ (List.mem_of_getElem? (i := 3) rfl)) (by decide) (by decide)) (g := (mkF m 23 #[.val (.ref ad), .val (.int ix), .val (.int fx), .val (.int tx)] [(.int ((tx - (1 : Int32)) - ix)), (.int ((vs.getD ix.toNatClampNeg 0) - (48 : Int32)))])) rfl (by rw [hml]; rfl) (argsL := [(.int ((tx - (1 : Int32)) - ix))]) (rest := [(.int ((vs.getD ix.toNatClampNeg 0) - (48 : Int32)))]) (lenOf pd_lIrI rfl) rfl (by show 2 * 0 + _ ≤ _; exact Nat.le_of_eq rfl) (hb hby d3_23) (fun _ _ => ⟨rfl, e0, (by decide : 0 + 0 ≤ _), (by decide : 0 + 0 ≤ _)⟩)
      dsimp only [Pt.U, Pt.locs, Pt.cells, Pt.slots] at X9 l9 y9 z9 st9 hQ9
      subst l9 y9 z9
      obtain ⟨rfl, N9q, e9⟩ := hQ9
      have N9 := Fr.app N0 N9q
      have P10 : Wy p.tables e below (s₁.setTop (entryFrame m #[(.ref ad), (.int ix), (.int fx), (.int tx)] 4)) (T9.setTop (mkF m 26 #[.val (.ref ad), .val (.int ix), .val (.int fx), .val (.int tx)] [(.int (Fp ((tx - (1 : Int32)) - ix))), (.int ((vs.getD ix.toNatClampNeg 0) - (48 : Int32)))])) := fun t k => P8 t (st9 _ k)
      have P11 : Wy p.tables e below (s₁.setTop (entryFrame m #[(.ref ad), (.int ix), (.int fx), (.int tx)] 4)) (T9.setTop (mkF m 27 #[.val (.ref ad), .val (.int ix), .val (.int fx), .val (.int tx)] [(.int (((vs.getD ix.toNatClampNeg 0) - (48 : Int32)) * (Fp ((tx - (1 : Int32)) - ix))))])) := fun t k => P10 t (by
        show Steps p.tables e below (T9.setTop (mkF m 26 #[.val (.ref ad), .val (.int ix), .val (.int fx), .val (.int tx)] [(.int (Fp ((tx - (1 : Int32)) - ix))), (.int ((vs.getD ix.toNatClampNeg 0) - (48 : Int32)))])) _
        refine XS.imul X9.here hx rfl (hb hby d3_26) rfl ?_
        exact k)
      obtain ⟨fs, hr, hrun, hended, hW, hsame⟩ := X9.leave (v := some (.int (((vs.getD ix.toNatClampNeg 0) - (48 : Int32)) * (Fp ((tx - (1 : Int32)) - ix))))) (fun h => by rw [Bd.returns] at h; cases h)
      refine ⟨_, _, P11 _ ?_, hrun, hended, _, _, rfl, ?_, ⟨_, rfl⟩, hW, hsame.mono (by decide) (by decide)⟩
      · show Steps p.tables e below (T9.setTop (mkF m 27 #[.val (.ref ad), .val (.int ix), .val (.int fx), .val (.int tx)] [(.int (((vs.getD ix.toNatClampNeg 0) - (48 : Int32)) * (Fp ((tx - (1 : Int32)) - ix))))])) _
        exact retI X9 hx Bd.returns (hb hby d3_27) hr
      · show Q3 Z ad ix fx tx vs h0 n0 _ T9.heap _
        rw [e9]
        exact ⟨congrArg (fun z => some (Value.int z)) (show _ = own_term vs ix fx tx from by simp only [own_term, if_neg hc2_2, if_pos hc7_5]; try rfl), N9, rfl⟩
    · have P12 : Wy p.tables e below (s₁.setTop (entryFrame m #[(.ref ad), (.int ix), (.int fx), (.int tx)] 4)) (s₁.setTop (mkF m 11 #[.val (.ref ad), .val (.int ix), .val (.int fx), .val (.int tx)] [(.int (0 : Int32))])) := fun t k => P4 t (by
        show Steps p.tables e below (s₁.setTop (mkF m 7 #[.val (.ref ad), .val (.int ix), .val (.int fx), .val (.int tx)] [(.int tx), (.int ix)])) _
        refine XS.icmpNo X0.here hx rfl (hb hby d3_7) rfl (flt hc7_5).1 ?_
        show Steps p.tables e below (s₁.setTop (mkF m 10 #[.val (.ref ad), .val (.int ix), .val (.int fx), .val (.int tx)] [])) _
        refine XS.iconst X0.here hx rfl (hb hby d3_10) ?_
        exact k)
      obtain ⟨fs, hr, hrun, hended, hW, hsame⟩ := X0.leave (v := some (.int (0 : Int32))) (fun h => by rw [Bd.returns] at h; cases h)
      refine ⟨_, _, P12 _ ?_, hrun, hended, _, _, rfl, ?_, ⟨_, rfl⟩, hW, hsame.mono (by decide) (by decide)⟩
      · show Steps p.tables e below (s₁.setTop (mkF m 11 #[.val (.ref ad), .val (.int ix), .val (.int fx), .val (.int tx)] [(.int (0 : Int32))])) _
        exact retI X0 hx Bd.returns (hb hby d3_11) hr
      · show Q3 Z ad ix fx tx vs h0 n0 _ s₁.heap _
        rw [e0]
        exact ⟨congrArg (fun z => some (Value.int z)) (show _ = own_term vs ix fx tx from by simp only [own_term, if_neg hc2_2, if_neg hc7_5]; try rfl), N0, rfl⟩
theorem d4_5 : decode prog_11_method_13_code 5 = .ok (.iload 4, 2) := by decide +kernel
theorem d4_7 : decode prog_11_method_13_code 7 = .ok (.iload_n 2, 1) := by decide +kernel
theorem d4_8 : decode prog_11_method_13_code 8 = .ok (.if_icmp .ge 42, 3) := by decide +kernel
theorem d4_11 : decode prog_11_method_13_code 11 = .ok (.aload_n 0, 1) := by decide +kernel
theorem d4_12 : decode prog_11_method_13_code 12 = .ok (.iload 4, 2) := by decide +kernel
theorem d4_14 : decode prog_11_method_13_code 14 = .ok (.baload, 1) := by decide +kernel
theorem d4_15 : decode prog_11_method_13_code 15 = .ok (.bipush 48, 2) := by decide +kernel
theorem d4_17 : decode prog_11_method_13_code 17 = .ok (.if_icmp .lt 12, 3) := by decide +kernel
theorem d4_20 : decode prog_11_method_13_code 20 = .ok (.aload_n 0, 1) := by decide +kernel
theorem d4_21 : decode prog_11_method_13_code 21 = .ok (.iload 4, 2) := by decide +kernel
theorem d4_23 : decode prog_11_method_13_code 23 = .ok (.baload, 1) := by decide +kernel
theorem d4_24 : decode prog_11_method_13_code 24 = .ok (.bipush 57, 2) := by decide +kernel
theorem d4_26 : decode prog_11_method_13_code 26 = .ok (.if_icmp .le 5, 3) := by decide +kernel
theorem d4_31 : decode prog_11_method_13_code 31 = .ok (.iload_n 3, 1) := by decide +kernel
theorem d4_32 : decode prog_11_method_13_code 32 = .ok (.bipush 10, 2) := by decide +kernel
theorem d4_34 : decode prog_11_method_13_code 34 = .ok (.imul, 1) := by decide +kernel
theorem d4_35 : decode prog_11_method_13_code 35 = .ok (.aload_n 0, 1) := by decide +kernel
theorem d4_36 : decode prog_11_method_13_code 36 = .ok (.iload 4, 2) := by decide +kernel
theorem d4_38 : decode prog_11_method_13_code 38 = .ok (.baload, 1) := by decide +kernel
theorem d4_39 : decode prog_11_method_13_code 39 = .ok (.iadd, 1) := by decide +kernel
theorem d4_40 : decode prog_11_method_13_code 40 = .ok (.bipush 48, 2) := by decide +kernel
theorem d4_42 : decode prog_11_method_13_code 42 = .ok (.isub, 1) := by decide +kernel
theorem d4_43 : decode prog_11_method_13_code 43 = .ok (.istore_n 3, 1) := by decide +kernel
theorem d4_44 : decode prog_11_method_13_code 44 = .ok (.iinc 4 1, 3) := by decide +kernel
theorem d4_47 : decode prog_11_method_13_code 47 = .ok (.goto (-42), 3) := by decide +kernel
set_option maxRecDepth 65536 in
set_option maxHeartbeats 40000000 in
theorem sg_turn {p : Program} {l : Launch} {e : Env} {R : Room} {s : State} {m : MethodId} {args : Array Value} {below : List Frame} {meth : Method} {c : Code} {T0 : State} {locs : List Loc} {cells slots : Nat} {Z : State} {a0 : Array Value} {h0 : Heap} (ad : Addr) (fx tx ac ii : Int32) (cl : Cell) (ww : Int32) (X0 : Stand p l e R s m args below meth c T0 locs cells slots) (hx : p.tables.exec = Jvm.exec) (hZ : Z.Warmed39 s.vm) (hw : ∀ d ∈ tables_1, d.before a0 Z = true) (hby : c.code = prog_11_method_13_code) (hml : c.maxLocals = 5) (hown : s.vm.findClass "com/example/zbirka/zbirka/Iso2709Reader" = some m.cls) (e0 : T0.heap = h0) (Ar : Arr Z h0 ad cl .byte) (hi : ¬ (ii < 0 ∨ cl.slots.size ≤ ii.toNatClampNeg)) (ha : cl.slots[ii.toNatClampNeg]? = some (.int ww)) (hc : ii < tx) (h1 : ¬ (ww < (48 : Int32))) (h2 : ¬ ((57 : Int32) < ww)) :
    Wy p.tables e below (T0.setTop (mkF m 5 #[.val (.ref ad), .val (.int fx), .val (.int tx), .val (.int ac), .val (.int ii)] [])) (T0.setTop (mkF m 5 #[.val (.ref ad), .val (.int fx), .val (.int tx), .val (.int (((ac * (10 : Int32)) + ww) - (48 : Int32))), .val (.int (ii + (1 : Int32)))] [])) := by
  have P0 : Wy p.tables e below (T0.setTop (mkF m 5 #[.val (.ref ad), .val (.int fx), .val (.int tx), .val (.int ac), .val (.int ii)] [])) (T0.setTop (mkF m 5 #[.val (.ref ad), .val (.int fx), .val (.int tx), .val (.int ac), .val (.int ii)] [])) := fun t k => k
  have P1 : Wy p.tables e below (T0.setTop (mkF m 5 #[.val (.ref ad), .val (.int fx), .val (.int tx), .val (.int ac), .val (.int ii)] [])) (T0.setTop (mkF m 14 #[.val (.ref ad), .val (.int fx), .val (.int tx), .val (.int ac), .val (.int ii)] [(.int ii), (.ref ad)])) := fun t k => P0 t (by
    show Steps p.tables e below (T0.setTop (mkF m 5 #[.val (.ref ad), .val (.int fx), .val (.int tx), .val (.int ac), .val (.int ii)] [])) _
    refine XS.iload X0.here hx rfl (hb hby d4_5) rfl  ?_
    show Steps p.tables e below (T0.setTop (mkF m 7 #[.val (.ref ad), .val (.int fx), .val (.int tx), .val (.int ac), .val (.int ii)] [(.int ii)])) _
    refine XS.iloadN X0.here hx rfl (hb hby d4_7) rfl  ?_
    show Steps p.tables e below (T0.setTop (mkF m 8 #[.val (.ref ad), .val (.int fx), .val (.int tx), .val (.int ac), .val (.int ii)] [(.int tx), (.int ii)])) _
    refine XS.icmpNo X0.here hx rfl (hb hby d4_8) rfl (tlt (hc : ii < tx)).2.1 ?_
    show Steps p.tables e below (T0.setTop (mkF m 11 #[.val (.ref ad), .val (.int fx), .val (.int tx), .val (.int ac), .val (.int ii)] [])) _
    refine XS.aloadN X0.here hx rfl (hb hby d4_11) rfl rfl  ?_
    show Steps p.tables e below (T0.setTop (mkF m 12 #[.val (.ref ad), .val (.int fx), .val (.int tx), .val (.int ac), .val (.int ii)] [(.ref ad)])) _
    refine XS.iload X0.here hx rfl (hb hby d4_12) rfl  ?_
    exact k)
  have P2 : Wy p.tables e below (T0.setTop (mkF m 5 #[.val (.ref ad), .val (.int fx), .val (.int tx), .val (.int ac), .val (.int ii)] [])) (T0.setTop (mkF m 15 #[.val (.ref ad), .val (.int fx), .val (.int tx), .val (.int ac), .val (.int ii)] [(.int ww)])) := fun t k => P1 t (X0.baloadBytes hx (j := ii) (v := (.int ww)) (by rw [e0]; exact Ar.1) (State.isArrayOf_alike hZ.alike Ar.2.1) Ar.2.2 hi ha (g := (mkF m 14 #[.val (.ref ad), .val (.int fx), .val (.int tx), .val (.int ac), .val (.int ii)] [(.int ii), (.ref ad)])) rfl rfl (hb hby d4_14) _ k)
  have P3 : Wy p.tables e below (T0.setTop (mkF m 5 #[.val (.ref ad), .val (.int fx), .val (.int tx), .val (.int ac), .val (.int ii)] [])) (T0.setTop (mkF m 23 #[.val (.ref ad), .val (.int fx), .val (.int tx), .val (.int ac), .val (.int ii)] [(.int ii), (.ref ad)])) := fun t k => P2 t (by
    show Steps p.tables e below (T0.setTop (mkF m 15 #[.val (.ref ad), .val (.int fx), .val (.int tx), .val (.int ac), .val (.int ii)] [(.int ww)])) _
    refine XS.bipush X0.here hx rfl (hb hby d4_15) ?_
    show Steps p.tables e below (T0.setTop (mkF m 17 #[.val (.ref ad), .val (.int fx), .val (.int tx), .val (.int ac), .val (.int ii)] [(.int (48 : Int32)), (.int ww)])) _
    refine XS.icmpNo X0.here hx rfl (hb hby d4_17) rfl (flt (h1 : ¬ (ww < (48 : Int32)))).1 ?_
    show Steps p.tables e below (T0.setTop (mkF m 20 #[.val (.ref ad), .val (.int fx), .val (.int tx), .val (.int ac), .val (.int ii)] [])) _
    refine XS.aloadN X0.here hx rfl (hb hby d4_20) rfl rfl  ?_
    show Steps p.tables e below (T0.setTop (mkF m 21 #[.val (.ref ad), .val (.int fx), .val (.int tx), .val (.int ac), .val (.int ii)] [(.ref ad)])) _
    refine XS.iload X0.here hx rfl (hb hby d4_21) rfl  ?_
    exact k)
  have P4 : Wy p.tables e below (T0.setTop (mkF m 5 #[.val (.ref ad), .val (.int fx), .val (.int tx), .val (.int ac), .val (.int ii)] [])) (T0.setTop (mkF m 24 #[.val (.ref ad), .val (.int fx), .val (.int tx), .val (.int ac), .val (.int ii)] [(.int ww)])) := fun t k => P3 t (X0.baloadBytes hx (j := ii) (v := (.int ww)) (by rw [e0]; exact Ar.1) (State.isArrayOf_alike hZ.alike Ar.2.1) Ar.2.2 hi ha (g := (mkF m 23 #[.val (.ref ad), .val (.int fx), .val (.int tx), .val (.int ac), .val (.int ii)] [(.int ii), (.ref ad)])) rfl rfl (hb hby d4_23) _ k)
  have P5 : Wy p.tables e below (T0.setTop (mkF m 5 #[.val (.ref ad), .val (.int fx), .val (.int tx), .val (.int ac), .val (.int ii)] [])) (T0.setTop (mkF m 38 #[.val (.ref ad), .val (.int fx), .val (.int tx), .val (.int ac), .val (.int ii)] [(.int ii), (.ref ad), (.int (ac * (10 : Int32)))])) := fun t k => P4 t (by
    show Steps p.tables e below (T0.setTop (mkF m 24 #[.val (.ref ad), .val (.int fx), .val (.int tx), .val (.int ac), .val (.int ii)] [(.int ww)])) _
    refine XS.bipush X0.here hx rfl (hb hby d4_24) ?_
    show Steps p.tables e below (T0.setTop (mkF m 26 #[.val (.ref ad), .val (.int fx), .val (.int tx), .val (.int ac), .val (.int ii)] [(.int (57 : Int32)), (.int ww)])) _
    refine XS.icmpYes X0.here hx rfl (pc0 := 26) (pc' := 31) rfl (hb hby d4_26) rfl (flt (h2 : ¬ ((57 : Int32) < ww))).2.2.2 (by decide) (by decide) ?_
    show Steps p.tables e below (T0.setTop (mkF m 31 #[.val (.ref ad), .val (.int fx), .val (.int tx), .val (.int ac), .val (.int ii)] [])) _
    refine XS.iloadN X0.here hx rfl (hb hby d4_31) rfl  ?_
    show Steps p.tables e below (T0.setTop (mkF m 32 #[.val (.ref ad), .val (.int fx), .val (.int tx), .val (.int ac), .val (.int ii)] [(.int ac)])) _
    refine XS.bipush X0.here hx rfl (hb hby d4_32) ?_
    show Steps p.tables e below (T0.setTop (mkF m 34 #[.val (.ref ad), .val (.int fx), .val (.int tx), .val (.int ac), .val (.int ii)] [(.int (10 : Int32)), (.int ac)])) _
    refine XS.imul X0.here hx rfl (hb hby d4_34) rfl ?_
    show Steps p.tables e below (T0.setTop (mkF m 35 #[.val (.ref ad), .val (.int fx), .val (.int tx), .val (.int ac), .val (.int ii)] [(.int (ac * (10 : Int32)))])) _
    refine XS.aloadN X0.here hx rfl (hb hby d4_35) rfl rfl  ?_
    show Steps p.tables e below (T0.setTop (mkF m 36 #[.val (.ref ad), .val (.int fx), .val (.int tx), .val (.int ac), .val (.int ii)] [(.ref ad), (.int (ac * (10 : Int32)))])) _
    refine XS.iload X0.here hx rfl (hb hby d4_36) rfl  ?_
    exact k)
  have P6 : Wy p.tables e below (T0.setTop (mkF m 5 #[.val (.ref ad), .val (.int fx), .val (.int tx), .val (.int ac), .val (.int ii)] [])) (T0.setTop (mkF m 39 #[.val (.ref ad), .val (.int fx), .val (.int tx), .val (.int ac), .val (.int ii)] [(.int ww), (.int (ac * (10 : Int32)))])) := fun t k => P5 t (X0.baloadBytes hx (j := ii) (v := (.int ww)) (by rw [e0]; exact Ar.1) (State.isArrayOf_alike hZ.alike Ar.2.1) Ar.2.2 hi ha (g := (mkF m 38 #[.val (.ref ad), .val (.int fx), .val (.int tx), .val (.int ac), .val (.int ii)] [(.int ii), (.ref ad), (.int (ac * (10 : Int32)))])) rfl rfl (hb hby d4_38) _ k)
  have P7 : Wy p.tables e below (T0.setTop (mkF m 5 #[.val (.ref ad), .val (.int fx), .val (.int tx), .val (.int ac), .val (.int ii)] [])) (T0.setTop (mkF m 5 #[.val (.ref ad), .val (.int fx), .val (.int tx), .val (.int (((ac * (10 : Int32)) + ww) - (48 : Int32))), .val (.int (ii + (1 : Int32)))] [])) := fun t k => P6 t (by
    show Steps p.tables e below (T0.setTop (mkF m 39 #[.val (.ref ad), .val (.int fx), .val (.int tx), .val (.int ac), .val (.int ii)] [(.int ww), (.int (ac * (10 : Int32)))])) _
    refine XS.iadd X0.here hx rfl (hb hby d4_39) rfl ?_
    show Steps p.tables e below (T0.setTop (mkF m 40 #[.val (.ref ad), .val (.int fx), .val (.int tx), .val (.int ac), .val (.int ii)] [(.int ((ac * (10 : Int32)) + ww))])) _
    refine XS.bipush X0.here hx rfl (hb hby d4_40) ?_
    show Steps p.tables e below (T0.setTop (mkF m 42 #[.val (.ref ad), .val (.int fx), .val (.int tx), .val (.int ac), .val (.int ii)] [(.int (48 : Int32)), (.int ((ac * (10 : Int32)) + ww))])) _
    refine XS.isub X0.here hx rfl (hb hby d4_42) rfl ?_
    show Steps p.tables e below (T0.setTop (mkF m 43 #[.val (.ref ad), .val (.int fx), .val (.int tx), .val (.int ac), .val (.int ii)] [(.int (((ac * (10 : Int32)) + ww) - (48 : Int32)))])) _
    refine XS.istoreN X0.here hx rfl (hb hby d4_43) rfl (l' := #[.val (.ref ad), .val (.int fx), .val (.int tx), .val (.int (((ac * (10 : Int32)) + ww) - (48 : Int32))), .val (.int ii)]) rfl ?_
    show Steps p.tables e below (T0.setTop (mkF m 44 #[.val (.ref ad), .val (.int fx), .val (.int tx), .val (.int (((ac * (10 : Int32)) + ww) - (48 : Int32))), .val (.int ii)] [])) _
    refine XS.iinc X0.here hx rfl (hb hby d4_44) rfl (l' := #[.val (.ref ad), .val (.int fx), .val (.int tx), .val (.int (((ac * (10 : Int32)) + ww) - (48 : Int32))), .val (.int (ii + (1 : Int32)))]) rfl ?_
    show Steps p.tables e below (T0.setTop (mkF m 47 #[.val (.ref ad), .val (.int fx), .val (.int tx), .val (.int (((ac * (10 : Int32)) + ww) - (48 : Int32))), .val (.int (ii + (1 : Int32)))] [])) _
    refine XS.goto X0.here hx rfl (pc0 := 47) (pc' := 5) rfl (hb hby d4_47) (by decide) (by decide) ?_
    exact k)
  exact P7
set_option maxRecDepth 65536 in
set_option maxHeartbeats 40000000 in
theorem sg_low {p : Program} {l : Launch} {e : Env} {R : Room} {s : State} {m : MethodId} {args : Array Value} {below : List Frame} {meth : Method} {c : Code} {T0 : State} {locs : List Loc} {cells slots : Nat} {Z : State} {a0 : Array Value} {h0 : Heap} (ad : Addr) (fx tx ac ii : Int32) (cl : Cell) (ww : Int32) (X0 : Stand p l e R s m args below meth c T0 locs cells slots) (hx : p.tables.exec = Jvm.exec) (hZ : Z.Warmed39 s.vm) (hw : ∀ d ∈ tables_1, d.before a0 Z = true) (hby : c.code = prog_11_method_13_code) (hml : c.maxLocals = 5) (hown : s.vm.findClass "com/example/zbirka/zbirka/Iso2709Reader" = some m.cls) (e0 : T0.heap = h0) (Ar : Arr Z h0 ad cl .byte) (hi : ¬ (ii < 0 ∨ cl.slots.size ≤ ii.toNatClampNeg)) (ha : cl.slots[ii.toNatClampNeg]? = some (.int ww)) (hc : ii < tx) (h1 : ww < (48 : Int32)) :
    Wy p.tables e below (T0.setTop (mkF m 5 #[.val (.ref ad), .val (.int fx), .val (.int tx), .val (.int ac), .val (.int ii)] [])) (T0.setTop (mkF m 29 #[.val (.ref ad), .val (.int fx), .val (.int tx), .val (.int ac), .val (.int ii)] [])) := by
  have P0 : Wy p.tables e below (T0.setTop (mkF m 5 #[.val (.ref ad), .val (.int fx), .val (.int tx), .val (.int ac), .val (.int ii)] [])) (T0.setTop (mkF m 5 #[.val (.ref ad), .val (.int fx), .val (.int tx), .val (.int ac), .val (.int ii)] [])) := fun t k => k
  have P1 : Wy p.tables e below (T0.setTop (mkF m 5 #[.val (.ref ad), .val (.int fx), .val (.int tx), .val (.int ac), .val (.int ii)] [])) (T0.setTop (mkF m 14 #[.val (.ref ad), .val (.int fx), .val (.int tx), .val (.int ac), .val (.int ii)] [(.int ii), (.ref ad)])) := fun t k => P0 t (by
    show Steps p.tables e below (T0.setTop (mkF m 5 #[.val (.ref ad), .val (.int fx), .val (.int tx), .val (.int ac), .val (.int ii)] [])) _
    refine XS.iload X0.here hx rfl (hb hby d4_5) rfl  ?_
    show Steps p.tables e below (T0.setTop (mkF m 7 #[.val (.ref ad), .val (.int fx), .val (.int tx), .val (.int ac), .val (.int ii)] [(.int ii)])) _
    refine XS.iloadN X0.here hx rfl (hb hby d4_7) rfl  ?_
    show Steps p.tables e below (T0.setTop (mkF m 8 #[.val (.ref ad), .val (.int fx), .val (.int tx), .val (.int ac), .val (.int ii)] [(.int tx), (.int ii)])) _
    refine XS.icmpNo X0.here hx rfl (hb hby d4_8) rfl (tlt (hc : ii < tx)).2.1 ?_
    show Steps p.tables e below (T0.setTop (mkF m 11 #[.val (.ref ad), .val (.int fx), .val (.int tx), .val (.int ac), .val (.int ii)] [])) _
    refine XS.aloadN X0.here hx rfl (hb hby d4_11) rfl rfl  ?_
    show Steps p.tables e below (T0.setTop (mkF m 12 #[.val (.ref ad), .val (.int fx), .val (.int tx), .val (.int ac), .val (.int ii)] [(.ref ad)])) _
    refine XS.iload X0.here hx rfl (hb hby d4_12) rfl  ?_
    exact k)
  have P2 : Wy p.tables e below (T0.setTop (mkF m 5 #[.val (.ref ad), .val (.int fx), .val (.int tx), .val (.int ac), .val (.int ii)] [])) (T0.setTop (mkF m 15 #[.val (.ref ad), .val (.int fx), .val (.int tx), .val (.int ac), .val (.int ii)] [(.int ww)])) := fun t k => P1 t (X0.baloadBytes hx (j := ii) (v := (.int ww)) (by rw [e0]; exact Ar.1) (State.isArrayOf_alike hZ.alike Ar.2.1) Ar.2.2 hi ha (g := (mkF m 14 #[.val (.ref ad), .val (.int fx), .val (.int tx), .val (.int ac), .val (.int ii)] [(.int ii), (.ref ad)])) rfl rfl (hb hby d4_14) _ k)
  have P3 : Wy p.tables e below (T0.setTop (mkF m 5 #[.val (.ref ad), .val (.int fx), .val (.int tx), .val (.int ac), .val (.int ii)] [])) (T0.setTop (mkF m 29 #[.val (.ref ad), .val (.int fx), .val (.int tx), .val (.int ac), .val (.int ii)] [])) := fun t k => P2 t (by
    show Steps p.tables e below (T0.setTop (mkF m 15 #[.val (.ref ad), .val (.int fx), .val (.int tx), .val (.int ac), .val (.int ii)] [(.int ww)])) _
    refine XS.bipush X0.here hx rfl (hb hby d4_15) ?_
    show Steps p.tables e below (T0.setTop (mkF m 17 #[.val (.ref ad), .val (.int fx), .val (.int tx), .val (.int ac), .val (.int ii)] [(.int (48 : Int32)), (.int ww)])) _
    refine XS.icmpYes X0.here hx rfl (pc0 := 17) (pc' := 29) rfl (hb hby d4_17) rfl (tlt (h1 : ww < (48 : Int32))).1 (by decide) (by decide) ?_
    exact k)
  exact P3
set_option maxRecDepth 65536 in
set_option maxHeartbeats 40000000 in
theorem sg_high {p : Program} {l : Launch} {e : Env} {R : Room} {s : State} {m : MethodId} {args : Array Value} {below : List Frame} {meth : Method} {c : Code} {T0 : State} {locs : List Loc} {cells slots : Nat} {Z : State} {a0 : Array Value} {h0 : Heap} (ad : Addr) (fx tx ac ii : Int32) (cl : Cell) (ww : Int32) (X0 : Stand p l e R s m args below meth c T0 locs cells slots) (hx : p.tables.exec = Jvm.exec) (hZ : Z.Warmed39 s.vm) (hw : ∀ d ∈ tables_1, d.before a0 Z = true) (hby : c.code = prog_11_method_13_code) (hml : c.maxLocals = 5) (hown : s.vm.findClass "com/example/zbirka/zbirka/Iso2709Reader" = some m.cls) (e0 : T0.heap = h0) (Ar : Arr Z h0 ad cl .byte) (hi : ¬ (ii < 0 ∨ cl.slots.size ≤ ii.toNatClampNeg)) (ha : cl.slots[ii.toNatClampNeg]? = some (.int ww)) (hc : ii < tx) (h1 : ¬ (ww < (48 : Int32))) (h2 : (57 : Int32) < ww) :
    Wy p.tables e below (T0.setTop (mkF m 5 #[.val (.ref ad), .val (.int fx), .val (.int tx), .val (.int ac), .val (.int ii)] [])) (T0.setTop (mkF m 29 #[.val (.ref ad), .val (.int fx), .val (.int tx), .val (.int ac), .val (.int ii)] [])) := by
  have P0 : Wy p.tables e below (T0.setTop (mkF m 5 #[.val (.ref ad), .val (.int fx), .val (.int tx), .val (.int ac), .val (.int ii)] [])) (T0.setTop (mkF m 5 #[.val (.ref ad), .val (.int fx), .val (.int tx), .val (.int ac), .val (.int ii)] [])) := fun t k => k
  have P1 : Wy p.tables e below (T0.setTop (mkF m 5 #[.val (.ref ad), .val (.int fx), .val (.int tx), .val (.int ac), .val (.int ii)] [])) (T0.setTop (mkF m 14 #[.val (.ref ad), .val (.int fx), .val (.int tx), .val (.int ac), .val (.int ii)] [(.int ii), (.ref ad)])) := fun t k => P0 t (by
    show Steps p.tables e below (T0.setTop (mkF m 5 #[.val (.ref ad), .val (.int fx), .val (.int tx), .val (.int ac), .val (.int ii)] [])) _
    refine XS.iload X0.here hx rfl (hb hby d4_5) rfl  ?_
    show Steps p.tables e below (T0.setTop (mkF m 7 #[.val (.ref ad), .val (.int fx), .val (.int tx), .val (.int ac), .val (.int ii)] [(.int ii)])) _
    refine XS.iloadN X0.here hx rfl (hb hby d4_7) rfl  ?_
    show Steps p.tables e below (T0.setTop (mkF m 8 #[.val (.ref ad), .val (.int fx), .val (.int tx), .val (.int ac), .val (.int ii)] [(.int tx), (.int ii)])) _
    refine XS.icmpNo X0.here hx rfl (hb hby d4_8) rfl (tlt (hc : ii < tx)).2.1 ?_
    show Steps p.tables e below (T0.setTop (mkF m 11 #[.val (.ref ad), .val (.int fx), .val (.int tx), .val (.int ac), .val (.int ii)] [])) _
    refine XS.aloadN X0.here hx rfl (hb hby d4_11) rfl rfl  ?_
    show Steps p.tables e below (T0.setTop (mkF m 12 #[.val (.ref ad), .val (.int fx), .val (.int tx), .val (.int ac), .val (.int ii)] [(.ref ad)])) _
    refine XS.iload X0.here hx rfl (hb hby d4_12) rfl  ?_
    exact k)
  have P2 : Wy p.tables e below (T0.setTop (mkF m 5 #[.val (.ref ad), .val (.int fx), .val (.int tx), .val (.int ac), .val (.int ii)] [])) (T0.setTop (mkF m 15 #[.val (.ref ad), .val (.int fx), .val (.int tx), .val (.int ac), .val (.int ii)] [(.int ww)])) := fun t k => P1 t (X0.baloadBytes hx (j := ii) (v := (.int ww)) (by rw [e0]; exact Ar.1) (State.isArrayOf_alike hZ.alike Ar.2.1) Ar.2.2 hi ha (g := (mkF m 14 #[.val (.ref ad), .val (.int fx), .val (.int tx), .val (.int ac), .val (.int ii)] [(.int ii), (.ref ad)])) rfl rfl (hb hby d4_14) _ k)
  have P3 : Wy p.tables e below (T0.setTop (mkF m 5 #[.val (.ref ad), .val (.int fx), .val (.int tx), .val (.int ac), .val (.int ii)] [])) (T0.setTop (mkF m 23 #[.val (.ref ad), .val (.int fx), .val (.int tx), .val (.int ac), .val (.int ii)] [(.int ii), (.ref ad)])) := fun t k => P2 t (by
    show Steps p.tables e below (T0.setTop (mkF m 15 #[.val (.ref ad), .val (.int fx), .val (.int tx), .val (.int ac), .val (.int ii)] [(.int ww)])) _
    refine XS.bipush X0.here hx rfl (hb hby d4_15) ?_
    show Steps p.tables e below (T0.setTop (mkF m 17 #[.val (.ref ad), .val (.int fx), .val (.int tx), .val (.int ac), .val (.int ii)] [(.int (48 : Int32)), (.int ww)])) _
    refine XS.icmpNo X0.here hx rfl (hb hby d4_17) rfl (flt (h1 : ¬ (ww < (48 : Int32)))).1 ?_
    show Steps p.tables e below (T0.setTop (mkF m 20 #[.val (.ref ad), .val (.int fx), .val (.int tx), .val (.int ac), .val (.int ii)] [])) _
    refine XS.aloadN X0.here hx rfl (hb hby d4_20) rfl rfl  ?_
    show Steps p.tables e below (T0.setTop (mkF m 21 #[.val (.ref ad), .val (.int fx), .val (.int tx), .val (.int ac), .val (.int ii)] [(.ref ad)])) _
    refine XS.iload X0.here hx rfl (hb hby d4_21) rfl  ?_
    exact k)
  have P4 : Wy p.tables e below (T0.setTop (mkF m 5 #[.val (.ref ad), .val (.int fx), .val (.int tx), .val (.int ac), .val (.int ii)] [])) (T0.setTop (mkF m 24 #[.val (.ref ad), .val (.int fx), .val (.int tx), .val (.int ac), .val (.int ii)] [(.int ww)])) := fun t k => P3 t (X0.baloadBytes hx (j := ii) (v := (.int ww)) (by rw [e0]; exact Ar.1) (State.isArrayOf_alike hZ.alike Ar.2.1) Ar.2.2 hi ha (g := (mkF m 23 #[.val (.ref ad), .val (.int fx), .val (.int tx), .val (.int ac), .val (.int ii)] [(.int ii), (.ref ad)])) rfl rfl (hb hby d4_23) _ k)
  have P5 : Wy p.tables e below (T0.setTop (mkF m 5 #[.val (.ref ad), .val (.int fx), .val (.int tx), .val (.int ac), .val (.int ii)] [])) (T0.setTop (mkF m 29 #[.val (.ref ad), .val (.int fx), .val (.int tx), .val (.int ac), .val (.int ii)] [])) := fun t k => P4 t (by
    show Steps p.tables e below (T0.setTop (mkF m 24 #[.val (.ref ad), .val (.int fx), .val (.int tx), .val (.int ac), .val (.int ii)] [(.int ww)])) _
    refine XS.bipush X0.here hx rfl (hb hby d4_24) ?_
    show Steps p.tables e below (T0.setTop (mkF m 26 #[.val (.ref ad), .val (.int fx), .val (.int tx), .val (.int ac), .val (.int ii)] [(.int (57 : Int32)), (.int ww)])) _
    refine XS.icmpNo X0.here hx rfl (hb hby d4_26) rfl (tlt (h2 : (57 : Int32) < ww)).2.2.2 ?_
    exact k)
  exact P5
set_option maxRecDepth 65536 in
set_option maxHeartbeats 40000000 in
theorem sg_out {p : Program} {l : Launch} {e : Env} {R : Room} {s : State} {m : MethodId} {args : Array Value} {below : List Frame} {meth : Method} {c : Code} {T0 : State} {locs : List Loc} {cells slots : Nat} {Z : State} {a0 : Array Value} {h0 : Heap} (ad : Addr) (fx tx ac ii : Int32) (X0 : Stand p l e R s m args below meth c T0 locs cells slots) (hx : p.tables.exec = Jvm.exec) (hZ : Z.Warmed39 s.vm) (hw : ∀ d ∈ tables_1, d.before a0 Z = true) (hby : c.code = prog_11_method_13_code) (hml : c.maxLocals = 5) (hown : s.vm.findClass "com/example/zbirka/zbirka/Iso2709Reader" = some m.cls) (e0 : T0.heap = h0) (hc : ¬ (ii < tx)) :
    Wy p.tables e below (T0.setTop (mkF m 5 #[.val (.ref ad), .val (.int fx), .val (.int tx), .val (.int ac), .val (.int ii)] [])) (T0.setTop (mkF m 50 #[.val (.ref ad), .val (.int fx), .val (.int tx), .val (.int ac), .val (.int ii)] [])) := by
  have P0 : Wy p.tables e below (T0.setTop (mkF m 5 #[.val (.ref ad), .val (.int fx), .val (.int tx), .val (.int ac), .val (.int ii)] [])) (T0.setTop (mkF m 5 #[.val (.ref ad), .val (.int fx), .val (.int tx), .val (.int ac), .val (.int ii)] [])) := fun t k => k
  have P1 : Wy p.tables e below (T0.setTop (mkF m 5 #[.val (.ref ad), .val (.int fx), .val (.int tx), .val (.int ac), .val (.int ii)] [])) (T0.setTop (mkF m 50 #[.val (.ref ad), .val (.int fx), .val (.int tx), .val (.int ac), .val (.int ii)] [])) := fun t k => P0 t (by
    show Steps p.tables e below (T0.setTop (mkF m 5 #[.val (.ref ad), .val (.int fx), .val (.int tx), .val (.int ac), .val (.int ii)] [])) _
    refine XS.iload X0.here hx rfl (hb hby d4_5) rfl  ?_
    show Steps p.tables e below (T0.setTop (mkF m 7 #[.val (.ref ad), .val (.int fx), .val (.int tx), .val (.int ac), .val (.int ii)] [(.int ii)])) _
    refine XS.iloadN X0.here hx rfl (hb hby d4_7) rfl  ?_
    show Steps p.tables e below (T0.setTop (mkF m 8 #[.val (.ref ad), .val (.int fx), .val (.int tx), .val (.int ac), .val (.int ii)] [(.int tx), (.int ii)])) _
    refine XS.icmpYes X0.here hx rfl (pc0 := 8) (pc' := 50) rfl (hb hby d4_8) rfl (flt (hc : ¬ (ii < tx))).2.1 (by decide) (by decide) ?_
    exact k)
  exact P1
theorem own_loop {p : Program} {l : Launch} {e : Env} {R : Room} {s : State} {m : MethodId} {args : Array Value} {below : List Frame} {meth : Method} {c : Code} {T0 : State} {locs : List Loc} {cells slots : Nat} {Z : State} {a0 : Array Value} {h0 : Heap} (ad : Addr) (fx tx : Int32) (vs : List Int32) (tn : Nat) (X0 : Stand p l e R s m args below meth c T0 locs cells slots) (hx : p.tables.exec = Jvm.exec) (hZ : Z.Warmed39 s.vm) (hw : ∀ d ∈ tables_1, d.before a0 Z = true) (hby : c.code = prog_11_method_13_code) (hml : c.maxLocals = 5) (hown : s.vm.findClass "com/example/zbirka/zbirka/Iso2709Reader" = some m.cls) (e0 : T0.heap = h0) (B : own_By Z h0 ad vs) (ht : tx = Int32.ofNat tn) (hl : tn ≤ vs.length) (h4 : vs.length ≤ 1000) :
    ∀ (k i : Nat) (ac : Int32), i + k = tn →
      (∃ a j, own_D vs k i ac = -1 ∧ Wy p.tables e below (T0.setTop (mkF m 5 #[.val (.ref ad), .val (.int fx), .val (.int tx), .val (.int ac), .val (.int (Int32.ofNat i))] [])) (T0.setTop (mkF m 29 #[.val (.ref ad), .val (.int fx), .val (.int tx), .val (.int a), .val (.int (Int32.ofNat j))] []))) ∨ (∃ a j, own_D vs k i ac = a ∧ Wy p.tables e below (T0.setTop (mkF m 5 #[.val (.ref ad), .val (.int fx), .val (.int tx), .val (.int ac), .val (.int (Int32.ofNat i))] [])) (T0.setTop (mkF m 50 #[.val (.ref ad), .val (.int fx), .val (.int tx), .val (.int a), .val (.int (Int32.ofNat j))] []))) := by
  obtain ⟨cl, Ar, Sz, Ha⟩ := B
  intro k
  induction k with
  | zero =>
    intro i ac hi
    refine Or.inr ⟨ac, i, rfl, sg_out ad fx tx ac (Int32.ofNat i) X0 hx hZ hw hby hml hown e0 ?_⟩
    rw [ht, own_ltN (by omega) (by omega)]
    omega
  | succ k ih =>
    intro i ac hi
    have hc : Int32.ofNat i < tx := by rw [ht, own_ltN (by omega) (by omega)]; omega
    have a := own_at (j := Int32.ofNat i) Sz Ha (by rw [own_ofN (by omega)]; omega) (by rw [own_ofN (by omega)]; omega)
    rw [own_ofC (by omega)] at a
    have a2 : cl.slots[(Int32.ofNat i).toNatClampNeg]? = some (.int (vs.getD i 0)) := by rw [own_ofC (by omega)]; exact a.2
    have a1 : ¬ ((Int32.ofNat i) < 0 ∨ cl.slots.size ≤ (Int32.ofNat i).toNatClampNeg) := by rw [own_ofC (by omega)]; exact a.1
    by_cases h1 : vs.getD i 0 < (48 : Int32)
    · exact Or.inl ⟨ac, i, by simp only [own_D, if_pos h1], sg_low ad fx tx ac (Int32.ofNat i) cl _ X0 hx hZ hw hby hml hown e0 Ar a1 a2 hc h1⟩
    · by_cases h2 : (57 : Int32) < vs.getD i 0
      · exact Or.inl ⟨ac, i, by simp only [own_D, if_neg h1, if_pos h2], sg_high ad fx tx ac (Int32.ofNat i) cl _ X0 hx hZ hw hby hml hown e0 Ar a1 a2 hc h1 h2⟩
      · have st := sg_turn ad fx tx ac (Int32.ofNat i) cl _ X0 hx hZ hw hby hml hown e0 Ar a1 a2 hc h1 h2
        rw [own_one] at st
        simp only [own_D, if_neg h1, if_neg h2]
        rcases ih (i + 1) (((ac * (10 : Int32)) + vs.getD i 0) - (48 : Int32)) (by omega) with ⟨x, j, hj, W⟩ | ⟨x, j, hj, W⟩
        · exact Or.inl ⟨x, j, hj, fun t h => st t (W t h)⟩
        · exact Or.inr ⟨x, j, hj, fun t h => st t (W t h)⟩
theorem d4_0 : decode prog_11_method_13_code 0 = .ok (.iconst 0, 1) := by decide +kernel
theorem d4_1 : decode prog_11_method_13_code 1 = .ok (.istore_n 3, 1) := by decide +kernel
theorem d4_2 : decode prog_11_method_13_code 2 = .ok (.iload_n 1, 1) := by decide +kernel
theorem d4_3 : decode prog_11_method_13_code 3 = .ok (.istore 4, 2) := by decide +kernel
theorem d4_29 : decode prog_11_method_13_code 29 = .ok (.iconst (-1), 1) := by decide +kernel
theorem d4_30 : decode prog_11_method_13_code 30 = .ok (.ireturn, 1) := by decide +kernel
theorem d4_50 : decode prog_11_method_13_code 50 = .ok (.iload_n 3, 1) := by decide +kernel
theorem d4_51 : decode prog_11_method_13_code 51 = .ok (.ireturn, 1) := by decide +kernel
theorem pn_com_example_zbirka_zbirka_Iso2709Reader : plainName "com/example/zbirka/zbirka/Iso2709Reader" = true := by first | (simp [plainName, overriddenIn]; done) | decide +kernel
theorem ef_rm4 (m : MethodId) (ad : Addr) (fx : Int32) (tx : Int32)  : entryFrame m #[(.ref ad), (.int fx), (.int tx)] 5 = (mkF m 0 #[.val (.ref ad), .val (.int fx), .val (.int tx), .unset, .unset] []) := by first | (simp [entryFrame, mkF, argsToLocals, Value.category]; done) | rfl
def Q4 (Z : State) (ad : Addr) (fx tx : Int32) (vs : List Int32) (fn tn : Nat) (h0 : Heap) (n0 : Nat) (v : Option Value) (h : Heap) (L : List Loc) : Prop := v = some (.int (own_D vs (tn - fn) fn 0)) ∧ Fr n0 L ∧ h = h0
set_option maxRecDepth 65536 in
set_option maxHeartbeats 40000000 in
theorem rm4 (l : Launch) (Z : State) (a0 : Array Value) (hw : ∀ d ∈ tables_1, d.before a0 Z = true) (ws : List Jvm.Cond) (ad : Addr) (fx tx : Int32) (vs : List Int32) (fn tn : Nat) (h0 : Heap) (n0 : Nat) (Z0 : n0 ≤ h0.size) (B : own_By Z h0 ad vs) (hf : fx = Int32.ofNat fn) (ht : tx = Int32.ofNat tn) (hl : tn ≤ vs.length) (h4 : vs.length ≤ 1000) (hft : fn ≤ tn) :
    MetFree l (⟨"com/example/zbirka/zbirka/Iso2709Reader", "digits", "([BII)I"⟩ : MethodName) (head1 (Jvm.Cond.code (⟨"com/example/zbirka/zbirka/Iso2709Reader", "digits", "([BII)I"⟩ : MethodName) prog_11_method_13_code 5 (some .int) :: ws) ({ frames := 0, cells := 0, slots := 0, locals := 0 } : Room)) (fun a U => a = #[(.ref ad), (.int fx), (.int tx)] ∧ Z.Warmed39 U.vm ∧ U.heap = h0) (fun _ _ _ _ _ => True) (fun _ U o U' => ∃ v L, o = .returned v ∧ Q4 Z ad fx tx vs fn tn h0 n0 v U'.heap L ∧ FrameEnd U o U' L ({ frames := 0, cells := 0, slots := 0, locals := 0 } : Room).cells ({ frames := 0, cells := 0, slots := 0, locals := 0 } : Room).slots) := by
  refine MetFree.of_bodySF (plainFor_of_name pn_com_example_zbirka_zbirka_Iso2709Reader) hisR ?_
  intro p e s m args below meth c s₁ Bd hml0 hP hK
  obtain ⟨rfl, hZ, hh⟩ := hP
  have hx := Bd.exec
  have hby := Bd.bytes
  have hml : c.maxLocals = 5 := hml0
  have hown : s.vm.findClass "com/example/zbirka/zbirka/Iso2709Reader" = some m.cls := by have q := findClass_of_methodNamed Bd.named; exact q
  have hnm := (name_of_methodNamed Bd.named Bd.method).1
  have X0 : Stand p l e ({ frames := 0, cells := 0, slots := 0, locals := 0 } : Room) s m #[(.ref ad), (.int fx), (.int tx)] below meth c s₁ [] 0 0 := Stand.of_body Bd
  have e0 : s₁.heap = h0 := by rw [← hh, Bd.state]; rfl
  have N0 := Fr.nil n0
  have P0 : Wy p.tables e below (s₁.setTop (entryFrame m #[(.ref ad), (.int fx), (.int tx)] 5)) (s₁.setTop (mkF m 0 #[.val (.ref ad), .val (.int fx), .val (.int tx), .unset, .unset] [])) := fun t k => castTop (ef_rm4 m ad fx tx) k
  have P1 : Wy p.tables e below (s₁.setTop (entryFrame m #[(.ref ad), (.int fx), (.int tx)] 5)) (s₁.setTop (mkF m 5 #[.val (.ref ad), .val (.int fx), .val (.int tx), .val (.int (0 : Int32)), .val (.int fx)] [])) := fun t k => P0 t (by
    show Steps p.tables e below (s₁.setTop (mkF m 0 #[.val (.ref ad), .val (.int fx), .val (.int tx), .unset, .unset] [])) _
    refine XS.iconst X0.here hx rfl (hb hby d4_0) ?_
    show Steps p.tables e below (s₁.setTop (mkF m 1 #[.val (.ref ad), .val (.int fx), .val (.int tx), .unset, .unset] [(.int (0 : Int32))])) _
    refine XS.istoreN X0.here hx rfl (hb hby d4_1) rfl (l' := #[.val (.ref ad), .val (.int fx), .val (.int tx), .val (.int (0 : Int32)), .unset]) rfl ?_
    show Steps p.tables e below (s₁.setTop (mkF m 2 #[.val (.ref ad), .val (.int fx), .val (.int tx), .val (.int (0 : Int32)), .unset] [])) _
    refine XS.iloadN X0.here hx rfl (hb hby d4_2) rfl  ?_
    show Steps p.tables e below (s₁.setTop (mkF m 3 #[.val (.ref ad), .val (.int fx), .val (.int tx), .val (.int (0 : Int32)), .unset] [(.int fx)])) _
    refine XS.istore X0.here hx rfl (hb hby d4_3) rfl (l' := #[.val (.ref ad), .val (.int fx), .val (.int tx), .val (.int (0 : Int32)), .val (.int fx)]) rfl ?_
    exact k)
  have hlp := own_loop ad fx tx vs tn X0 hx hZ hw hby hml hown e0 B ht hl h4 (tn - fn) fn (0 : Int32) (by omega)
  rw [← hf] at hlp
  rcases hlp with ⟨xa, j, hj, Wj⟩ | ⟨xa, j, hj, Wj⟩
  · have P2 : Wy p.tables e below (s₁.setTop (entryFrame m #[(.ref ad), (.int fx), (.int tx)] 5)) (s₁.setTop (mkF m 29 #[.val (.ref ad), .val (.int fx), .val (.int tx), .val (.int xa), .val (.int (Int32.ofNat j))] [])) := fun t k => P1 t (Wj t k)
    have P3 : Wy p.tables e below (s₁.setTop (entryFrame m #[(.ref ad), (.int fx), (.int tx)] 5)) (s₁.setTop (mkF m 30 #[.val (.ref ad), .val (.int fx), .val (.int tx), .val (.int xa), .val (.int (Int32.ofNat j))] [(.int (-1 : Int32))])) := fun t k => P2 t (by
      show Steps p.tables e below (s₁.setTop (mkF m 29 #[.val (.ref ad), .val (.int fx), .val (.int tx), .val (.int xa), .val (.int (Int32.ofNat j))] [])) _
      refine XS.iconst X0.here hx rfl (hb hby d4_29) ?_
      exact k)
    obtain ⟨fs, hr, hrun, hended, hW, hsame⟩ := X0.leave (v := some (.int (-1 : Int32))) (fun h => by rw [Bd.returns] at h; cases h)
    refine ⟨_, _, P3 _ ?_, hrun, hended, _, _, rfl, ?_, ⟨_, rfl⟩, hW, hsame.mono (by decide) (by decide)⟩
    · show Steps p.tables e below (s₁.setTop (mkF m 30 #[.val (.ref ad), .val (.int fx), .val (.int tx), .val (.int xa), .val (.int (Int32.ofNat j))] [(.int (-1 : Int32))])) _
      exact retI X0 hx Bd.returns (hb hby d4_30) hr
    · show Q4 Z ad fx tx vs fn tn h0 n0 _ s₁.heap _
      rw [e0]
      exact ⟨congrArg (fun z => some (Value.int z)) hj.symm, N0, rfl⟩
  · have P4 : Wy p.tables e below (s₁.setTop (entryFrame m #[(.ref ad), (.int fx), (.int tx)] 5)) (s₁.setTop (mkF m 50 #[.val (.ref ad), .val (.int fx), .val (.int tx), .val (.int xa), .val (.int (Int32.ofNat j))] [])) := fun t k => P1 t (Wj t k)
    have P5 : Wy p.tables e below (s₁.setTop (entryFrame m #[(.ref ad), (.int fx), (.int tx)] 5)) (s₁.setTop (mkF m 51 #[.val (.ref ad), .val (.int fx), .val (.int tx), .val (.int xa), .val (.int (Int32.ofNat j))] [(.int xa)])) := fun t k => P4 t (by
      show Steps p.tables e below (s₁.setTop (mkF m 50 #[.val (.ref ad), .val (.int fx), .val (.int tx), .val (.int xa), .val (.int (Int32.ofNat j))] [])) _
      refine XS.iloadN X0.here hx rfl (hb hby d4_50) rfl  ?_
      exact k)
    obtain ⟨fs, hr, hrun, hended, hW, hsame⟩ := X0.leave (v := some (.int xa)) (fun h => by rw [Bd.returns] at h; cases h)
    refine ⟨_, _, P5 _ ?_, hrun, hended, _, _, rfl, ?_, ⟨_, rfl⟩, hW, hsame.mono (by decide) (by decide)⟩
    · show Steps p.tables e below (s₁.setTop (mkF m 51 #[.val (.ref ad), .val (.int fx), .val (.int tx), .val (.int xa), .val (.int (Int32.ofNat j))] [(.int xa)])) _
      exact retI X0 hx Bd.returns (hb hby d4_51) hr
    · show Q4 Z ad fx tx vs fn tn h0 n0 _ s₁.heap _
      rw [e0]
      exact ⟨congrArg (fun z => some (Value.int z)) hj.symm, N0, rfl⟩
theorem own_c00 (a b c d e : Int32) : own_D [a, b, c, d, e] (0 - 0) 0 0 = own_E [a, b, c, d, e] (Int32.ofNat 0) (Int32.ofNat 0) := by
  have b0 : own_bad [a, b, c, d, e] (0 : Int32) (Int32.ofNat 0) (Int32.ofNat 0) = 0 := rfl
  have t0 : own_term [a, b, c, d, e] (0 : Int32) (Int32.ofNat 0) (Int32.ofNat 0) = 0 := rfl
  have b1 : own_bad [a, b, c, d, e] (1 : Int32) (Int32.ofNat 0) (Int32.ofNat 0) = 0 := rfl
  have t1 : own_term [a, b, c, d, e] (1 : Int32) (Int32.ofNat 0) (Int32.ofNat 0) = 0 := rfl
  have b2 : own_bad [a, b, c, d, e] (2 : Int32) (Int32.ofNat 0) (Int32.ofNat 0) = 0 := rfl
  have t2 : own_term [a, b, c, d, e] (2 : Int32) (Int32.ofNat 0) (Int32.ofNat 0) = 0 := rfl
  have b3 : own_bad [a, b, c, d, e] (3 : Int32) (Int32.ofNat 0) (Int32.ofNat 0) = 0 := rfl
  have t3 : own_term [a, b, c, d, e] (3 : Int32) (Int32.ofNat 0) (Int32.ofNat 0) = 0 := rfl
  have b4 : own_bad [a, b, c, d, e] (4 : Int32) (Int32.ofNat 0) (Int32.ofNat 0) = 0 := rfl
  have t4 : own_term [a, b, c, d, e] (4 : Int32) (Int32.ofNat 0) (Int32.ofNat 0) = 0 := rfl
  unfold own_E
  rw [b0, b1, b2, b3, b4, t0, t1, t2, t3, t4]
  show (0 : Int32) = _
  rfl
theorem own_c01 (a b c d e : Int32) : own_D [a, b, c, d, e] (1 - 0) 0 0 = own_E [a, b, c, d, e] (Int32.ofNat 0) (Int32.ofNat 1) := by
  have b0 : own_bad [a, b, c, d, e] (0 : Int32) (Int32.ofNat 0) (Int32.ofNat 1) = if Fd a = 0 then 1 else 0 := rfl
  have t0 : own_term [a, b, c, d, e] (0 : Int32) (Int32.ofNat 0) (Int32.ofNat 1) = (a - 48) * 1 := rfl
  have b1 : own_bad [a, b, c, d, e] (1 : Int32) (Int32.ofNat 0) (Int32.ofNat 1) = 0 := rfl
  have t1 : own_term [a, b, c, d, e] (1 : Int32) (Int32.ofNat 0) (Int32.ofNat 1) = 0 := rfl
  have b2 : own_bad [a, b, c, d, e] (2 : Int32) (Int32.ofNat 0) (Int32.ofNat 1) = 0 := rfl
  have t2 : own_term [a, b, c, d, e] (2 : Int32) (Int32.ofNat 0) (Int32.ofNat 1) = 0 := rfl
  have b3 : own_bad [a, b, c, d, e] (3 : Int32) (Int32.ofNat 0) (Int32.ofNat 1) = 0 := rfl
  have t3 : own_term [a, b, c, d, e] (3 : Int32) (Int32.ofNat 0) (Int32.ofNat 1) = 0 := rfl
  have b4 : own_bad [a, b, c, d, e] (4 : Int32) (Int32.ofNat 0) (Int32.ofNat 1) = 0 := rfl
  have t4 : own_term [a, b, c, d, e] (4 : Int32) (Int32.ofNat 0) (Int32.ofNat 1) = 0 := rfl
  unfold own_E
  rw [b0, b1, b2, b3, b4, t0, t1, t2, t3, t4]
  show (if a < (48 : Int32) then (-1 : Int32) else (if (57 : Int32) < a then (-1 : Int32) else ((((0 : Int32) * (10 : Int32)) + a) - (48 : Int32)))) = _
  by_cases l0 : a < (48 : Int32)
  · simp [Fd, l0]
  by_cases m0 : (57 : Int32) < a
  · simp [Fd, l0, m0]
  simp only [Fd, if_neg l0, if_neg m0, if_false, if_true, reduceCtorEq, show ¬ ((1 : Int32) = 0) by decide]
  grind
theorem own_c02 (a b c d e : Int32) : own_D [a, b, c, d, e] (2 - 0) 0 0 = own_E [a, b, c, d, e] (Int32.ofNat 0) (Int32.ofNat 2) := by
  have b0 : own_bad [a, b, c, d, e] (0 : Int32) (Int32.ofNat 0) (Int32.ofNat 2) = if Fd a = 0 then 1 else 0 := rfl
  have t0 : own_term [a, b, c, d, e] (0 : Int32) (Int32.ofNat 0) (Int32.ofNat 2) = (a - 48) * 10 := rfl
  have b1 : own_bad [a, b, c, d, e] (1 : Int32) (Int32.ofNat 0) (Int32.ofNat 2) = if Fd b = 0 then 1 else 0 := rfl
  have t1 : own_term [a, b, c, d, e] (1 : Int32) (Int32.ofNat 0) (Int32.ofNat 2) = (b - 48) * 1 := rfl
  have b2 : own_bad [a, b, c, d, e] (2 : Int32) (Int32.ofNat 0) (Int32.ofNat 2) = 0 := rfl
  have t2 : own_term [a, b, c, d, e] (2 : Int32) (Int32.ofNat 0) (Int32.ofNat 2) = 0 := rfl
  have b3 : own_bad [a, b, c, d, e] (3 : Int32) (Int32.ofNat 0) (Int32.ofNat 2) = 0 := rfl
  have t3 : own_term [a, b, c, d, e] (3 : Int32) (Int32.ofNat 0) (Int32.ofNat 2) = 0 := rfl
  have b4 : own_bad [a, b, c, d, e] (4 : Int32) (Int32.ofNat 0) (Int32.ofNat 2) = 0 := rfl
  have t4 : own_term [a, b, c, d, e] (4 : Int32) (Int32.ofNat 0) (Int32.ofNat 2) = 0 := rfl
  unfold own_E
  rw [b0, b1, b2, b3, b4, t0, t1, t2, t3, t4]
  show (if a < (48 : Int32) then (-1 : Int32) else (if (57 : Int32) < a then (-1 : Int32) else (if b < (48 : Int32) then (-1 : Int32) else (if (57 : Int32) < b then (-1 : Int32) else (((((((0 : Int32) * (10 : Int32)) + a) - (48 : Int32)) * (10 : Int32)) + b) - (48 : Int32)))))) = _
  by_cases l0 : a < (48 : Int32)
  · simp [Fd, l0]
  by_cases m0 : (57 : Int32) < a
  · simp [Fd, l0, m0]
  by_cases l1 : b < (48 : Int32)
  · simp [Fd, l0, l1, m0]
  by_cases m1 : (57 : Int32) < b
  · simp [Fd, l0, l1, m0, m1]
  simp only [Fd, if_neg l0, if_neg m0, if_neg l1, if_neg m1, if_false, if_true, reduceCtorEq, show ¬ ((1 : Int32) = 0) by decide]
  grind
theorem own_c03 (a b c d e : Int32) : own_D [a, b, c, d, e] (3 - 0) 0 0 = own_E [a, b, c, d, e] (Int32.ofNat 0) (Int32.ofNat 3) := by
  have b0 : own_bad [a, b, c, d, e] (0 : Int32) (Int32.ofNat 0) (Int32.ofNat 3) = if Fd a = 0 then 1 else 0 := rfl
  have t0 : own_term [a, b, c, d, e] (0 : Int32) (Int32.ofNat 0) (Int32.ofNat 3) = (a - 48) * 100 := rfl
  have b1 : own_bad [a, b, c, d, e] (1 : Int32) (Int32.ofNat 0) (Int32.ofNat 3) = if Fd b = 0 then 1 else 0 := rfl
  have t1 : own_term [a, b, c, d, e] (1 : Int32) (Int32.ofNat 0) (Int32.ofNat 3) = (b - 48) * 10 := rfl
  have b2 : own_bad [a, b, c, d, e] (2 : Int32) (Int32.ofNat 0) (Int32.ofNat 3) = if Fd c = 0 then 1 else 0 := rfl
  have t2 : own_term [a, b, c, d, e] (2 : Int32) (Int32.ofNat 0) (Int32.ofNat 3) = (c - 48) * 1 := rfl
  have b3 : own_bad [a, b, c, d, e] (3 : Int32) (Int32.ofNat 0) (Int32.ofNat 3) = 0 := rfl
  have t3 : own_term [a, b, c, d, e] (3 : Int32) (Int32.ofNat 0) (Int32.ofNat 3) = 0 := rfl
  have b4 : own_bad [a, b, c, d, e] (4 : Int32) (Int32.ofNat 0) (Int32.ofNat 3) = 0 := rfl
  have t4 : own_term [a, b, c, d, e] (4 : Int32) (Int32.ofNat 0) (Int32.ofNat 3) = 0 := rfl
  unfold own_E
  rw [b0, b1, b2, b3, b4, t0, t1, t2, t3, t4]
  show (if a < (48 : Int32) then (-1 : Int32) else (if (57 : Int32) < a then (-1 : Int32) else (if b < (48 : Int32) then (-1 : Int32) else (if (57 : Int32) < b then (-1 : Int32) else (if c < (48 : Int32) then (-1 : Int32) else (if (57 : Int32) < c then (-1 : Int32) else ((((((((((0 : Int32) * (10 : Int32)) + a) - (48 : Int32)) * (10 : Int32)) + b) - (48 : Int32)) * (10 : Int32)) + c) - (48 : Int32)))))))) = _
  by_cases l0 : a < (48 : Int32)
  · simp [Fd, l0]
  by_cases m0 : (57 : Int32) < a
  · simp [Fd, l0, m0]
  by_cases l1 : b < (48 : Int32)
  · simp [Fd, l0, l1, m0]
  by_cases m1 : (57 : Int32) < b
  · simp [Fd, l0, l1, m0, m1]
  by_cases l2 : c < (48 : Int32)
  · simp [Fd, l0, l1, l2, m0, m1]
  by_cases m2 : (57 : Int32) < c
  · simp [Fd, l0, l1, l2, m0, m1, m2]
  simp only [Fd, if_neg l0, if_neg m0, if_neg l1, if_neg m1, if_neg l2, if_neg m2, if_false, if_true, reduceCtorEq, show ¬ ((1 : Int32) = 0) by decide]
  grind
theorem own_c04 (a b c d e : Int32) : own_D [a, b, c, d, e] (4 - 0) 0 0 = own_E [a, b, c, d, e] (Int32.ofNat 0) (Int32.ofNat 4) := by
  have b0 : own_bad [a, b, c, d, e] (0 : Int32) (Int32.ofNat 0) (Int32.ofNat 4) = if Fd a = 0 then 1 else 0 := rfl
  have t0 : own_term [a, b, c, d, e] (0 : Int32) (Int32.ofNat 0) (Int32.ofNat 4) = (a - 48) * 1000 := rfl
  have b1 : own_bad [a, b, c, d, e] (1 : Int32) (Int32.ofNat 0) (Int32.ofNat 4) = if Fd b = 0 then 1 else 0 := rfl
  have t1 : own_term [a, b, c, d, e] (1 : Int32) (Int32.ofNat 0) (Int32.ofNat 4) = (b - 48) * 100 := rfl
  have b2 : own_bad [a, b, c, d, e] (2 : Int32) (Int32.ofNat 0) (Int32.ofNat 4) = if Fd c = 0 then 1 else 0 := rfl
  have t2 : own_term [a, b, c, d, e] (2 : Int32) (Int32.ofNat 0) (Int32.ofNat 4) = (c - 48) * 10 := rfl
  have b3 : own_bad [a, b, c, d, e] (3 : Int32) (Int32.ofNat 0) (Int32.ofNat 4) = if Fd d = 0 then 1 else 0 := rfl
  have t3 : own_term [a, b, c, d, e] (3 : Int32) (Int32.ofNat 0) (Int32.ofNat 4) = (d - 48) * 1 := rfl
  have b4 : own_bad [a, b, c, d, e] (4 : Int32) (Int32.ofNat 0) (Int32.ofNat 4) = 0 := rfl
  have t4 : own_term [a, b, c, d, e] (4 : Int32) (Int32.ofNat 0) (Int32.ofNat 4) = 0 := rfl
  unfold own_E
  rw [b0, b1, b2, b3, b4, t0, t1, t2, t3, t4]
  show (if a < (48 : Int32) then (-1 : Int32) else (if (57 : Int32) < a then (-1 : Int32) else (if b < (48 : Int32) then (-1 : Int32) else (if (57 : Int32) < b then (-1 : Int32) else (if c < (48 : Int32) then (-1 : Int32) else (if (57 : Int32) < c then (-1 : Int32) else (if d < (48 : Int32) then (-1 : Int32) else (if (57 : Int32) < d then (-1 : Int32) else (((((((((((((0 : Int32) * (10 : Int32)) + a) - (48 : Int32)) * (10 : Int32)) + b) - (48 : Int32)) * (10 : Int32)) + c) - (48 : Int32)) * (10 : Int32)) + d) - (48 : Int32)))))))))) = _
  by_cases l0 : a < (48 : Int32)
  · simp [Fd, l0]
  by_cases m0 : (57 : Int32) < a
  · simp [Fd, l0, m0]
  by_cases l1 : b < (48 : Int32)
  · simp [Fd, l0, l1, m0]
  by_cases m1 : (57 : Int32) < b
  · simp [Fd, l0, l1, m0, m1]
  by_cases l2 : c < (48 : Int32)
  · simp [Fd, l0, l1, l2, m0, m1]
  by_cases m2 : (57 : Int32) < c
  · simp [Fd, l0, l1, l2, m0, m1, m2]
  by_cases l3 : d < (48 : Int32)
  · simp [Fd, l0, l1, l2, l3, m0, m1, m2]
  by_cases m3 : (57 : Int32) < d
  · simp [Fd, l0, l1, l2, l3, m0, m1, m2, m3]
  simp only [Fd, if_neg l0, if_neg m0, if_neg l1, if_neg m1, if_neg l2, if_neg m2, if_neg l3, if_neg m3, if_false, if_true, reduceCtorEq, show ¬ ((1 : Int32) = 0) by decide]
  grind
theorem own_c05 (a b c d e : Int32) : own_D [a, b, c, d, e] (5 - 0) 0 0 = own_E [a, b, c, d, e] (Int32.ofNat 0) (Int32.ofNat 5) := by
  have b0 : own_bad [a, b, c, d, e] (0 : Int32) (Int32.ofNat 0) (Int32.ofNat 5) = if Fd a = 0 then 1 else 0 := rfl
  have t0 : own_term [a, b, c, d, e] (0 : Int32) (Int32.ofNat 0) (Int32.ofNat 5) = (a - 48) * 10000 := rfl
  have b1 : own_bad [a, b, c, d, e] (1 : Int32) (Int32.ofNat 0) (Int32.ofNat 5) = if Fd b = 0 then 1 else 0 := rfl
  have t1 : own_term [a, b, c, d, e] (1 : Int32) (Int32.ofNat 0) (Int32.ofNat 5) = (b - 48) * 1000 := rfl
  have b2 : own_bad [a, b, c, d, e] (2 : Int32) (Int32.ofNat 0) (Int32.ofNat 5) = if Fd c = 0 then 1 else 0 := rfl
  have t2 : own_term [a, b, c, d, e] (2 : Int32) (Int32.ofNat 0) (Int32.ofNat 5) = (c - 48) * 100 := rfl
  have b3 : own_bad [a, b, c, d, e] (3 : Int32) (Int32.ofNat 0) (Int32.ofNat 5) = if Fd d = 0 then 1 else 0 := rfl
  have t3 : own_term [a, b, c, d, e] (3 : Int32) (Int32.ofNat 0) (Int32.ofNat 5) = (d - 48) * 10 := rfl
  have b4 : own_bad [a, b, c, d, e] (4 : Int32) (Int32.ofNat 0) (Int32.ofNat 5) = if Fd e = 0 then 1 else 0 := rfl
  have t4 : own_term [a, b, c, d, e] (4 : Int32) (Int32.ofNat 0) (Int32.ofNat 5) = (e - 48) * 1 := rfl
  unfold own_E
  rw [b0, b1, b2, b3, b4, t0, t1, t2, t3, t4]
  show (if a < (48 : Int32) then (-1 : Int32) else (if (57 : Int32) < a then (-1 : Int32) else (if b < (48 : Int32) then (-1 : Int32) else (if (57 : Int32) < b then (-1 : Int32) else (if c < (48 : Int32) then (-1 : Int32) else (if (57 : Int32) < c then (-1 : Int32) else (if d < (48 : Int32) then (-1 : Int32) else (if (57 : Int32) < d then (-1 : Int32) else (if e < (48 : Int32) then (-1 : Int32) else (if (57 : Int32) < e then (-1 : Int32) else ((((((((((((((((0 : Int32) * (10 : Int32)) + a) - (48 : Int32)) * (10 : Int32)) + b) - (48 : Int32)) * (10 : Int32)) + c) - (48 : Int32)) * (10 : Int32)) + d) - (48 : Int32)) * (10 : Int32)) + e) - (48 : Int32)))))))))))) = _
  by_cases l0 : a < (48 : Int32)
  · simp [Fd, l0]
  by_cases m0 : (57 : Int32) < a
  · simp [Fd, l0, m0]
  by_cases l1 : b < (48 : Int32)
  · simp [Fd, l0, l1, m0]
  by_cases m1 : (57 : Int32) < b
  · simp [Fd, l0, l1, m0, m1]
  by_cases l2 : c < (48 : Int32)
  · simp [Fd, l0, l1, l2, m0, m1]
  by_cases m2 : (57 : Int32) < c
  · simp [Fd, l0, l1, l2, m0, m1, m2]
  by_cases l3 : d < (48 : Int32)
  · simp [Fd, l0, l1, l2, l3, m0, m1, m2]
  by_cases m3 : (57 : Int32) < d
  · simp [Fd, l0, l1, l2, l3, m0, m1, m2, m3]
  by_cases l4 : e < (48 : Int32)
  · simp [Fd, l0, l1, l2, l3, l4, m0, m1, m2, m3]
  by_cases m4 : (57 : Int32) < e
  · simp [Fd, l0, l1, l2, l3, l4, m0, m1, m2, m3, m4]
  simp only [Fd, if_neg l0, if_neg m0, if_neg l1, if_neg m1, if_neg l2, if_neg m2, if_neg l3, if_neg m3, if_neg l4, if_neg m4, if_false, if_true, reduceCtorEq, show ¬ ((1 : Int32) = 0) by decide]
  grind
theorem own_c11 (a b c d e : Int32) : own_D [a, b, c, d, e] (1 - 1) 1 0 = own_E [a, b, c, d, e] (Int32.ofNat 1) (Int32.ofNat 1) := by
  have b0 : own_bad [a, b, c, d, e] (0 : Int32) (Int32.ofNat 1) (Int32.ofNat 1) = 0 := rfl
  have t0 : own_term [a, b, c, d, e] (0 : Int32) (Int32.ofNat 1) (Int32.ofNat 1) = 0 := rfl
  have b1 : own_bad [a, b, c, d, e] (1 : Int32) (Int32.ofNat 1) (Int32.ofNat 1) = 0 := rfl
  have t1 : own_term [a, b, c, d, e] (1 : Int32) (Int32.ofNat 1) (Int32.ofNat 1) = 0 := rfl
  have b2 : own_bad [a, b, c, d, e] (2 : Int32) (Int32.ofNat 1) (Int32.ofNat 1) = 0 := rfl
  have t2 : own_term [a, b, c, d, e] (2 : Int32) (Int32.ofNat 1) (Int32.ofNat 1) = 0 := rfl
  have b3 : own_bad [a, b, c, d, e] (3 : Int32) (Int32.ofNat 1) (Int32.ofNat 1) = 0 := rfl
  have t3 : own_term [a, b, c, d, e] (3 : Int32) (Int32.ofNat 1) (Int32.ofNat 1) = 0 := rfl
  have b4 : own_bad [a, b, c, d, e] (4 : Int32) (Int32.ofNat 1) (Int32.ofNat 1) = 0 := rfl
  have t4 : own_term [a, b, c, d, e] (4 : Int32) (Int32.ofNat 1) (Int32.ofNat 1) = 0 := rfl
  unfold own_E
  rw [b0, b1, b2, b3, b4, t0, t1, t2, t3, t4]
  show (0 : Int32) = _
  rfl
theorem own_c12 (a b c d e : Int32) : own_D [a, b, c, d, e] (2 - 1) 1 0 = own_E [a, b, c, d, e] (Int32.ofNat 1) (Int32.ofNat 2) := by
  have b0 : own_bad [a, b, c, d, e] (0 : Int32) (Int32.ofNat 1) (Int32.ofNat 2) = 0 := rfl
  have t0 : own_term [a, b, c, d, e] (0 : Int32) (Int32.ofNat 1) (Int32.ofNat 2) = 0 := rfl
  have b1 : own_bad [a, b, c, d, e] (1 : Int32) (Int32.ofNat 1) (Int32.ofNat 2) = if Fd b = 0 then 1 else 0 := rfl
  have t1 : own_term [a, b, c, d, e] (1 : Int32) (Int32.ofNat 1) (Int32.ofNat 2) = (b - 48) * 1 := rfl
  have b2 : own_bad [a, b, c, d, e] (2 : Int32) (Int32.ofNat 1) (Int32.ofNat 2) = 0 := rfl
  have t2 : own_term [a, b, c, d, e] (2 : Int32) (Int32.ofNat 1) (Int32.ofNat 2) = 0 := rfl
  have b3 : own_bad [a, b, c, d, e] (3 : Int32) (Int32.ofNat 1) (Int32.ofNat 2) = 0 := rfl
  have t3 : own_term [a, b, c, d, e] (3 : Int32) (Int32.ofNat 1) (Int32.ofNat 2) = 0 := rfl
  have b4 : own_bad [a, b, c, d, e] (4 : Int32) (Int32.ofNat 1) (Int32.ofNat 2) = 0 := rfl
  have t4 : own_term [a, b, c, d, e] (4 : Int32) (Int32.ofNat 1) (Int32.ofNat 2) = 0 := rfl
  unfold own_E
  rw [b0, b1, b2, b3, b4, t0, t1, t2, t3, t4]
  show (if b < (48 : Int32) then (-1 : Int32) else (if (57 : Int32) < b then (-1 : Int32) else ((((0 : Int32) * (10 : Int32)) + b) - (48 : Int32)))) = _
  by_cases l1 : b < (48 : Int32)
  · simp [Fd, l1]
  by_cases m1 : (57 : Int32) < b
  · simp [Fd, l1, m1]
  simp only [Fd, if_neg l1, if_neg m1, if_false, if_true, reduceCtorEq, show ¬ ((1 : Int32) = 0) by decide]
  grind
theorem own_c13 (a b c d e : Int32) : own_D [a, b, c, d, e] (3 - 1) 1 0 = own_E [a, b, c, d, e] (Int32.ofNat 1) (Int32.ofNat 3) := by
  have b0 : own_bad [a, b, c, d, e] (0 : Int32) (Int32.ofNat 1) (Int32.ofNat 3) = 0 := rfl
  have t0 : own_term [a, b, c, d, e] (0 : Int32) (Int32.ofNat 1) (Int32.ofNat 3) = 0 := rfl
  have b1 : own_bad [a, b, c, d, e] (1 : Int32) (Int32.ofNat 1) (Int32.ofNat 3) = if Fd b = 0 then 1 else 0 := rfl
  have t1 : own_term [a, b, c, d, e] (1 : Int32) (Int32.ofNat 1) (Int32.ofNat 3) = (b - 48) * 10 := rfl
  have b2 : own_bad [a, b, c, d, e] (2 : Int32) (Int32.ofNat 1) (Int32.ofNat 3) = if Fd c = 0 then 1 else 0 := rfl
  have t2 : own_term [a, b, c, d, e] (2 : Int32) (Int32.ofNat 1) (Int32.ofNat 3) = (c - 48) * 1 := rfl
  have b3 : own_bad [a, b, c, d, e] (3 : Int32) (Int32.ofNat 1) (Int32.ofNat 3) = 0 := rfl
  have t3 : own_term [a, b, c, d, e] (3 : Int32) (Int32.ofNat 1) (Int32.ofNat 3) = 0 := rfl
  have b4 : own_bad [a, b, c, d, e] (4 : Int32) (Int32.ofNat 1) (Int32.ofNat 3) = 0 := rfl
  have t4 : own_term [a, b, c, d, e] (4 : Int32) (Int32.ofNat 1) (Int32.ofNat 3) = 0 := rfl
  unfold own_E
  rw [b0, b1, b2, b3, b4, t0, t1, t2, t3, t4]
  show (if b < (48 : Int32) then (-1 : Int32) else (if (57 : Int32) < b then (-1 : Int32) else (if c < (48 : Int32) then (-1 : Int32) else (if (57 : Int32) < c then (-1 : Int32) else (((((((0 : Int32) * (10 : Int32)) + b) - (48 : Int32)) * (10 : Int32)) + c) - (48 : Int32)))))) = _
  by_cases l1 : b < (48 : Int32)
  · simp [Fd, l1]
  by_cases m1 : (57 : Int32) < b
  · simp [Fd, l1, m1]
  by_cases l2 : c < (48 : Int32)
  · simp [Fd, l1, l2, m1]
  by_cases m2 : (57 : Int32) < c
  · simp [Fd, l1, l2, m1, m2]
  simp only [Fd, if_neg l1, if_neg m1, if_neg l2, if_neg m2, if_false, if_true, reduceCtorEq, show ¬ ((1 : Int32) = 0) by decide]
  grind
theorem own_c14 (a b c d e : Int32) : own_D [a, b, c, d, e] (4 - 1) 1 0 = own_E [a, b, c, d, e] (Int32.ofNat 1) (Int32.ofNat 4) := by
  have b0 : own_bad [a, b, c, d, e] (0 : Int32) (Int32.ofNat 1) (Int32.ofNat 4) = 0 := rfl
  have t0 : own_term [a, b, c, d, e] (0 : Int32) (Int32.ofNat 1) (Int32.ofNat 4) = 0 := rfl
  have b1 : own_bad [a, b, c, d, e] (1 : Int32) (Int32.ofNat 1) (Int32.ofNat 4) = if Fd b = 0 then 1 else 0 := rfl
  have t1 : own_term [a, b, c, d, e] (1 : Int32) (Int32.ofNat 1) (Int32.ofNat 4) = (b - 48) * 100 := rfl
  have b2 : own_bad [a, b, c, d, e] (2 : Int32) (Int32.ofNat 1) (Int32.ofNat 4) = if Fd c = 0 then 1 else 0 := rfl
  have t2 : own_term [a, b, c, d, e] (2 : Int32) (Int32.ofNat 1) (Int32.ofNat 4) = (c - 48) * 10 := rfl
  have b3 : own_bad [a, b, c, d, e] (3 : Int32) (Int32.ofNat 1) (Int32.ofNat 4) = if Fd d = 0 then 1 else 0 := rfl
  have t3 : own_term [a, b, c, d, e] (3 : Int32) (Int32.ofNat 1) (Int32.ofNat 4) = (d - 48) * 1 := rfl
  have b4 : own_bad [a, b, c, d, e] (4 : Int32) (Int32.ofNat 1) (Int32.ofNat 4) = 0 := rfl
  have t4 : own_term [a, b, c, d, e] (4 : Int32) (Int32.ofNat 1) (Int32.ofNat 4) = 0 := rfl
  unfold own_E
  rw [b0, b1, b2, b3, b4, t0, t1, t2, t3, t4]
  show (if b < (48 : Int32) then (-1 : Int32) else (if (57 : Int32) < b then (-1 : Int32) else (if c < (48 : Int32) then (-1 : Int32) else (if (57 : Int32) < c then (-1 : Int32) else (if d < (48 : Int32) then (-1 : Int32) else (if (57 : Int32) < d then (-1 : Int32) else ((((((((((0 : Int32) * (10 : Int32)) + b) - (48 : Int32)) * (10 : Int32)) + c) - (48 : Int32)) * (10 : Int32)) + d) - (48 : Int32)))))))) = _
  by_cases l1 : b < (48 : Int32)
  · simp [Fd, l1]
  by_cases m1 : (57 : Int32) < b
  · simp [Fd, l1, m1]
  by_cases l2 : c < (48 : Int32)
  · simp [Fd, l1, l2, m1]
  by_cases m2 : (57 : Int32) < c
  · simp [Fd, l1, l2, m1, m2]
  by_cases l3 : d < (48 : Int32)
  · simp [Fd, l1, l2, l3, m1, m2]
  by_cases m3 : (57 : Int32) < d
  · simp [Fd, l1, l2, l3, m1, m2, m3]
  simp only [Fd, if_neg l1, if_neg m1, if_neg l2, if_neg m2, if_neg l3, if_neg m3, if_false, if_true, reduceCtorEq, show ¬ ((1 : Int32) = 0) by decide]
  grind
theorem own_c15 (a b c d e : Int32) : own_D [a, b, c, d, e] (5 - 1) 1 0 = own_E [a, b, c, d, e] (Int32.ofNat 1) (Int32.ofNat 5) := by
  have b0 : own_bad [a, b, c, d, e] (0 : Int32) (Int32.ofNat 1) (Int32.ofNat 5) = 0 := rfl
  have t0 : own_term [a, b, c, d, e] (0 : Int32) (Int32.ofNat 1) (Int32.ofNat 5) = 0 := rfl
  have b1 : own_bad [a, b, c, d, e] (1 : Int32) (Int32.ofNat 1) (Int32.ofNat 5) = if Fd b = 0 then 1 else 0 := rfl
  have t1 : own_term [a, b, c, d, e] (1 : Int32) (Int32.ofNat 1) (Int32.ofNat 5) = (b - 48) * 1000 := rfl
  have b2 : own_bad [a, b, c, d, e] (2 : Int32) (Int32.ofNat 1) (Int32.ofNat 5) = if Fd c = 0 then 1 else 0 := rfl
  have t2 : own_term [a, b, c, d, e] (2 : Int32) (Int32.ofNat 1) (Int32.ofNat 5) = (c - 48) * 100 := rfl
  have b3 : own_bad [a, b, c, d, e] (3 : Int32) (Int32.ofNat 1) (Int32.ofNat 5) = if Fd d = 0 then 1 else 0 := rfl
  have t3 : own_term [a, b, c, d, e] (3 : Int32) (Int32.ofNat 1) (Int32.ofNat 5) = (d - 48) * 10 := rfl
  have b4 : own_bad [a, b, c, d, e] (4 : Int32) (Int32.ofNat 1) (Int32.ofNat 5) = if Fd e = 0 then 1 else 0 := rfl
  have t4 : own_term [a, b, c, d, e] (4 : Int32) (Int32.ofNat 1) (Int32.ofNat 5) = (e - 48) * 1 := rfl
  unfold own_E
  rw [b0, b1, b2, b3, b4, t0, t1, t2, t3, t4]
  show (if b < (48 : Int32) then (-1 : Int32) else (if (57 : Int32) < b then (-1 : Int32) else (if c < (48 : Int32) then (-1 : Int32) else (if (57 : Int32) < c then (-1 : Int32) else (if d < (48 : Int32) then (-1 : Int32) else (if (57 : Int32) < d then (-1 : Int32) else (if e < (48 : Int32) then (-1 : Int32) else (if (57 : Int32) < e then (-1 : Int32) else (((((((((((((0 : Int32) * (10 : Int32)) + b) - (48 : Int32)) * (10 : Int32)) + c) - (48 : Int32)) * (10 : Int32)) + d) - (48 : Int32)) * (10 : Int32)) + e) - (48 : Int32)))))))))) = _
  by_cases l1 : b < (48 : Int32)
  · simp [Fd, l1]
  by_cases m1 : (57 : Int32) < b
  · simp [Fd, l1, m1]
  by_cases l2 : c < (48 : Int32)
  · simp [Fd, l1, l2, m1]
  by_cases m2 : (57 : Int32) < c
  · simp [Fd, l1, l2, m1, m2]
  by_cases l3 : d < (48 : Int32)
  · simp [Fd, l1, l2, l3, m1, m2]
  by_cases m3 : (57 : Int32) < d
  · simp [Fd, l1, l2, l3, m1, m2, m3]
  by_cases l4 : e < (48 : Int32)
  · simp [Fd, l1, l2, l3, l4, m1, m2, m3]
  by_cases m4 : (57 : Int32) < e
  · simp [Fd, l1, l2, l3, l4, m1, m2, m3, m4]
  simp only [Fd, if_neg l1, if_neg m1, if_neg l2, if_neg m2, if_neg l3, if_neg m3, if_neg l4, if_neg m4, if_false, if_true, reduceCtorEq, show ¬ ((1 : Int32) = 0) by decide]
  grind
theorem own_c22 (a b c d e : Int32) : own_D [a, b, c, d, e] (2 - 2) 2 0 = own_E [a, b, c, d, e] (Int32.ofNat 2) (Int32.ofNat 2) := by
  have b0 : own_bad [a, b, c, d, e] (0 : Int32) (Int32.ofNat 2) (Int32.ofNat 2) = 0 := rfl
  have t0 : own_term [a, b, c, d, e] (0 : Int32) (Int32.ofNat 2) (Int32.ofNat 2) = 0 := rfl
  have b1 : own_bad [a, b, c, d, e] (1 : Int32) (Int32.ofNat 2) (Int32.ofNat 2) = 0 := rfl
  have t1 : own_term [a, b, c, d, e] (1 : Int32) (Int32.ofNat 2) (Int32.ofNat 2) = 0 := rfl
  have b2 : own_bad [a, b, c, d, e] (2 : Int32) (Int32.ofNat 2) (Int32.ofNat 2) = 0 := rfl
  have t2 : own_term [a, b, c, d, e] (2 : Int32) (Int32.ofNat 2) (Int32.ofNat 2) = 0 := rfl
  have b3 : own_bad [a, b, c, d, e] (3 : Int32) (Int32.ofNat 2) (Int32.ofNat 2) = 0 := rfl
  have t3 : own_term [a, b, c, d, e] (3 : Int32) (Int32.ofNat 2) (Int32.ofNat 2) = 0 := rfl
  have b4 : own_bad [a, b, c, d, e] (4 : Int32) (Int32.ofNat 2) (Int32.ofNat 2) = 0 := rfl
  have t4 : own_term [a, b, c, d, e] (4 : Int32) (Int32.ofNat 2) (Int32.ofNat 2) = 0 := rfl
  unfold own_E
  rw [b0, b1, b2, b3, b4, t0, t1, t2, t3, t4]
  show (0 : Int32) = _
  rfl
theorem own_c23 (a b c d e : Int32) : own_D [a, b, c, d, e] (3 - 2) 2 0 = own_E [a, b, c, d, e] (Int32.ofNat 2) (Int32.ofNat 3) := by
  have b0 : own_bad [a, b, c, d, e] (0 : Int32) (Int32.ofNat 2) (Int32.ofNat 3) = 0 := rfl
  have t0 : own_term [a, b, c, d, e] (0 : Int32) (Int32.ofNat 2) (Int32.ofNat 3) = 0 := rfl
  have b1 : own_bad [a, b, c, d, e] (1 : Int32) (Int32.ofNat 2) (Int32.ofNat 3) = 0 := rfl
  have t1 : own_term [a, b, c, d, e] (1 : Int32) (Int32.ofNat 2) (Int32.ofNat 3) = 0 := rfl
  have b2 : own_bad [a, b, c, d, e] (2 : Int32) (Int32.ofNat 2) (Int32.ofNat 3) = if Fd c = 0 then 1 else 0 := rfl
  have t2 : own_term [a, b, c, d, e] (2 : Int32) (Int32.ofNat 2) (Int32.ofNat 3) = (c - 48) * 1 := rfl
  have b3 : own_bad [a, b, c, d, e] (3 : Int32) (Int32.ofNat 2) (Int32.ofNat 3) = 0 := rfl
  have t3 : own_term [a, b, c, d, e] (3 : Int32) (Int32.ofNat 2) (Int32.ofNat 3) = 0 := rfl
  have b4 : own_bad [a, b, c, d, e] (4 : Int32) (Int32.ofNat 2) (Int32.ofNat 3) = 0 := rfl
  have t4 : own_term [a, b, c, d, e] (4 : Int32) (Int32.ofNat 2) (Int32.ofNat 3) = 0 := rfl
  unfold own_E
  rw [b0, b1, b2, b3, b4, t0, t1, t2, t3, t4]
  show (if c < (48 : Int32) then (-1 : Int32) else (if (57 : Int32) < c then (-1 : Int32) else ((((0 : Int32) * (10 : Int32)) + c) - (48 : Int32)))) = _
  by_cases l2 : c < (48 : Int32)
  · simp [Fd, l2]
  by_cases m2 : (57 : Int32) < c
  · simp [Fd, l2, m2]
  simp only [Fd, if_neg l2, if_neg m2, if_false, if_true, reduceCtorEq, show ¬ ((1 : Int32) = 0) by decide]
  grind
theorem own_c24 (a b c d e : Int32) : own_D [a, b, c, d, e] (4 - 2) 2 0 = own_E [a, b, c, d, e] (Int32.ofNat 2) (Int32.ofNat 4) := by
  have b0 : own_bad [a, b, c, d, e] (0 : Int32) (Int32.ofNat 2) (Int32.ofNat 4) = 0 := rfl
  have t0 : own_term [a, b, c, d, e] (0 : Int32) (Int32.ofNat 2) (Int32.ofNat 4) = 0 := rfl
  have b1 : own_bad [a, b, c, d, e] (1 : Int32) (Int32.ofNat 2) (Int32.ofNat 4) = 0 := rfl
  have t1 : own_term [a, b, c, d, e] (1 : Int32) (Int32.ofNat 2) (Int32.ofNat 4) = 0 := rfl
  have b2 : own_bad [a, b, c, d, e] (2 : Int32) (Int32.ofNat 2) (Int32.ofNat 4) = if Fd c = 0 then 1 else 0 := rfl
  have t2 : own_term [a, b, c, d, e] (2 : Int32) (Int32.ofNat 2) (Int32.ofNat 4) = (c - 48) * 10 := rfl
  have b3 : own_bad [a, b, c, d, e] (3 : Int32) (Int32.ofNat 2) (Int32.ofNat 4) = if Fd d = 0 then 1 else 0 := rfl
  have t3 : own_term [a, b, c, d, e] (3 : Int32) (Int32.ofNat 2) (Int32.ofNat 4) = (d - 48) * 1 := rfl
  have b4 : own_bad [a, b, c, d, e] (4 : Int32) (Int32.ofNat 2) (Int32.ofNat 4) = 0 := rfl
  have t4 : own_term [a, b, c, d, e] (4 : Int32) (Int32.ofNat 2) (Int32.ofNat 4) = 0 := rfl
  unfold own_E
  rw [b0, b1, b2, b3, b4, t0, t1, t2, t3, t4]
  show (if c < (48 : Int32) then (-1 : Int32) else (if (57 : Int32) < c then (-1 : Int32) else (if d < (48 : Int32) then (-1 : Int32) else (if (57 : Int32) < d then (-1 : Int32) else (((((((0 : Int32) * (10 : Int32)) + c) - (48 : Int32)) * (10 : Int32)) + d) - (48 : Int32)))))) = _
  by_cases l2 : c < (48 : Int32)
  · simp [Fd, l2]
  by_cases m2 : (57 : Int32) < c
  · simp [Fd, l2, m2]
  by_cases l3 : d < (48 : Int32)
  · simp [Fd, l2, l3, m2]
  by_cases m3 : (57 : Int32) < d
  · simp [Fd, l2, l3, m2, m3]
  simp only [Fd, if_neg l2, if_neg m2, if_neg l3, if_neg m3, if_false, if_true, reduceCtorEq, show ¬ ((1 : Int32) = 0) by decide]
  grind
theorem own_c25 (a b c d e : Int32) : own_D [a, b, c, d, e] (5 - 2) 2 0 = own_E [a, b, c, d, e] (Int32.ofNat 2) (Int32.ofNat 5) := by
  have b0 : own_bad [a, b, c, d, e] (0 : Int32) (Int32.ofNat 2) (Int32.ofNat 5) = 0 := rfl
  have t0 : own_term [a, b, c, d, e] (0 : Int32) (Int32.ofNat 2) (Int32.ofNat 5) = 0 := rfl
  have b1 : own_bad [a, b, c, d, e] (1 : Int32) (Int32.ofNat 2) (Int32.ofNat 5) = 0 := rfl
  have t1 : own_term [a, b, c, d, e] (1 : Int32) (Int32.ofNat 2) (Int32.ofNat 5) = 0 := rfl
  have b2 : own_bad [a, b, c, d, e] (2 : Int32) (Int32.ofNat 2) (Int32.ofNat 5) = if Fd c = 0 then 1 else 0 := rfl
  have t2 : own_term [a, b, c, d, e] (2 : Int32) (Int32.ofNat 2) (Int32.ofNat 5) = (c - 48) * 100 := rfl
  have b3 : own_bad [a, b, c, d, e] (3 : Int32) (Int32.ofNat 2) (Int32.ofNat 5) = if Fd d = 0 then 1 else 0 := rfl
  have t3 : own_term [a, b, c, d, e] (3 : Int32) (Int32.ofNat 2) (Int32.ofNat 5) = (d - 48) * 10 := rfl
  have b4 : own_bad [a, b, c, d, e] (4 : Int32) (Int32.ofNat 2) (Int32.ofNat 5) = if Fd e = 0 then 1 else 0 := rfl
  have t4 : own_term [a, b, c, d, e] (4 : Int32) (Int32.ofNat 2) (Int32.ofNat 5) = (e - 48) * 1 := rfl
  unfold own_E
  rw [b0, b1, b2, b3, b4, t0, t1, t2, t3, t4]
  show (if c < (48 : Int32) then (-1 : Int32) else (if (57 : Int32) < c then (-1 : Int32) else (if d < (48 : Int32) then (-1 : Int32) else (if (57 : Int32) < d then (-1 : Int32) else (if e < (48 : Int32) then (-1 : Int32) else (if (57 : Int32) < e then (-1 : Int32) else ((((((((((0 : Int32) * (10 : Int32)) + c) - (48 : Int32)) * (10 : Int32)) + d) - (48 : Int32)) * (10 : Int32)) + e) - (48 : Int32)))))))) = _
  by_cases l2 : c < (48 : Int32)
  · simp [Fd, l2]
  by_cases m2 : (57 : Int32) < c
  · simp [Fd, l2, m2]
  by_cases l3 : d < (48 : Int32)
  · simp [Fd, l2, l3, m2]
  by_cases m3 : (57 : Int32) < d
  · simp [Fd, l2, l3, m2, m3]
  by_cases l4 : e < (48 : Int32)
  · simp [Fd, l2, l3, l4, m2, m3]
  by_cases m4 : (57 : Int32) < e
  · simp [Fd, l2, l3, l4, m2, m3, m4]
  simp only [Fd, if_neg l2, if_neg m2, if_neg l3, if_neg m3, if_neg l4, if_neg m4, if_false, if_true, reduceCtorEq, show ¬ ((1 : Int32) = 0) by decide]
  grind
theorem own_c33 (a b c d e : Int32) : own_D [a, b, c, d, e] (3 - 3) 3 0 = own_E [a, b, c, d, e] (Int32.ofNat 3) (Int32.ofNat 3) := by
  have b0 : own_bad [a, b, c, d, e] (0 : Int32) (Int32.ofNat 3) (Int32.ofNat 3) = 0 := rfl
  have t0 : own_term [a, b, c, d, e] (0 : Int32) (Int32.ofNat 3) (Int32.ofNat 3) = 0 := rfl
  have b1 : own_bad [a, b, c, d, e] (1 : Int32) (Int32.ofNat 3) (Int32.ofNat 3) = 0 := rfl
  have t1 : own_term [a, b, c, d, e] (1 : Int32) (Int32.ofNat 3) (Int32.ofNat 3) = 0 := rfl
  have b2 : own_bad [a, b, c, d, e] (2 : Int32) (Int32.ofNat 3) (Int32.ofNat 3) = 0 := rfl
  have t2 : own_term [a, b, c, d, e] (2 : Int32) (Int32.ofNat 3) (Int32.ofNat 3) = 0 := rfl
  have b3 : own_bad [a, b, c, d, e] (3 : Int32) (Int32.ofNat 3) (Int32.ofNat 3) = 0 := rfl
  have t3 : own_term [a, b, c, d, e] (3 : Int32) (Int32.ofNat 3) (Int32.ofNat 3) = 0 := rfl
  have b4 : own_bad [a, b, c, d, e] (4 : Int32) (Int32.ofNat 3) (Int32.ofNat 3) = 0 := rfl
  have t4 : own_term [a, b, c, d, e] (4 : Int32) (Int32.ofNat 3) (Int32.ofNat 3) = 0 := rfl
  unfold own_E
  rw [b0, b1, b2, b3, b4, t0, t1, t2, t3, t4]
  show (0 : Int32) = _
  rfl
theorem own_c34 (a b c d e : Int32) : own_D [a, b, c, d, e] (4 - 3) 3 0 = own_E [a, b, c, d, e] (Int32.ofNat 3) (Int32.ofNat 4) := by
  have b0 : own_bad [a, b, c, d, e] (0 : Int32) (Int32.ofNat 3) (Int32.ofNat 4) = 0 := rfl
  have t0 : own_term [a, b, c, d, e] (0 : Int32) (Int32.ofNat 3) (Int32.ofNat 4) = 0 := rfl
  have b1 : own_bad [a, b, c, d, e] (1 : Int32) (Int32.ofNat 3) (Int32.ofNat 4) = 0 := rfl
  have t1 : own_term [a, b, c, d, e] (1 : Int32) (Int32.ofNat 3) (Int32.ofNat 4) = 0 := rfl
  have b2 : own_bad [a, b, c, d, e] (2 : Int32) (Int32.ofNat 3) (Int32.ofNat 4) = 0 := rfl
  have t2 : own_term [a, b, c, d, e] (2 : Int32) (Int32.ofNat 3) (Int32.ofNat 4) = 0 := rfl
  have b3 : own_bad [a, b, c, d, e] (3 : Int32) (Int32.ofNat 3) (Int32.ofNat 4) = if Fd d = 0 then 1 else 0 := rfl
  have t3 : own_term [a, b, c, d, e] (3 : Int32) (Int32.ofNat 3) (Int32.ofNat 4) = (d - 48) * 1 := rfl
  have b4 : own_bad [a, b, c, d, e] (4 : Int32) (Int32.ofNat 3) (Int32.ofNat 4) = 0 := rfl
  have t4 : own_term [a, b, c, d, e] (4 : Int32) (Int32.ofNat 3) (Int32.ofNat 4) = 0 := rfl
  unfold own_E
  rw [b0, b1, b2, b3, b4, t0, t1, t2, t3, t4]
  show (if d < (48 : Int32) then (-1 : Int32) else (if (57 : Int32) < d then (-1 : Int32) else ((((0 : Int32) * (10 : Int32)) + d) - (48 : Int32)))) = _
  by_cases l3 : d < (48 : Int32)
  · simp [Fd, l3]
  by_cases m3 : (57 : Int32) < d
  · simp [Fd, l3, m3]
  simp only [Fd, if_neg l3, if_neg m3, if_false, if_true, reduceCtorEq, show ¬ ((1 : Int32) = 0) by decide]
  grind
theorem own_c35 (a b c d e : Int32) : own_D [a, b, c, d, e] (5 - 3) 3 0 = own_E [a, b, c, d, e] (Int32.ofNat 3) (Int32.ofNat 5) := by
  have b0 : own_bad [a, b, c, d, e] (0 : Int32) (Int32.ofNat 3) (Int32.ofNat 5) = 0 := rfl
  have t0 : own_term [a, b, c, d, e] (0 : Int32) (Int32.ofNat 3) (Int32.ofNat 5) = 0 := rfl
  have b1 : own_bad [a, b, c, d, e] (1 : Int32) (Int32.ofNat 3) (Int32.ofNat 5) = 0 := rfl
  have t1 : own_term [a, b, c, d, e] (1 : Int32) (Int32.ofNat 3) (Int32.ofNat 5) = 0 := rfl
  have b2 : own_bad [a, b, c, d, e] (2 : Int32) (Int32.ofNat 3) (Int32.ofNat 5) = 0 := rfl
  have t2 : own_term [a, b, c, d, e] (2 : Int32) (Int32.ofNat 3) (Int32.ofNat 5) = 0 := rfl
  have b3 : own_bad [a, b, c, d, e] (3 : Int32) (Int32.ofNat 3) (Int32.ofNat 5) = if Fd d = 0 then 1 else 0 := rfl
  have t3 : own_term [a, b, c, d, e] (3 : Int32) (Int32.ofNat 3) (Int32.ofNat 5) = (d - 48) * 10 := rfl
  have b4 : own_bad [a, b, c, d, e] (4 : Int32) (Int32.ofNat 3) (Int32.ofNat 5) = if Fd e = 0 then 1 else 0 := rfl
  have t4 : own_term [a, b, c, d, e] (4 : Int32) (Int32.ofNat 3) (Int32.ofNat 5) = (e - 48) * 1 := rfl
  unfold own_E
  rw [b0, b1, b2, b3, b4, t0, t1, t2, t3, t4]
  show (if d < (48 : Int32) then (-1 : Int32) else (if (57 : Int32) < d then (-1 : Int32) else (if e < (48 : Int32) then (-1 : Int32) else (if (57 : Int32) < e then (-1 : Int32) else (((((((0 : Int32) * (10 : Int32)) + d) - (48 : Int32)) * (10 : Int32)) + e) - (48 : Int32)))))) = _
  by_cases l3 : d < (48 : Int32)
  · simp [Fd, l3]
  by_cases m3 : (57 : Int32) < d
  · simp [Fd, l3, m3]
  by_cases l4 : e < (48 : Int32)
  · simp [Fd, l3, l4, m3]
  by_cases m4 : (57 : Int32) < e
  · simp [Fd, l3, l4, m3, m4]
  simp only [Fd, if_neg l3, if_neg m3, if_neg l4, if_neg m4, if_false, if_true, reduceCtorEq, show ¬ ((1 : Int32) = 0) by decide]
  grind
theorem own_c44 (a b c d e : Int32) : own_D [a, b, c, d, e] (4 - 4) 4 0 = own_E [a, b, c, d, e] (Int32.ofNat 4) (Int32.ofNat 4) := by
  have b0 : own_bad [a, b, c, d, e] (0 : Int32) (Int32.ofNat 4) (Int32.ofNat 4) = 0 := rfl
  have t0 : own_term [a, b, c, d, e] (0 : Int32) (Int32.ofNat 4) (Int32.ofNat 4) = 0 := rfl
  have b1 : own_bad [a, b, c, d, e] (1 : Int32) (Int32.ofNat 4) (Int32.ofNat 4) = 0 := rfl
  have t1 : own_term [a, b, c, d, e] (1 : Int32) (Int32.ofNat 4) (Int32.ofNat 4) = 0 := rfl
  have b2 : own_bad [a, b, c, d, e] (2 : Int32) (Int32.ofNat 4) (Int32.ofNat 4) = 0 := rfl
  have t2 : own_term [a, b, c, d, e] (2 : Int32) (Int32.ofNat 4) (Int32.ofNat 4) = 0 := rfl
  have b3 : own_bad [a, b, c, d, e] (3 : Int32) (Int32.ofNat 4) (Int32.ofNat 4) = 0 := rfl
  have t3 : own_term [a, b, c, d, e] (3 : Int32) (Int32.ofNat 4) (Int32.ofNat 4) = 0 := rfl
  have b4 : own_bad [a, b, c, d, e] (4 : Int32) (Int32.ofNat 4) (Int32.ofNat 4) = 0 := rfl
  have t4 : own_term [a, b, c, d, e] (4 : Int32) (Int32.ofNat 4) (Int32.ofNat 4) = 0 := rfl
  unfold own_E
  rw [b0, b1, b2, b3, b4, t0, t1, t2, t3, t4]
  show (0 : Int32) = _
  rfl
theorem own_c45 (a b c d e : Int32) : own_D [a, b, c, d, e] (5 - 4) 4 0 = own_E [a, b, c, d, e] (Int32.ofNat 4) (Int32.ofNat 5) := by
  have b0 : own_bad [a, b, c, d, e] (0 : Int32) (Int32.ofNat 4) (Int32.ofNat 5) = 0 := rfl
  have t0 : own_term [a, b, c, d, e] (0 : Int32) (Int32.ofNat 4) (Int32.ofNat 5) = 0 := rfl
  have b1 : own_bad [a, b, c, d, e] (1 : Int32) (Int32.ofNat 4) (Int32.ofNat 5) = 0 := rfl
  have t1 : own_term [a, b, c, d, e] (1 : Int32) (Int32.ofNat 4) (Int32.ofNat 5) = 0 := rfl
  have b2 : own_bad [a, b, c, d, e] (2 : Int32) (Int32.ofNat 4) (Int32.ofNat 5) = 0 := rfl
  have t2 : own_term [a, b, c, d, e] (2 : Int32) (Int32.ofNat 4) (Int32.ofNat 5) = 0 := rfl
  have b3 : own_bad [a, b, c, d, e] (3 : Int32) (Int32.ofNat 4) (Int32.ofNat 5) = 0 := rfl
  have t3 : own_term [a, b, c, d, e] (3 : Int32) (Int32.ofNat 4) (Int32.ofNat 5) = 0 := rfl
  have b4 : own_bad [a, b, c, d, e] (4 : Int32) (Int32.ofNat 4) (Int32.ofNat 5) = if Fd e = 0 then 1 else 0 := rfl
  have t4 : own_term [a, b, c, d, e] (4 : Int32) (Int32.ofNat 4) (Int32.ofNat 5) = (e - 48) * 1 := rfl
  unfold own_E
  rw [b0, b1, b2, b3, b4, t0, t1, t2, t3, t4]
  show (if e < (48 : Int32) then (-1 : Int32) else (if (57 : Int32) < e then (-1 : Int32) else ((((0 : Int32) * (10 : Int32)) + e) - (48 : Int32)))) = _
  by_cases l4 : e < (48 : Int32)
  · simp [Fd, l4]
  by_cases m4 : (57 : Int32) < e
  · simp [Fd, l4, m4]
  simp only [Fd, if_neg l4, if_neg m4, if_false, if_true, reduceCtorEq, show ¬ ((1 : Int32) = 0) by decide]
  grind
theorem own_c55 (a b c d e : Int32) : own_D [a, b, c, d, e] (5 - 5) 5 0 = own_E [a, b, c, d, e] (Int32.ofNat 5) (Int32.ofNat 5) := by
  have b0 : own_bad [a, b, c, d, e] (0 : Int32) (Int32.ofNat 5) (Int32.ofNat 5) = 0 := rfl
  have t0 : own_term [a, b, c, d, e] (0 : Int32) (Int32.ofNat 5) (Int32.ofNat 5) = 0 := rfl
  have b1 : own_bad [a, b, c, d, e] (1 : Int32) (Int32.ofNat 5) (Int32.ofNat 5) = 0 := rfl
  have t1 : own_term [a, b, c, d, e] (1 : Int32) (Int32.ofNat 5) (Int32.ofNat 5) = 0 := rfl
  have b2 : own_bad [a, b, c, d, e] (2 : Int32) (Int32.ofNat 5) (Int32.ofNat 5) = 0 := rfl
  have t2 : own_term [a, b, c, d, e] (2 : Int32) (Int32.ofNat 5) (Int32.ofNat 5) = 0 := rfl
  have b3 : own_bad [a, b, c, d, e] (3 : Int32) (Int32.ofNat 5) (Int32.ofNat 5) = 0 := rfl
  have t3 : own_term [a, b, c, d, e] (3 : Int32) (Int32.ofNat 5) (Int32.ofNat 5) = 0 := rfl
  have b4 : own_bad [a, b, c, d, e] (4 : Int32) (Int32.ofNat 5) (Int32.ofNat 5) = 0 := rfl
  have t4 : own_term [a, b, c, d, e] (4 : Int32) (Int32.ofNat 5) (Int32.ofNat 5) = 0 := rfl
  unfold own_E
  rw [b0, b1, b2, b3, b4, t0, t1, t2, t3, t4]
  show (0 : Int32) = _
  rfl
theorem own_all (a b c d e : Int32) (f t : Nat) (h : f ≤ t) (h5 : t ≤ 5) : own_D [a, b, c, d, e] (t - f) f 0 = own_E [a, b, c, d, e] (Int32.ofNat f) (Int32.ofNat t) := by
  have ht : t = 0 ∨ t = 1 ∨ t = 2 ∨ t = 3 ∨ t = 4 ∨ t = 5 := by omega
  rcases ht with rfl | rfl | rfl | rfl | rfl | rfl
  · obtain rfl : f = 0 := by omega
    exact own_c00 a b c d e
  · have hf : f = 0 ∨ f = 1 := by omega
    rcases hf with rfl | rfl
    · exact own_c01 a b c d e
    · exact own_c11 a b c d e
  · have hf : f = 0 ∨ f = 1 ∨ f = 2 := by omega
    rcases hf with rfl | rfl | rfl
    · exact own_c02 a b c d e
    · exact own_c12 a b c d e
    · exact own_c22 a b c d e
  · have hf : f = 0 ∨ f = 1 ∨ f = 2 ∨ f = 3 := by omega
    rcases hf with rfl | rfl | rfl | rfl
    · exact own_c03 a b c d e
    · exact own_c13 a b c d e
    · exact own_c23 a b c d e
    · exact own_c33 a b c d e
  · have hf : f = 0 ∨ f = 1 ∨ f = 2 ∨ f = 3 ∨ f = 4 := by omega
    rcases hf with rfl | rfl | rfl | rfl | rfl
    · exact own_c04 a b c d e
    · exact own_c14 a b c d e
    · exact own_c24 a b c d e
    · exact own_c34 a b c d e
    · exact own_c44 a b c d e
  · have hf : f = 0 ∨ f = 1 ∨ f = 2 ∨ f = 3 ∨ f = 4 ∨ f = 5 := by omega
    rcases hf with rfl | rfl | rfl | rfl | rfl | rfl
    · exact own_c05 a b c d e
    · exact own_c15 a b c d e
    · exact own_c25 a b c d e
    · exact own_c35 a b c d e
    · exact own_c45 a b c d e
    · exact own_c55 a b c d e
theorem own_law (a b c d e : Int32) {f t : Nat} {fx tx : Int32} (h : f ≤ t) (h5 : t ≤ 5) (hfx : fx = Int32.ofNat f) (htx : tx = Int32.ofNat t) : own_D [a, b, c, d, e] (t - f) f 0 = own_E [a, b, c, d, e] fx tx := by
  subst hfx htx
  exact own_all a b c d e f t h h5
theorem own_f {r v : Int32} (hv : v = ((r &&& (7 : Int32)) - ((r &&& (7 : Int32)) / (6 : Int32)) * (6 : Int32))) : 0 ≤ v.toInt ∧ v.toInt ≤ 5 := by
  have h1 := c_and r 7 (by decide)
  have h2 := own_rem (r &&& 7) 6 h1.1 (by decide)
  rw [← hv, show (6 : Int32).toInt = 6 from rfl] at h2
  omega
theorem own_nz {r v : Int32} (hv : v = ((r &&& (7 : Int32)) - ((r &&& (7 : Int32)) / (6 : Int32)) * (6 : Int32))) : (6 : Int32) - v ≠ 0 := by
  have h := own_f hv
  intro k
  have s := c_isub 6 v
  rw [k, show (6 : Int32).toInt = 6 from rfl, show (0 : Int32).toInt = 0 from rfl] at s
  omega
theorem own_rng {r v w : Int32} (hv : v = ((r &&& (7 : Int32)) - ((r &&& (7 : Int32)) / (6 : Int32)) * (6 : Int32)))
    (hw : w = (v + ((((r.toUInt32 >>> ((3 : Int32) &&& 31).toUInt32).toInt32) &&& (7 : Int32)) - ((((r.toUInt32 >>> ((3 : Int32) &&& 31).toUInt32).toInt32) &&& (7 : Int32)) / ((6 : Int32) - v)) * ((6 : Int32) - v)))) :
    ∃ f t : Nat, f ≤ t ∧ t ≤ 5 ∧ v = Int32.ofNat f ∧ w = Int32.ofNat t := by
  have h := own_f hv
  have s := c_isub 6 v
  have rs := rng32 ((6 : Int32) - v)
  rw [show (6 : Int32).toInt = 6 from rfl] at s
  generalize (6 : Int32) - v = u at *
  generalize ((r.toUInt32 >>> ((3 : Int32) &&& 31).toUInt32).toInt32) = z at *
  have h1 := c_and z 7 (by decide)
  have h2 := own_rem (z &&& 7) u h1.1 (by omega)
  generalize ((z &&& 7) - ((z &&& 7) / u) * u) = y at *
  have h3 := Int.emod_nonneg (z &&& 7).toInt (show u.toInt ≠ 0 by omega)
  have h4 := Int.emod_lt_of_pos (z &&& 7).toInt (show 0 < u.toInt by omega)
  have a := c_iadd v y
  rw [← hw] at a
  have ra := rng32 w
  exact ⟨v.toInt.toNat, w.toInt.toNat, by omega, by omega, own_nat (by omega), own_nat (by omega)⟩

theorem pd_lIrB : parseMethodDescriptor "(I)B" = some ⟨[.int], some .byte⟩ := by decide +kernel
theorem pd_lABIIIrZ : parseMethodDescriptor "([BIII)Z" = some ⟨[(.array .byte), .int, .int, .int], some .boolean⟩ := by decide +kernel
theorem pd_lABIIIrI : parseMethodDescriptor "([BIII)I" = some ⟨[(.array .byte), .int, .int, .int], some .int⟩ := by decide +kernel
theorem pd_lABIIrI : parseMethodDescriptor "([BII)I" = some ⟨[(.array .byte), .int, .int], some .int⟩ := by decide +kernel
theorem ef_rm0 (m : MethodId) (ax : Int32) (bx : Int32) (cx : Int32) (dx : Int32) (ex : Int32) (fx : Int32)  : entryFrame m #[(.int ax), (.int bx), (.int cx), (.int dx), (.int ex), (.int fx)] maxLocals = (mkF m 0 #[.val (.int ax), .val (.int bx), .val (.int cx), .val (.int dx), .val (.int ex), .val (.int fx), .unset, .unset, .unset, .unset, .unset] []) := by first | (simp [entryFrame, mkF, argsToLocals, Value.category, maxLocals]; done) | rfl
def Q0 (Z : State) (ax bx cx dx ex fx : Int32) (h0 : Heap) (n0 : Nat) (v : Option Value) (h : Heap) (L : List Loc) : Prop := v = some (.int 1) ∧ Fr n0 L
set_option maxRecDepth 65536 in
set_option maxHeartbeats 40000000 in
theorem rm0 (l : Launch) (Z : State) (a0 : Array Value) (hw : ∀ d ∈ tables_1, d.before a0 Z = true) (ws : List Jvm.Cond) (ax bx cx dx ex fx : Int32) (h0 : Heap) (n0 : Nat) (Z0 : n0 ≤ h0.size)  :
    MetFree l x (head1 (Jvm.Cond.code x code maxLocals ret :: ws) room_1) (fun a U => a = #[(.int ax), (.int bx), (.int cx), (.int dx), (.int ex), (.int fx)] ∧ Z.Warmed39 U.vm ∧ U.heap = h0) (fun _ _ _ _ _ => True) (fun _ U o U' => ∃ v L, o = .returned v ∧ Q0 Z ax bx cx dx ex fx h0 n0 v U'.heap L ∧ FrameEnd U o U' L room_1.cells room_1.slots) := by
  refine MetFree.of_bodySF (plainFor_of_name pn_com_example_zbirka_zbirka_Iso2709ReaderDigitsPinLaw) hisR ?_
  intro p e s m args below meth c s₁ Bd hml0 hP hK
  obtain ⟨rfl, hZ, hh⟩ := hP
  have hx := Bd.exec
  have hby := Bd.bytes
  have hml : c.maxLocals = 11 := hml0
  have hown : s.vm.findClass "com/example/zbirka/zbirka/Iso2709ReaderDigitsPinLaw" = some m.cls := by have q := findClass_of_methodNamed Bd.named; exact q
  have hnm := (name_of_methodNamed Bd.named Bd.method).1
  have X0 : Stand p l e room_1 s m #[(.int ax), (.int bx), (.int cx), (.int dx), (.int ex), (.int fx)] below meth c s₁ [] 0 0 := Stand.of_body Bd
  have e0 : s₁.heap = h0 := by rw [← hh, Bd.state]; rfl
  have N0 := Fr.nil n0
  have P0 : Wy p.tables e below (s₁.setTop (entryFrame m #[(.int ax), (.int bx), (.int cx), (.int dx), (.int ex), (.int fx)] maxLocals)) (s₁.setTop (mkF m 0 #[.val (.int ax), .val (.int bx), .val (.int cx), .val (.int dx), .val (.int ex), .val (.int fx), .unset, .unset, .unset, .unset, .unset] [])) := fun t k => castTop (ef_rm0 m ax bx cx dx ex fx) k
  have P1 : Wy p.tables e below (s₁.setTop (entryFrame m #[(.int ax), (.int bx), (.int cx), (.int dx), (.int ex), (.int fx)] maxLocals)) (s₁.setTop (mkF m 1 #[.val (.int ax), .val (.int bx), .val (.int cx), .val (.int dx), .val (.int ex), .val (.int fx), .unset, .unset, .unset, .unset, .unset] [(.int (5 : Int32))])) := fun t k => P0 t (by
    show Steps p.tables e below (s₁.setTop (mkF m 0 #[.val (.int ax), .val (.int bx), .val (.int cx), .val (.int dx), .val (.int ex), .val (.int fx), .unset, .unset, .unset, .unset, .unset] [])) _
    refine XS.iconst X0.here hx rfl (hb hby at_0) ?_
    exact k)
  obtain ⟨T2, h2, k2, X2, e2, E2, A2, st2⟩ := newP X0 hx hZ (hw _ (List.mem_of_getElem? (i := 0) rfl)) e0 (g := (mkF m 1 #[.val (.int ax), .val (.int bx), .val (.int cx), .val (.int dx), .val (.int ex), .val (.int fx), .unset, .unset, .unset, .unset, .unset] [(.int (5 : Int32))])) rfl (hb hby at_1) rfl (by decide) (cap := 5) (by decide) (by decide) (by decide) (by decide)
  obtain ⟨b2, g2⟩ : ∃ z, z = h0.size := ⟨_, rfl⟩
  rw [← g2] at A2 st2
  have g_b2 : n0 ≤ b2 := Nat.le_trans Z0 (Nat.le_of_eq g2.symm)
  have z2 : n0 ≤ h2.size := Nat.le_trans Z0 E2.1
  have V2 : Arv Z h2 b2 k2 .byte (5 : Int32) [(.int (0 : Int32)), (.int (0 : Int32)), (.int (0 : Int32)), (.int (0 : Int32)), (.int (0 : Int32))] (.int (0 : Int32)) := (Arv.new A2 (by decide)).pad (pad_rep [] (.int (0 : Int32)) 5)
  have P3 : Wy p.tables e below (s₁.setTop (entryFrame m #[(.int ax), (.int bx), (.int cx), (.int dx), (.int ex), (.int fx)] maxLocals)) (T2.setTop (mkF m 3 #[.val (.int ax), .val (.int bx), .val (.int cx), .val (.int dx), .val (.int ex), .val (.int fx), .unset, .unset, .unset, .unset, .unset] [(.ref b2)])) := fun t k => P1 t (st2 _ k)
  have P4 : Wy p.tables e below (s₁.setTop (entryFrame m #[(.int ax), (.int bx), (.int cx), (.int dx), (.int ex), (.int fx)] maxLocals)) (T2.setTop (mkF m 9 #[.val (.int ax), .val (.int bx), .val (.int cx), .val (.int dx), .val (.int ex), .val (.int fx), .val (.ref b2), .unset, .unset, .unset, .unset] [(.int ax), (.int (0 : Int32)), (.ref b2)])) := fun t k => P3 t (by
    show Steps p.tables e below (T2.setTop (mkF m 3 #[.val (.int ax), .val (.int bx), .val (.int cx), .val (.int dx), .val (.int ex), .val (.int fx), .unset, .unset, .unset, .unset, .unset] [(.ref b2)])) _
    refine XS.astore X2.here hx rfl (hb hby at_3) rfl rfl (l' := #[.val (.int ax), .val (.int bx), .val (.int cx), .val (.int dx), .val (.int ex), .val (.int fx), .val (.ref b2), .unset, .unset, .unset, .unset]) rfl ?_
    show Steps p.tables e below (T2.setTop (mkF m 5 #[.val (.int ax), .val (.int bx), .val (.int cx), .val (.int dx), .val (.int ex), .val (.int fx), .val (.ref b2), .unset, .unset, .unset, .unset] [])) _
    refine XS.aload X2.here hx rfl (hb hby at_5) rfl rfl  ?_
    show Steps p.tables e below (T2.setTop (mkF m 7 #[.val (.int ax), .val (.int bx), .val (.int cx), .val (.int dx), .val (.int ex), .val (.int fx), .val (.ref b2), .unset, .unset, .unset, .unset] [(.ref b2)])) _
    refine XS.iconst X2.here hx rfl (hb hby at_7) ?_
    show Steps p.tables e below (T2.setTop (mkF m 8 #[.val (.int ax), .val (.int bx), .val (.int cx), .val (.int dx), .val (.int ex), .val (.int fx), .val (.ref b2), .unset, .unset, .unset, .unset] [(.int (0 : Int32)), (.ref b2)])) _
    refine XS.iloadN X2.here hx rfl (hb hby at_8) rfl  ?_
    exact k)
  obtain ⟨_, _, ⟨T5, L5, k5, n5⟩, -, X5, ⟨Lc5, hQ5, l5, y5, z5⟩, st5⟩ := Jvm.LawKit.callS X2 hx (y := (⟨"com/example/zbirka/zbirka/Iso2709ReaderDigitsPinLaw", "mk", "(I)B"⟩ : MethodName)) hown (mvT hZ (hw _ (List.mem_of_getElem? (i := 1) rfl))) (mvT hZ (hw _ (List.mem_of_getElem? (i := 2) rfl))) (mvT hZ (hw _ (List.mem_of_getElem? (i := 3) rfl))) (mvT hZ (hw _ (List.mem_of_getElem? (i := 4) rfl))) (by decide) (backOf (W := 2) (rm1 l Z a0 hw [] ax h2 n0 z2 ) hZ (hw _ (List.mem_of_getElem? (i := 4) rfl)) (hw _ (List.mem_of_getElem? (i := 3) rfl)) (by decide) (by decide)) (g := (mkF m 9 #[.val (.int ax), .val (.int bx), .val (.int cx), .val (.int dx), .val (.int ex), .val (.int fx), .val (.ref b2), .unset, .unset, .unset, .unset] [(.int ax), (.int (0 : Int32)), (.ref b2)])) rfl (by rw [hml]; rfl) (argsL := [(.int ax)]) (rest := [(.int (0 : Int32)), (.ref b2)]) (lenOf pd_lIrB rfl) rfl (by show 2 * 0 + _ ≤ _; exact Nat.le_of_eq rfl) (hb hby at_9) (fun _ _ => ⟨rfl, e2, (by decide : 1 + 0 ≤ _), (by decide : 5 + 0 ≤ _)⟩)
  dsimp only [Pt.U, Pt.locs, Pt.cells, Pt.slots] at X5 l5 y5 z5 st5 hQ5
  subst l5 y5 z5
  obtain ⟨rfl, N5q, e5⟩ := hQ5
  have N5 := Fr.app N0 N5q
  have P6 : Wy p.tables e below (s₁.setTop (entryFrame m #[(.int ax), (.int bx), (.int cx), (.int dx), (.int ex), (.int fx)] maxLocals)) (T5.setTop (mkF m 12 #[.val (.int ax), .val (.int bx), .val (.int cx), .val (.int dx), .val (.int ex), .val (.int fx), .val (.ref b2), .unset, .unset, .unset, .unset] [(.int (Fmk ax)), (.int (0 : Int32)), (.ref b2)])) := fun t k => P4 t (st5 _ k)
  obtain ⟨cl7, Ar7, q7, S7, M7, H7, G7⟩ := id V2
  obtain ⟨T7, h7, X7, e7, W7, st7⟩ := stB X5 hx hZ e5 Ar7 (j := (0 : Int32)) (inb_of S7 ⟨by decide, by decide⟩) (g := (mkF m 12 #[.val (.int ax), .val (.int bx), .val (.int cx), .val (.int dx), .val (.int ex), .val (.int fx), .val (.ref b2), .unset, .unset, .unset, .unset] [(.int (Fmk ax)), (.int (0 : Int32)), (.ref b2)])) rfl rfl (hb hby at_12)
  have V7 : Arv Z h7 b2 k2 .byte (5 : Int32) [(.int ((Fmk ax).toInt8.toInt32)), (.int (0 : Int32)), (.int (0 : Int32)), (.int (0 : Int32)), (.int (0 : Int32))] (.int (0 : Int32)) := Arv.set Ar7 q7 S7 M7 H7 G7 (fits_nar_byte _) W7 0 rfl (Nat.le_of_ble_eq_true rfl)
  have N7 := Fr.snoc X7 N5 g_b2
  have z7 : n0 ≤ h7.size := Nat.le_trans z2 (Keep.of_wr W7).1
  have P8 : Wy p.tables e below (s₁.setTop (entryFrame m #[(.int ax), (.int bx), (.int cx), (.int dx), (.int ex), (.int fx)] maxLocals)) (T7.setTop (mkF m 13 #[.val (.int ax), .val (.int bx), .val (.int cx), .val (.int dx), .val (.int ex), .val (.int fx), .val (.ref b2), .unset, .unset, .unset, .unset] [])) := fun t k => P6 t (st7 _ k)
  have P9 : Wy p.tables e below (s₁.setTop (entryFrame m #[(.int ax), (.int bx), (.int cx), (.int dx), (.int ex), (.int fx)] maxLocals)) (T7.setTop (mkF m 17 #[.val (.int ax), .val (.int bx), .val (.int cx), .val (.int dx), .val (.int ex), .val (.int fx), .val (.ref b2), .unset, .unset, .unset, .unset] [(.int bx), (.int (1 : Int32)), (.ref b2)])) := fun t k => P8 t (by
    show Steps p.tables e below (T7.setTop (mkF m 13 #[.val (.int ax), .val (.int bx), .val (.int cx), .val (.int dx), .val (.int ex), .val (.int fx), .val (.ref b2), .unset, .unset, .unset, .unset] [])) _
    refine XS.aload X7.here hx rfl (hb hby at_13) rfl rfl  ?_
    show Steps p.tables e below (T7.setTop (mkF m 15 #[.val (.int ax), .val (.int bx), .val (.int cx), .val (.int dx), .val (.int ex), .val (.int fx), .val (.ref b2), .unset, .unset, .unset, .unset] [(.ref b2)])) _
    refine XS.iconst X7.here hx rfl (hb hby at_15) ?_
    show Steps p.tables e below (T7.setTop (mkF m 16 #[.val (.int ax), .val (.int bx), .val (.int cx), .val (.int dx), .val (.int ex), .val (.int fx), .val (.ref b2), .unset, .unset, .unset, .unset] [(.int (1 : Int32)), (.ref b2)])) _
    refine XS.iloadN X7.here hx rfl (hb hby at_16) rfl  ?_
    exact k)
  obtain ⟨_, _, ⟨T10, L10, k10, n10⟩, -, X10, ⟨Lc10, hQ10, l10, y10, z10⟩, st10⟩ := Jvm.LawKit.callS X7 hx (y := (⟨"com/example/zbirka/zbirka/Iso2709ReaderDigitsPinLaw", "mk", "(I)B"⟩ : MethodName)) hown (mvT hZ (hw _ (List.mem_of_getElem? (i := 1) rfl))) (mvT hZ (hw _ (List.mem_of_getElem? (i := 2) rfl))) (mvT hZ (hw _ (List.mem_of_getElem? (i := 3) rfl))) (mvT hZ (hw _ (List.mem_of_getElem? (i := 4) rfl))) (by decide) (backOf (W := 2) (rm1 l Z a0 hw [] bx h7 n0 z7 ) hZ (hw _ (List.mem_of_getElem? (i := 4) rfl)) (hw _ (List.mem_of_getElem? (i := 3) rfl)) (by decide) (by decide)) (g := (mkF m 17 #[.val (.int ax), .val (.int bx), .val (.int cx), .val (.int dx), .val (.int ex), .val (.int fx), .val (.ref b2), .unset, .unset, .unset, .unset] [(.int bx), (.int (1 : Int32)), (.ref b2)])) rfl (by rw [hml]; rfl) (argsL := [(.int bx)]) (rest := [(.int (1 : Int32)), (.ref b2)]) (lenOf pd_lIrB rfl) rfl (by show 2 * 0 + _ ≤ _; exact Nat.le_of_eq rfl) (hb hby at_17) (fun _ _ => ⟨rfl, e7, (by decide : 1 + 0 ≤ _), (by decide : 5 + 0 ≤ _)⟩)
  dsimp only [Pt.U, Pt.locs, Pt.cells, Pt.slots] at X10 l10 y10 z10 st10 hQ10
  subst l10 y10 z10
  obtain ⟨rfl, N10q, e10⟩ := hQ10
  have N10 := Fr.app N7 N10q
  have P11 : Wy p.tables e below (s₁.setTop (entryFrame m #[(.int ax), (.int bx), (.int cx), (.int dx), (.int ex), (.int fx)] maxLocals)) (T10.setTop (mkF m 20 #[.val (.int ax), .val (.int bx), .val (.int cx), .val (.int dx), .val (.int ex), .val (.int fx), .val (.ref b2), .unset, .unset, .unset, .unset] [(.int (Fmk bx)), (.int (1 : Int32)), (.ref b2)])) := fun t k => P9 t (st10 _ k)
  obtain ⟨cl12, Ar12, q12, S12, M12, H12, G12⟩ := id V7
  obtain ⟨T12, h12, X12, e12, W12, st12⟩ := stB X10 hx hZ e10 Ar12 (j := (1 : Int32)) (inb_of S12 ⟨by decide, by decide⟩) (g := (mkF m 20 #[.val (.int ax), .val (.int bx), .val (.int cx), .val (.int dx), .val (.int ex), .val (.int fx), .val (.ref b2), .unset, .unset, .unset, .unset] [(.int (Fmk bx)), (.int (1 : Int32)), (.ref b2)])) rfl rfl (hb hby at_20)
  have V12 : Arv Z h12 b2 k2 .byte (5 : Int32) [(.int ((Fmk ax).toInt8.toInt32)), (.int ((Fmk bx).toInt8.toInt32)), (.int (0 : Int32)), (.int (0 : Int32)), (.int (0 : Int32))] (.int (0 : Int32)) := Arv.set Ar12 q12 S12 M12 H12 G12 (fits_nar_byte _) W12 1 rfl (Nat.le_of_ble_eq_true rfl)
  have N12 := Fr.snoc X12 N10 g_b2
  have z12 : n0 ≤ h12.size := Nat.le_trans z7 (Keep.of_wr W12).1
  have P13 : Wy p.tables e below (s₁.setTop (entryFrame m #[(.int ax), (.int bx), (.int cx), (.int dx), (.int ex), (.int fx)] maxLocals)) (T12.setTop (mkF m 21 #[.val (.int ax), .val (.int bx), .val (.int cx), .val (.int dx), .val (.int ex), .val (.int fx), .val (.ref b2), .unset, .unset, .unset, .unset] [])) := fun t k => P11 t (st12 _ k)
  have P14 : Wy p.tables e below (s₁.setTop (entryFrame m #[(.int ax), (.int bx), (.int cx), (.int dx), (.int ex), (.int fx)] maxLocals)) (T12.setTop (mkF m 25 #[.val (.int ax), .val (.int bx), .val (.int cx), .val (.int dx), .val (.int ex), .val (.int fx), .val (.ref b2), .unset, .unset, .unset, .unset] [(.int cx), (.int (2 : Int32)), (.ref b2)])) := fun t k => P13 t (by
    show Steps p.tables e below (T12.setTop (mkF m 21 #[.val (.int ax), .val (.int bx), .val (.int cx), .val (.int dx), .val (.int ex), .val (.int fx), .val (.ref b2), .unset, .unset, .unset, .unset] [])) _
    refine XS.aload X12.here hx rfl (hb hby at_21) rfl rfl  ?_
    show Steps p.tables e below (T12.setTop (mkF m 23 #[.val (.int ax), .val (.int bx), .val (.int cx), .val (.int dx), .val (.int ex), .val (.int fx), .val (.ref b2), .unset, .unset, .unset, .unset] [(.ref b2)])) _
    refine XS.iconst X12.here hx rfl (hb hby at_23) ?_
    show Steps p.tables e below (T12.setTop (mkF m 24 #[.val (.int ax), .val (.int bx), .val (.int cx), .val (.int dx), .val (.int ex), .val (.int fx), .val (.ref b2), .unset, .unset, .unset, .unset] [(.int (2 : Int32)), (.ref b2)])) _
    refine XS.iloadN X12.here hx rfl (hb hby at_24) rfl  ?_
    exact k)
  obtain ⟨_, _, ⟨T15, L15, k15, n15⟩, -, X15, ⟨Lc15, hQ15, l15, y15, z15⟩, st15⟩ := Jvm.LawKit.callS X12 hx (y := (⟨"com/example/zbirka/zbirka/Iso2709ReaderDigitsPinLaw", "mk", "(I)B"⟩ : MethodName)) hown (mvT hZ (hw _ (List.mem_of_getElem? (i := 1) rfl))) (mvT hZ (hw _ (List.mem_of_getElem? (i := 2) rfl))) (mvT hZ (hw _ (List.mem_of_getElem? (i := 3) rfl))) (mvT hZ (hw _ (List.mem_of_getElem? (i := 4) rfl))) (by decide) (backOf (W := 2) (rm1 l Z a0 hw [] cx h12 n0 z12 ) hZ (hw _ (List.mem_of_getElem? (i := 4) rfl)) (hw _ (List.mem_of_getElem? (i := 3) rfl)) (by decide) (by decide)) (g := (mkF m 25 #[.val (.int ax), .val (.int bx), .val (.int cx), .val (.int dx), .val (.int ex), .val (.int fx), .val (.ref b2), .unset, .unset, .unset, .unset] [(.int cx), (.int (2 : Int32)), (.ref b2)])) rfl (by rw [hml]; rfl) (argsL := [(.int cx)]) (rest := [(.int (2 : Int32)), (.ref b2)]) (lenOf pd_lIrB rfl) rfl (by show 2 * 0 + _ ≤ _; exact Nat.le_of_eq rfl) (hb hby at_25) (fun _ _ => ⟨rfl, e12, (by decide : 1 + 0 ≤ _), (by decide : 5 + 0 ≤ _)⟩)
  dsimp only [Pt.U, Pt.locs, Pt.cells, Pt.slots] at X15 l15 y15 z15 st15 hQ15
  subst l15 y15 z15
  obtain ⟨rfl, N15q, e15⟩ := hQ15
  have N15 := Fr.app N12 N15q
  have P16 : Wy p.tables e below (s₁.setTop (entryFrame m #[(.int ax), (.int bx), (.int cx), (.int dx), (.int ex), (.int fx)] maxLocals)) (T15.setTop (mkF m 28 #[.val (.int ax), .val (.int bx), .val (.int cx), .val (.int dx), .val (.int ex), .val (.int fx), .val (.ref b2), .unset, .unset, .unset, .unset] [(.int (Fmk cx)), (.int (2 : Int32)), (.ref b2)])) := fun t k => P14 t (st15 _ k)
  obtain ⟨cl17, Ar17, q17, S17, M17, H17, G17⟩ := id V12
  obtain ⟨T17, h17, X17, e17, W17, st17⟩ := stB X15 hx hZ e15 Ar17 (j := (2 : Int32)) (inb_of S17 ⟨by decide, by decide⟩) (g := (mkF m 28 #[.val (.int ax), .val (.int bx), .val (.int cx), .val (.int dx), .val (.int ex), .val (.int fx), .val (.ref b2), .unset, .unset, .unset, .unset] [(.int (Fmk cx)), (.int (2 : Int32)), (.ref b2)])) rfl rfl (hb hby at_28)
  have V17 : Arv Z h17 b2 k2 .byte (5 : Int32) [(.int ((Fmk ax).toInt8.toInt32)), (.int ((Fmk bx).toInt8.toInt32)), (.int ((Fmk cx).toInt8.toInt32)), (.int (0 : Int32)), (.int (0 : Int32))] (.int (0 : Int32)) := Arv.set Ar17 q17 S17 M17 H17 G17 (fits_nar_byte _) W17 2 rfl (Nat.le_of_ble_eq_true rfl)
  have N17 := Fr.snoc X17 N15 g_b2
  have z17 : n0 ≤ h17.size := Nat.le_trans z12 (Keep.of_wr W17).1
  have P18 : Wy p.tables e below (s₁.setTop (entryFrame m #[(.int ax), (.int bx), (.int cx), (.int dx), (.int ex), (.int fx)] maxLocals)) (T17.setTop (mkF m 29 #[.val (.int ax), .val (.int bx), .val (.int cx), .val (.int dx), .val (.int ex), .val (.int fx), .val (.ref b2), .unset, .unset, .unset, .unset] [])) := fun t k => P16 t (st17 _ k)
  have P19 : Wy p.tables e below (s₁.setTop (entryFrame m #[(.int ax), (.int bx), (.int cx), (.int dx), (.int ex), (.int fx)] maxLocals)) (T17.setTop (mkF m 33 #[.val (.int ax), .val (.int bx), .val (.int cx), .val (.int dx), .val (.int ex), .val (.int fx), .val (.ref b2), .unset, .unset, .unset, .unset] [(.int dx), (.int (3 : Int32)), (.ref b2)])) := fun t k => P18 t (by
    show Steps p.tables e below (T17.setTop (mkF m 29 #[.val (.int ax), .val (.int bx), .val (.int cx), .val (.int dx), .val (.int ex), .val (.int fx), .val (.ref b2), .unset, .unset, .unset, .unset] [])) _
    refine XS.aload X17.here hx rfl (hb hby at_29) rfl rfl  ?_
    show Steps p.tables e below (T17.setTop (mkF m 31 #[.val (.int ax), .val (.int bx), .val (.int cx), .val (.int dx), .val (.int ex), .val (.int fx), .val (.ref b2), .unset, .unset, .unset, .unset] [(.ref b2)])) _
    refine XS.iconst X17.here hx rfl (hb hby at_31) ?_
    show Steps p.tables e below (T17.setTop (mkF m 32 #[.val (.int ax), .val (.int bx), .val (.int cx), .val (.int dx), .val (.int ex), .val (.int fx), .val (.ref b2), .unset, .unset, .unset, .unset] [(.int (3 : Int32)), (.ref b2)])) _
    refine XS.iloadN X17.here hx rfl (hb hby at_32) rfl  ?_
    exact k)
  obtain ⟨_, _, ⟨T20, L20, k20, n20⟩, -, X20, ⟨Lc20, hQ20, l20, y20, z20⟩, st20⟩ := Jvm.LawKit.callS X17 hx (y := (⟨"com/example/zbirka/zbirka/Iso2709ReaderDigitsPinLaw", "mk", "(I)B"⟩ : MethodName)) hown (mvT hZ (hw _ (List.mem_of_getElem? (i := 1) rfl))) (mvT hZ (hw _ (List.mem_of_getElem? (i := 2) rfl))) (mvT hZ (hw _ (List.mem_of_getElem? (i := 3) rfl))) (mvT hZ (hw _ (List.mem_of_getElem? (i := 4) rfl))) (by decide) (backOf (W := 2) (rm1 l Z a0 hw [] dx h17 n0 z17 ) hZ (hw _ (List.mem_of_getElem? (i := 4) rfl)) (hw _ (List.mem_of_getElem? (i := 3) rfl)) (by decide) (by decide)) (g := (mkF m 33 #[.val (.int ax), .val (.int bx), .val (.int cx), .val (.int dx), .val (.int ex), .val (.int fx), .val (.ref b2), .unset, .unset, .unset, .unset] [(.int dx), (.int (3 : Int32)), (.ref b2)])) rfl (by rw [hml]; rfl) (argsL := [(.int dx)]) (rest := [(.int (3 : Int32)), (.ref b2)]) (lenOf pd_lIrB rfl) rfl (by show 2 * 0 + _ ≤ _; exact Nat.le_of_eq rfl) (hb hby at_33) (fun _ _ => ⟨rfl, e17, (by decide : 1 + 0 ≤ _), (by decide : 5 + 0 ≤ _)⟩)
  dsimp only [Pt.U, Pt.locs, Pt.cells, Pt.slots] at X20 l20 y20 z20 st20 hQ20
  subst l20 y20 z20
  obtain ⟨rfl, N20q, e20⟩ := hQ20
  have N20 := Fr.app N17 N20q
  have P21 : Wy p.tables e below (s₁.setTop (entryFrame m #[(.int ax), (.int bx), (.int cx), (.int dx), (.int ex), (.int fx)] maxLocals)) (T20.setTop (mkF m 36 #[.val (.int ax), .val (.int bx), .val (.int cx), .val (.int dx), .val (.int ex), .val (.int fx), .val (.ref b2), .unset, .unset, .unset, .unset] [(.int (Fmk dx)), (.int (3 : Int32)), (.ref b2)])) := fun t k => P19 t (st20 _ k)
  obtain ⟨cl22, Ar22, q22, S22, M22, H22, G22⟩ := id V17
  obtain ⟨T22, h22, X22, e22, W22, st22⟩ := stB X20 hx hZ e20 Ar22 (j := (3 : Int32)) (inb_of S22 ⟨by decide, by decide⟩) (g := (mkF m 36 #[.val (.int ax), .val (.int bx), .val (.int cx), .val (.int dx), .val (.int ex), .val (.int fx), .val (.ref b2), .unset, .unset, .unset, .unset] [(.int (Fmk dx)), (.int (3 : Int32)), (.ref b2)])) rfl rfl (hb hby at_36)
  have V22 : Arv Z h22 b2 k2 .byte (5 : Int32) [(.int ((Fmk ax).toInt8.toInt32)), (.int ((Fmk bx).toInt8.toInt32)), (.int ((Fmk cx).toInt8.toInt32)), (.int ((Fmk dx).toInt8.toInt32)), (.int (0 : Int32))] (.int (0 : Int32)) := Arv.set Ar22 q22 S22 M22 H22 G22 (fits_nar_byte _) W22 3 rfl (Nat.le_of_ble_eq_true rfl)
  have N22 := Fr.snoc X22 N20 g_b2
  have z22 : n0 ≤ h22.size := Nat.le_trans z17 (Keep.of_wr W22).1
  have P23 : Wy p.tables e below (s₁.setTop (entryFrame m #[(.int ax), (.int bx), (.int cx), (.int dx), (.int ex), (.int fx)] maxLocals)) (T22.setTop (mkF m 37 #[.val (.int ax), .val (.int bx), .val (.int cx), .val (.int dx), .val (.int ex), .val (.int fx), .val (.ref b2), .unset, .unset, .unset, .unset] [])) := fun t k => P21 t (st22 _ k)
  have P24 : Wy p.tables e below (s₁.setTop (entryFrame m #[(.int ax), (.int bx), (.int cx), (.int dx), (.int ex), (.int fx)] maxLocals)) (T22.setTop (mkF m 42 #[.val (.int ax), .val (.int bx), .val (.int cx), .val (.int dx), .val (.int ex), .val (.int fx), .val (.ref b2), .unset, .unset, .unset, .unset] [(.int ex), (.int (4 : Int32)), (.ref b2)])) := fun t k => P23 t (by
    show Steps p.tables e below (T22.setTop (mkF m 37 #[.val (.int ax), .val (.int bx), .val (.int cx), .val (.int dx), .val (.int ex), .val (.int fx), .val (.ref b2), .unset, .unset, .unset, .unset] [])) _
    refine XS.aload X22.here hx rfl (hb hby at_37) rfl rfl  ?_
    show Steps p.tables e below (T22.setTop (mkF m 39 #[.val (.int ax), .val (.int bx), .val (.int cx), .val (.int dx), .val (.int ex), .val (.int fx), .val (.ref b2), .unset, .unset, .unset, .unset] [(.ref b2)])) _
    refine XS.iconst X22.here hx rfl (hb hby at_39) ?_
    show Steps p.tables e below (T22.setTop (mkF m 40 #[.val (.int ax), .val (.int bx), .val (.int cx), .val (.int dx), .val (.int ex), .val (.int fx), .val (.ref b2), .unset, .unset, .unset, .unset] [(.int (4 : Int32)), (.ref b2)])) _
    refine XS.iload X22.here hx rfl (hb hby at_40) rfl  ?_
    exact k)
  obtain ⟨_, _, ⟨T25, L25, k25, n25⟩, -, X25, ⟨Lc25, hQ25, l25, y25, z25⟩, st25⟩ := Jvm.LawKit.callS X22 hx (y := (⟨"com/example/zbirka/zbirka/Iso2709ReaderDigitsPinLaw", "mk", "(I)B"⟩ : MethodName)) hown (mvT hZ (hw _ (List.mem_of_getElem? (i := 1) rfl))) (mvT hZ (hw _ (List.mem_of_getElem? (i := 2) rfl))) (mvT hZ (hw _ (List.mem_of_getElem? (i := 3) rfl))) (mvT hZ (hw _ (List.mem_of_getElem? (i := 4) rfl))) (by decide) (backOf (W := 2) (rm1 l Z a0 hw [] ex h22 n0 z22 ) hZ (hw _ (List.mem_of_getElem? (i := 4) rfl)) (hw _ (List.mem_of_getElem? (i := 3) rfl)) (by decide) (by decide)) (g := (mkF m 42 #[.val (.int ax), .val (.int bx), .val (.int cx), .val (.int dx), .val (.int ex), .val (.int fx), .val (.ref b2), .unset, .unset, .unset, .unset] [(.int ex), (.int (4 : Int32)), (.ref b2)])) rfl (by rw [hml]; rfl) (argsL := [(.int ex)]) (rest := [(.int (4 : Int32)), (.ref b2)]) (lenOf pd_lIrB rfl) rfl (by show 2 * 0 + _ ≤ _; exact Nat.le_of_eq rfl) (hb hby at_42) (fun _ _ => ⟨rfl, e22, (by decide : 1 + 0 ≤ _), (by decide : 5 + 0 ≤ _)⟩)
  dsimp only [Pt.U, Pt.locs, Pt.cells, Pt.slots] at X25 l25 y25 z25 st25 hQ25
  subst l25 y25 z25
  obtain ⟨rfl, N25q, e25⟩ := hQ25
  have N25 := Fr.app N22 N25q
  have P26 : Wy p.tables e below (s₁.setTop (entryFrame m #[(.int ax), (.int bx), (.int cx), (.int dx), (.int ex), (.int fx)] maxLocals)) (T25.setTop (mkF m 45 #[.val (.int ax), .val (.int bx), .val (.int cx), .val (.int dx), .val (.int ex), .val (.int fx), .val (.ref b2), .unset, .unset, .unset, .unset] [(.int (Fmk ex)), (.int (4 : Int32)), (.ref b2)])) := fun t k => P24 t (st25 _ k)
  obtain ⟨cl27, Ar27, q27, S27, M27, H27, G27⟩ := id V22
  obtain ⟨T27, h27, X27, e27, W27, st27⟩ := stB X25 hx hZ e25 Ar27 (j := (4 : Int32)) (inb_of S27 ⟨by decide, by decide⟩) (g := (mkF m 45 #[.val (.int ax), .val (.int bx), .val (.int cx), .val (.int dx), .val (.int ex), .val (.int fx), .val (.ref b2), .unset, .unset, .unset, .unset] [(.int (Fmk ex)), (.int (4 : Int32)), (.ref b2)])) rfl rfl (hb hby at_45)
  have V27 : Arv Z h27 b2 k2 .byte (5 : Int32) [(.int ((Fmk ax).toInt8.toInt32)), (.int ((Fmk bx).toInt8.toInt32)), (.int ((Fmk cx).toInt8.toInt32)), (.int ((Fmk dx).toInt8.toInt32)), (.int ((Fmk ex).toInt8.toInt32))] (.int (0 : Int32)) := Arv.set Ar27 q27 S27 M27 H27 G27 (fits_nar_byte _) W27 4 rfl (Nat.le_of_ble_eq_true rfl)
  have N27 := Fr.snoc X27 N25 g_b2
  have z27 : n0 ≤ h27.size := Nat.le_trans z22 (Keep.of_wr W27).1
  have P28 : Wy p.tables e below (s₁.setTop (entryFrame m #[(.int ax), (.int bx), (.int cx), (.int dx), (.int ex), (.int fx)] maxLocals)) (T27.setTop (mkF m 46 #[.val (.int ax), .val (.int bx), .val (.int cx), .val (.int dx), .val (.int ex), .val (.int fx), .val (.ref b2), .unset, .unset, .unset, .unset] [])) := fun t k => P26 t (st27 _ k)
  have P29 : Wy p.tables e below (s₁.setTop (entryFrame m #[(.int ax), (.int bx), (.int cx), (.int dx), (.int ex), (.int fx)] maxLocals)) (T27.setTop (mkF m 56 #[.val (.int ax), .val (.int bx), .val (.int cx), .val (.int dx), .val (.int ex), .val (.int fx), .val (.ref b2), .val (.int ((fx &&& (7 : Int32)) - ((fx &&& (7 : Int32)) / (6 : Int32)) * (6 : Int32))), .unset, .unset, .unset] [])) := fun t k => P28 t (by
    show Steps p.tables e below (T27.setTop (mkF m 46 #[.val (.int ax), .val (.int bx), .val (.int cx), .val (.int dx), .val (.int ex), .val (.int fx), .val (.ref b2), .unset, .unset, .unset, .unset] [])) _
    refine XS.iload X27.here hx rfl (hb hby at_46) rfl  ?_
    show Steps p.tables e below (T27.setTop (mkF m 48 #[.val (.int ax), .val (.int bx), .val (.int cx), .val (.int dx), .val (.int ex), .val (.int fx), .val (.ref b2), .unset, .unset, .unset, .unset] [(.int fx)])) _
    refine XS.bipush X27.here hx rfl (hb hby at_48) ?_
    show Steps p.tables e below (T27.setTop (mkF m 50 #[.val (.int ax), .val (.int bx), .val (.int cx), .val (.int dx), .val (.int ex), .val (.int fx), .val (.ref b2), .unset, .unset, .unset, .unset] [(.int (7 : Int32)), (.int fx)])) _
    refine XS.iand X27.here hx rfl (hb hby at_50) rfl ?_
    show Steps p.tables e below (T27.setTop (mkF m 51 #[.val (.int ax), .val (.int bx), .val (.int cx), .val (.int dx), .val (.int ex), .val (.int fx), .val (.ref b2), .unset, .unset, .unset, .unset] [(.int (fx &&& (7 : Int32)))])) _
    refine XS.bipush X27.here hx rfl (hb hby at_51) ?_
    show Steps p.tables e below (T27.setTop (mkF m 53 #[.val (.int ax), .val (.int bx), .val (.int cx), .val (.int dx), .val (.int ex), .val (.int fx), .val (.ref b2), .unset, .unset, .unset, .unset] [(.int (6 : Int32)), (.int (fx &&& (7 : Int32)))])) _
    refine XS.irem X27.here hx rfl (hb hby at_53) rfl (by decide) ?_
    show Steps p.tables e below (T27.setTop (mkF m 54 #[.val (.int ax), .val (.int bx), .val (.int cx), .val (.int dx), .val (.int ex), .val (.int fx), .val (.ref b2), .unset, .unset, .unset, .unset] [(.int ((fx &&& (7 : Int32)) - ((fx &&& (7 : Int32)) / (6 : Int32)) * (6 : Int32)))])) _
    refine XS.istore X27.here hx rfl (hb hby at_54) rfl (l' := #[.val (.int ax), .val (.int bx), .val (.int cx), .val (.int dx), .val (.int ex), .val (.int fx), .val (.ref b2), .val (.int ((fx &&& (7 : Int32)) - ((fx &&& (7 : Int32)) / (6 : Int32)) * (6 : Int32))), .unset, .unset, .unset]) rfl ?_
    exact k)
  obtain ⟨v30, hv30⟩ : ∃ z : Int32, z = ((fx &&& (7 : Int32)) - ((fx &&& (7 : Int32)) / (6 : Int32)) * (6 : Int32)) := ⟨_, rfl⟩
  have P31 : Wy p.tables e below (s₁.setTop (entryFrame m #[(.int ax), (.int bx), (.int cx), (.int dx), (.int ex), (.int fx)] maxLocals)) (T27.setTop (mkF m 56 #[.val (.int ax), .val (.int bx), .val (.int cx), .val (.int dx), .val (.int ex), .val (.int fx), .val (.ref b2), .val (.int v30), .unset, .unset, .unset] [])) := fun t k => by subst hv30; exact P29 t k
  have P32 : Wy p.tables e below (s₁.setTop (entryFrame m #[(.int ax), (.int bx), (.int cx), (.int dx), (.int ex), (.int fx)] maxLocals)) (T27.setTop (mkF m 74 #[.val (.int ax), .val (.int bx), .val (.int cx), .val (.int dx), .val (.int ex), .val (.int fx), .val (.ref b2), .val (.int v30), .val (.int (v30 + ((((fx.toUInt32 >>> ((3 : Int32) &&& 31).toUInt32).toInt32) &&& (7 : Int32)) - ((((fx.toUInt32 >>> ((3 : Int32) &&& 31).toUInt32).toInt32) &&& (7 : Int32)) / ((6 : Int32) - v30)) * ((6 : Int32) - v30)))), .unset, .unset] [])) := fun t k => P31 t (by
    show Steps p.tables e below (T27.setTop (mkF m 56 #[.val (.int ax), .val (.int bx), .val (.int cx), .val (.int dx), .val (.int ex), .val (.int fx), .val (.ref b2), .val (.int v30), .unset, .unset, .unset] [])) _
    refine XS.iload X27.here hx rfl (hb hby at_56) rfl  ?_
    show Steps p.tables e below (T27.setTop (mkF m 58 #[.val (.int ax), .val (.int bx), .val (.int cx), .val (.int dx), .val (.int ex), .val (.int fx), .val (.ref b2), .val (.int v30), .unset, .unset, .unset] [(.int v30)])) _
    refine XS.iload X27.here hx rfl (hb hby at_58) rfl  ?_
    show Steps p.tables e below (T27.setTop (mkF m 60 #[.val (.int ax), .val (.int bx), .val (.int cx), .val (.int dx), .val (.int ex), .val (.int fx), .val (.ref b2), .val (.int v30), .unset, .unset, .unset] [(.int fx), (.int v30)])) _
    refine XS.iconst X27.here hx rfl (hb hby at_60) ?_
    show Steps p.tables e below (T27.setTop (mkF m 61 #[.val (.int ax), .val (.int bx), .val (.int cx), .val (.int dx), .val (.int ex), .val (.int fx), .val (.ref b2), .val (.int v30), .unset, .unset, .unset] [(.int (3 : Int32)), (.int fx), (.int v30)])) _
    refine XS.iushr X27.here hx rfl (hb hby at_61) rfl ?_
    show Steps p.tables e below (T27.setTop (mkF m 62 #[.val (.int ax), .val (.int bx), .val (.int cx), .val (.int dx), .val (.int ex), .val (.int fx), .val (.ref b2), .val (.int v30), .unset, .unset, .unset] [(.int ((fx.toUInt32 >>> ((3 : Int32) &&& 31).toUInt32).toInt32)), (.int v30)])) _
    refine XS.bipush X27.here hx rfl (hb hby at_62) ?_
    show Steps p.tables e below (T27.setTop (mkF m 64 #[.val (.int ax), .val (.int bx), .val (.int cx), .val (.int dx), .val (.int ex), .val (.int fx), .val (.ref b2), .val (.int v30), .unset, .unset, .unset] [(.int (7 : Int32)), (.int ((fx.toUInt32 >>> ((3 : Int32) &&& 31).toUInt32).toInt32)), (.int v30)])) _
    refine XS.iand X27.here hx rfl (hb hby at_64) rfl ?_
    show Steps p.tables e below (T27.setTop (mkF m 65 #[.val (.int ax), .val (.int bx), .val (.int cx), .val (.int dx), .val (.int ex), .val (.int fx), .val (.ref b2), .val (.int v30), .unset, .unset, .unset] [(.int (((fx.toUInt32 >>> ((3 : Int32) &&& 31).toUInt32).toInt32) &&& (7 : Int32))), (.int v30)])) _
    refine XS.bipush X27.here hx rfl (hb hby at_65) ?_
    show Steps p.tables e below (T27.setTop (mkF m 67 #[.val (.int ax), .val (.int bx), .val (.int cx), .val (.int dx), .val (.int ex), .val (.int fx), .val (.ref b2), .val (.int v30), .unset, .unset, .unset] [(.int (6 : Int32)), (.int (((fx.toUInt32 >>> ((3 : Int32) &&& 31).toUInt32).toInt32) &&& (7 : Int32))), (.int v30)])) _
    refine XS.iload X27.here hx rfl (hb hby at_67) rfl  ?_
    show Steps p.tables e below (T27.setTop (mkF m 69 #[.val (.int ax), .val (.int bx), .val (.int cx), .val (.int dx), .val (.int ex), .val (.int fx), .val (.ref b2), .val (.int v30), .unset, .unset, .unset] [(.int v30), (.int (6 : Int32)), (.int (((fx.toUInt32 >>> ((3 : Int32) &&& 31).toUInt32).toInt32) &&& (7 : Int32))), (.int v30)])) _
    refine XS.isub X27.here hx rfl (hb hby at_69) rfl ?_
    show Steps p.tables e below (T27.setTop (mkF m 70 #[.val (.int ax), .val (.int bx), .val (.int cx), .val (.int dx), .val (.int ex), .val (.int fx), .val (.ref b2), .val (.int v30), .unset, .unset, .unset] [(.int ((6 : Int32) - v30)), (.int (((fx.toUInt32 >>> ((3 : Int32) &&& 31).toUInt32).toInt32) &&& (7 : Int32))), (.int v30)])) _
    refine XS.irem X27.here hx rfl (hb hby at_70) rfl (own_nz hv30) ?_
    show Steps p.tables e below (T27.setTop (mkF m 71 #[.val (.int ax), .val (.int bx), .val (.int cx), .val (.int dx), .val (.int ex), .val (.int fx), .val (.ref b2), .val (.int v30), .unset, .unset, .unset] [(.int ((((fx.toUInt32 >>> ((3 : Int32) &&& 31).toUInt32).toInt32) &&& (7 : Int32)) - ((((fx.toUInt32 >>> ((3 : Int32) &&& 31).toUInt32).toInt32) &&& (7 : Int32)) / ((6 : Int32) - v30)) * ((6 : Int32) - v30))), (.int v30)])) _
    refine XS.iadd X27.here hx rfl (hb hby at_71) rfl ?_
    show Steps p.tables e below (T27.setTop (mkF m 72 #[.val (.int ax), .val (.int bx), .val (.int cx), .val (.int dx), .val (.int ex), .val (.int fx), .val (.ref b2), .val (.int v30), .unset, .unset, .unset] [(.int (v30 + ((((fx.toUInt32 >>> ((3 : Int32) &&& 31).toUInt32).toInt32) &&& (7 : Int32)) - ((((fx.toUInt32 >>> ((3 : Int32) &&& 31).toUInt32).toInt32) &&& (7 : Int32)) / ((6 : Int32) - v30)) * ((6 : Int32) - v30))))])) _
    refine XS.istore X27.here hx rfl (hb hby at_72) rfl (l' := #[.val (.int ax), .val (.int bx), .val (.int cx), .val (.int dx), .val (.int ex), .val (.int fx), .val (.ref b2), .val (.int v30), .val (.int (v30 + ((((fx.toUInt32 >>> ((3 : Int32) &&& 31).toUInt32).toInt32) &&& (7 : Int32)) - ((((fx.toUInt32 >>> ((3 : Int32) &&& 31).toUInt32).toInt32) &&& (7 : Int32)) / ((6 : Int32) - v30)) * ((6 : Int32) - v30)))), .unset, .unset]) rfl ?_
    exact k)
  obtain ⟨v33, hv33⟩ : ∃ z : Int32, z = (v30 + ((((fx.toUInt32 >>> ((3 : Int32) &&& 31).toUInt32).toInt32) &&& (7 : Int32)) - ((((fx.toUInt32 >>> ((3 : Int32) &&& 31).toUInt32).toInt32) &&& (7 : Int32)) / ((6 : Int32) - v30)) * ((6 : Int32) - v30))) := ⟨_, rfl⟩
  have P34 : Wy p.tables e below (s₁.setTop (entryFrame m #[(.int ax), (.int bx), (.int cx), (.int dx), (.int ex), (.int fx)] maxLocals)) (T27.setTop (mkF m 74 #[.val (.int ax), .val (.int bx), .val (.int cx), .val (.int dx), .val (.int ex), .val (.int fx), .val (.ref b2), .val (.int v30), .val (.int v33), .unset, .unset] [])) := fun t k => by subst hv33; exact P32 t k
  obtain ⟨lv, hlv⟩ : ∃ z : List Int32, z = [((Fmk ax).toInt8.toInt32), ((Fmk bx).toInt8.toInt32), ((Fmk cx).toInt8.toInt32), ((Fmk dx).toInt8.toInt32), ((Fmk ex).toInt8.toInt32)] := ⟨_, rfl⟩
  have Bv : own_By Z h27 b2 lv := own_by_of V27 (by rw [hlv]; rfl) (by rw [hlv]; rfl)
  obtain ⟨fn, tn, hft, ht5, hfn, htn⟩ := own_rng hv30 hv33
  have hl5 : lv.length = 5 := by rw [hlv]; rfl
  have hlt : tn ≤ lv.length := by rw [hl5]; exact ht5
  have hl4 : lv.length ≤ 1000 := by rw [hl5]; decide
  obtain ⟨T78, L78, X78, e78, N78, r76, hr76, P77⟩ : ∃ T78 L78, Stand p l e room_1 s m #[(.int ax), (.int bx), (.int cx), (.int dx), (.int ex), (.int fx)] below meth c T78 L78 1 5 ∧ T78.heap = h27 ∧ Fr n0 L78 ∧ ∃ r76 : Int32, r76 = (if (own_bad lv (0 : Int32) v30 v33) = (0 : Int32) then (if (own_bad lv (1 : Int32) v30 v33) = (0 : Int32) then (if (own_bad lv (2 : Int32) v30 v33) = (0 : Int32) then (if (own_bad lv (3 : Int32) v30 v33) = (0 : Int32) then (if (own_bad lv (4 : Int32) v30 v33) = (0 : Int32) then (((((own_term lv (0 : Int32) v30 v33) + (own_term lv (1 : Int32) v30 v33)) + (own_term lv (2 : Int32) v30 v33)) + (own_term lv (3 : Int32) v30 v33)) + (own_term lv (4 : Int32) v30 v33)) else (-1 : Int32)) else (-1 : Int32)) else (-1 : Int32)) else (-1 : Int32)) else (-1 : Int32)) ∧ Wy p.tables e below (s₁.setTop (entryFrame m #[(.int ax), (.int bx), (.int cx), (.int dx), (.int ex), (.int fx)] maxLocals)) (T78.setTop (mkF m 201 #[.val (.int ax), .val (.int bx), .val (.int cx), .val (.int dx), .val (.int ex), .val (.int fx), .val (.ref b2), .val (.int v30), .val (.int v33), .val (.int r76), .unset] [])) := by
    have P79 : Wy p.tables e below (s₁.setTop (entryFrame m #[(.int ax), (.int bx), (.int cx), (.int dx), (.int ex), (.int fx)] maxLocals)) (T27.setTop (mkF m 81 #[.val (.int ax), .val (.int bx), .val (.int cx), .val (.int dx), .val (.int ex), .val (.int fx), .val (.ref b2), .val (.int v30), .val (.int v33), .unset, .unset] [(.int v33), (.int v30), (.int (0 : Int32)), (.ref b2)])) := fun t k => P34 t (by
      show Steps p.tables e below (T27.setTop (mkF m 74 #[.val (.int ax), .val (.int bx), .val (.int cx), .val (.int dx), .val (.int ex), .val (.int fx), .val (.ref b2), .val (.int v30), .val (.int v33), .unset, .unset] [])) _
      refine XS.aload X27.here hx rfl (hb hby at_74) rfl rfl  ?_
      show Steps p.tables e below (T27.setTop (mkF m 76 #[.val (.int ax), .val (.int bx), .val (.int cx), .val (.int dx), .val (.int ex), .val (.int fx), .val (.ref b2), .val (.int v30), .val (.int v33), .unset, .unset] [(.ref b2)])) _
      refine XS.iconst X27.here hx rfl (hb hby at_76) ?_
      show Steps p.tables e below (T27.setTop (mkF m 77 #[.val (.int ax), .val (.int bx), .val (.int cx), .val (.int dx), .val (.int ex), .val (.int fx), .val (.ref b2), .val (.int v30), .val (.int v33), .unset, .unset] [(.int (0 : Int32)), (.ref b2)])) _
      refine XS.iload X27.here hx rfl (hb hby at_77) rfl  ?_
      show Steps p.tables e below (T27.setTop (mkF m 79 #[.val (.int ax), .val (.int bx), .val (.int cx), .val (.int dx), .val (.int ex), .val (.int fx), .val (.ref b2), .val (.int v30), .val (.int v33), .unset, .unset] [(.int v30), (.int (0 : Int32)), (.ref b2)])) _
      refine XS.iload X27.here hx rfl (hb hby at_79) rfl  ?_
      exact k)
    obtain ⟨_, _, ⟨T80, L80, k80, n80⟩, -, X80, ⟨Lc80, hQ80, l80, y80, z80⟩, st80⟩ := Jvm.LawKit.callS X27 hx (y := (⟨"com/example/zbirka/zbirka/Iso2709ReaderDigitsPinLaw", "bad", "([BIII)Z"⟩ : MethodName)) hown (mvT hZ (hw _ (List.mem_of_getElem? (i := 5) rfl))) (mvT hZ (hw _ (List.mem_of_getElem? (i := 6) rfl))) (mvT hZ (hw _ (List.mem_of_getElem? (i := 3) rfl))) (mvT hZ (hw _ (List.mem_of_getElem? (i := 7) rfl))) (by decide) (backOf (W := 0) (rm2 l Z a0 hw [] b2 (0 : Int32) v30 v33 lv h27 n0 z27 Bv (by decide) (by rw [hl5]; decide)) hZ (hw _ (List.mem_of_getElem? (i := 7) rfl)) (hw _ (List.mem_of_getElem? (i := 3) rfl)) (by decide) (by decide)) (g := (mkF m 81 #[.val (.int ax), .val (.int bx), .val (.int cx), .val (.int dx), .val (.int ex), .val (.int fx), .val (.ref b2), .val (.int v30), .val (.int v33), .unset, .unset] [(.int v33), (.int v30), (.int (0 : Int32)), (.ref b2)])) rfl (by rw [hml]; rfl) (argsL := [(.ref b2), (.int (0 : Int32)), (.int v30), (.int v33)]) (rest := []) (lenOf pd_lABIIIrZ rfl) rfl (by show 2 * 0 + _ ≤ _; exact Nat.le_of_eq rfl) (hb hby at_81) (fun _ _ => ⟨rfl, e27, (by decide : 1 + 0 ≤ _), (by decide : 5 + 0 ≤ _)⟩)
    dsimp only [Pt.U, Pt.locs, Pt.cells, Pt.slots] at X80 l80 y80 z80 st80 hQ80
    subst l80 y80 z80
    obtain ⟨rfl, N80q, e80⟩ := hQ80
    have N80 := Fr.app N27 N80q
    have P81 : Wy p.tables e below (s₁.setTop (entryFrame m #[(.int ax), (.int bx), (.int cx), (.int dx), (.int ex), (.int fx)] maxLocals)) (T80.setTop (mkF m 84 #[.val (.int ax), .val (.int bx), .val (.int cx), .val (.int dx), .val (.int ex), .val (.int fx), .val (.ref b2), .val (.int v30), .val (.int v33), .unset, .unset] [(.int (own_bad lv (0 : Int32) v30 v33))])) := fun t k => P79 t (st80 _ k)
    by_cases hc84_82 : (own_bad lv (0 : Int32) v30 v33) = (0 : Int32)
    · have P83 : Wy p.tables e below (s₁.setTop (entryFrame m #[(.int ax), (.int bx), (.int cx), (.int dx), (.int ex), (.int fx)] maxLocals)) (T80.setTop (mkF m 94 #[.val (.int ax), .val (.int bx), .val (.int cx), .val (.int dx), .val (.int ex), .val (.int fx), .val (.ref b2), .val (.int v30), .val (.int v33), .unset, .unset] [(.int v33), (.int v30), (.int (1 : Int32)), (.ref b2)])) := fun t k => P81 t (by
        show Steps p.tables e below (T80.setTop (mkF m 84 #[.val (.int ax), .val (.int bx), .val (.int cx), .val (.int dx), .val (.int ex), .val (.int fx), .val (.ref b2), .val (.int v30), .val (.int v33), .unset, .unset] [(.int (own_bad lv (0 : Int32) v30 v33))])) _
        refine XS.ifNo X80.here hx rfl (hb hby at_84) rfl ((if0 _ _).trans (teq hc84_82).2) ?_
        show Steps p.tables e below (T80.setTop (mkF m 87 #[.val (.int ax), .val (.int bx), .val (.int cx), .val (.int dx), .val (.int ex), .val (.int fx), .val (.ref b2), .val (.int v30), .val (.int v33), .unset, .unset] [])) _
        refine XS.aload X80.here hx rfl (hb hby at_87) rfl rfl  ?_
        show Steps p.tables e below (T80.setTop (mkF m 89 #[.val (.int ax), .val (.int bx), .val (.int cx), .val (.int dx), .val (.int ex), .val (.int fx), .val (.ref b2), .val (.int v30), .val (.int v33), .unset, .unset] [(.ref b2)])) _
        refine XS.iconst X80.here hx rfl (hb hby at_89) ?_
        show Steps p.tables e below (T80.setTop (mkF m 90 #[.val (.int ax), .val (.int bx), .val (.int cx), .val (.int dx), .val (.int ex), .val (.int fx), .val (.ref b2), .val (.int v30), .val (.int v33), .unset, .unset] [(.int (1 : Int32)), (.ref b2)])) _
        refine XS.iload X80.here hx rfl (hb hby at_90) rfl  ?_
        show Steps p.tables e below (T80.setTop (mkF m 92 #[.val (.int ax), .val (.int bx), .val (.int cx), .val (.int dx), .val (.int ex), .val (.int fx), .val (.ref b2), .val (.int v30), .val (.int v33), .unset, .unset] [(.int v30), (.int (1 : Int32)), (.ref b2)])) _
        refine XS.iload X80.here hx rfl (hb hby at_92) rfl  ?_
        exact k)
      obtain ⟨_, _, ⟨T84, L84, k84, n84⟩, -, X84, ⟨Lc84, hQ84, l84, y84, z84⟩, st84⟩ := Jvm.LawKit.callS X80 hx (y := (⟨"com/example/zbirka/zbirka/Iso2709ReaderDigitsPinLaw", "bad", "([BIII)Z"⟩ : MethodName)) hown (mvT hZ (hw _ (List.mem_of_getElem? (i := 5) rfl))) (mvT hZ (hw _ (List.mem_of_getElem? (i := 6) rfl))) (mvT hZ (hw _ (List.mem_of_getElem? (i := 3) rfl))) (mvT hZ (hw _ (List.mem_of_getElem? (i := 7) rfl))) (by decide) (backOf (W := 0) (rm2 l Z a0 hw [] b2 (1 : Int32) v30 v33 lv h27 n0 z27 Bv (by decide) (by rw [hl5]; decide)) hZ (hw _ (List.mem_of_getElem? (i := 7) rfl)) (hw _ (List.mem_of_getElem? (i := 3) rfl)) (by decide) (by decide)) (g := (mkF m 94 #[.val (.int ax), .val (.int bx), .val (.int cx), .val (.int dx), .val (.int ex), .val (.int fx), .val (.ref b2), .val (.int v30), .val (.int v33), .unset, .unset] [(.int v33), (.int v30), (.int (1 : Int32)), (.ref b2)])) rfl (by rw [hml]; rfl) (argsL := [(.ref b2), (.int (1 : Int32)), (.int v30), (.int v33)]) (rest := []) (lenOf pd_lABIIIrZ rfl) rfl (by show 2 * 0 + _ ≤ _; exact Nat.le_of_eq rfl) (hb hby at_94) (fun _ _ => ⟨rfl, e80, (by decide : 1 + 0 ≤ _), (by decide : 5 + 0 ≤ _)⟩)
      dsimp only [Pt.U, Pt.locs, Pt.cells, Pt.slots] at X84 l84 y84 z84 st84 hQ84
      subst l84 y84 z84
      obtain ⟨rfl, N84q, e84⟩ := hQ84
      have N84 := Fr.app N80 N84q
      have P85 : Wy p.tables e below (s₁.setTop (entryFrame m #[(.int ax), (.int bx), (.int cx), (.int dx), (.int ex), (.int fx)] maxLocals)) (T84.setTop (mkF m 97 #[.val (.int ax), .val (.int bx), .val (.int cx), .val (.int dx), .val (.int ex), .val (.int fx), .val (.ref b2), .val (.int v30), .val (.int v33), .unset, .unset] [(.int (own_bad lv (1 : Int32) v30 v33))])) := fun t k => P83 t (st84 _ k)
      by_cases hc97_86 : (own_bad lv (1 : Int32) v30 v33) = (0 : Int32)
      · have P87 : Wy p.tables e below (s₁.setTop (entryFrame m #[(.int ax), (.int bx), (.int cx), (.int dx), (.int ex), (.int fx)] maxLocals)) (T84.setTop (mkF m 107 #[.val (.int ax), .val (.int bx), .val (.int cx), .val (.int dx), .val (.int ex), .val (.int fx), .val (.ref b2), .val (.int v30), .val (.int v33), .unset, .unset] [(.int v33), (.int v30), (.int (2 : Int32)), (.ref b2)])) := fun t k => P85 t (by
          show Steps p.tables e below (T84.setTop (mkF m 97 #[.val (.int ax), .val (.int bx), .val (.int cx), .val (.int dx), .val (.int ex), .val (.int fx), .val (.ref b2), .val (.int v30), .val (.int v33), .unset, .unset] [(.int (own_bad lv (1 : Int32) v30 v33))])) _
          refine XS.ifNo X84.here hx rfl (hb hby at_97) rfl ((if0 _ _).trans (teq hc97_86).2) ?_
          show Steps p.tables e below (T84.setTop (mkF m 100 #[.val (.int ax), .val (.int bx), .val (.int cx), .val (.int dx), .val (.int ex), .val (.int fx), .val (.ref b2), .val (.int v30), .val (.int v33), .unset, .unset] [])) _
          refine XS.aload X84.here hx rfl (hb hby at_100) rfl rfl  ?_
          show Steps p.tables e below (T84.setTop (mkF m 102 #[.val (.int ax), .val (.int bx), .val (.int cx), .val (.int dx), .val (.int ex), .val (.int fx), .val (.ref b2), .val (.int v30), .val (.int v33), .unset, .unset] [(.ref b2)])) _
          refine XS.iconst X84.here hx rfl (hb hby at_102) ?_
          show Steps p.tables e below (T84.setTop (mkF m 103 #[.val (.int ax), .val (.int bx), .val (.int cx), .val (.int dx), .val (.int ex), .val (.int fx), .val (.ref b2), .val (.int v30), .val (.int v33), .unset, .unset] [(.int (2 : Int32)), (.ref b2)])) _
          refine XS.iload X84.here hx rfl (hb hby at_103) rfl  ?_
          show Steps p.tables e below (T84.setTop (mkF m 105 #[.val (.int ax), .val (.int bx), .val (.int cx), .val (.int dx), .val (.int ex), .val (.int fx), .val (.ref b2), .val (.int v30), .val (.int v33), .unset, .unset] [(.int v30), (.int (2 : Int32)), (.ref b2)])) _
          refine XS.iload X84.here hx rfl (hb hby at_105) rfl  ?_
          exact k)
        obtain ⟨_, _, ⟨T88, L88, k88, n88⟩, -, X88, ⟨Lc88, hQ88, l88, y88, z88⟩, st88⟩ := Jvm.LawKit.callS X84 hx (y := (⟨"com/example/zbirka/zbirka/Iso2709ReaderDigitsPinLaw", "bad", "([BIII)Z"⟩ : MethodName)) hown (mvT hZ (hw _ (List.mem_of_getElem? (i := 5) rfl))) (mvT hZ (hw _ (List.mem_of_getElem? (i := 6) rfl))) (mvT hZ (hw _ (List.mem_of_getElem? (i := 3) rfl))) (mvT hZ (hw _ (List.mem_of_getElem? (i := 7) rfl))) (by decide) (backOf (W := 0) (rm2 l Z a0 hw [] b2 (2 : Int32) v30 v33 lv h27 n0 z27 Bv (by decide) (by rw [hl5]; decide)) hZ (hw _ (List.mem_of_getElem? (i := 7) rfl)) (hw _ (List.mem_of_getElem? (i := 3) rfl)) (by decide) (by decide)) (g := (mkF m 107 #[.val (.int ax), .val (.int bx), .val (.int cx), .val (.int dx), .val (.int ex), .val (.int fx), .val (.ref b2), .val (.int v30), .val (.int v33), .unset, .unset] [(.int v33), (.int v30), (.int (2 : Int32)), (.ref b2)])) rfl (by rw [hml]; rfl) (argsL := [(.ref b2), (.int (2 : Int32)), (.int v30), (.int v33)]) (rest := []) (lenOf pd_lABIIIrZ rfl) rfl (by show 2 * 0 + _ ≤ _; exact Nat.le_of_eq rfl) (hb hby at_107) (fun _ _ => ⟨rfl, e84, (by decide : 1 + 0 ≤ _), (by decide : 5 + 0 ≤ _)⟩)
        dsimp only [Pt.U, Pt.locs, Pt.cells, Pt.slots] at X88 l88 y88 z88 st88 hQ88
        subst l88 y88 z88
        obtain ⟨rfl, N88q, e88⟩ := hQ88
        have N88 := Fr.app N84 N88q
        have P89 : Wy p.tables e below (s₁.setTop (entryFrame m #[(.int ax), (.int bx), (.int cx), (.int dx), (.int ex), (.int fx)] maxLocals)) (T88.setTop (mkF m 110 #[.val (.int ax), .val (.int bx), .val (.int cx), .val (.int dx), .val (.int ex), .val (.int fx), .val (.ref b2), .val (.int v30), .val (.int v33), .unset, .unset] [(.int (own_bad lv (2 : Int32) v30 v33))])) := fun t k => P87 t (st88 _ k)
        by_cases hc110_90 : (own_bad lv (2 : Int32) v30 v33) = (0 : Int32)
        · have P91 : Wy p.tables e below (s₁.setTop (entryFrame m #[(.int ax), (.int bx), (.int cx), (.int dx), (.int ex), (.int fx)] maxLocals)) (T88.setTop (mkF m 120 #[.val (.int ax), .val (.int bx), .val (.int cx), .val (.int dx), .val (.int ex), .val (.int fx), .val (.ref b2), .val (.int v30), .val (.int v33), .unset, .unset] [(.int v33), (.int v30), (.int (3 : Int32)), (.ref b2)])) := fun t k => P89 t (by
            show Steps p.tables e below (T88.setTop (mkF m 110 #[.val (.int ax), .val (.int bx), .val (.int cx), .val (.int dx), .val (.int ex), .val (.int fx), .val (.ref b2), .val (.int v30), .val (.int v33), .unset, .unset] [(.int (own_bad lv (2 : Int32) v30 v33))])) _
            refine XS.ifNo X88.here hx rfl (hb hby at_110) rfl ((if0 _ _).trans (teq hc110_90).2) ?_
            show Steps p.tables e below (T88.setTop (mkF m 113 #[.val (.int ax), .val (.int bx), .val (.int cx), .val (.int dx), .val (.int ex), .val (.int fx), .val (.ref b2), .val (.int v30), .val (.int v33), .unset, .unset] [])) _
            refine XS.aload X88.here hx rfl (hb hby at_113) rfl rfl  ?_
            show Steps p.tables e below (T88.setTop (mkF m 115 #[.val (.int ax), .val (.int bx), .val (.int cx), .val (.int dx), .val (.int ex), .val (.int fx), .val (.ref b2), .val (.int v30), .val (.int v33), .unset, .unset] [(.ref b2)])) _
            refine XS.iconst X88.here hx rfl (hb hby at_115) ?_
            show Steps p.tables e below (T88.setTop (mkF m 116 #[.val (.int ax), .val (.int bx), .val (.int cx), .val (.int dx), .val (.int ex), .val (.int fx), .val (.ref b2), .val (.int v30), .val (.int v33), .unset, .unset] [(.int (3 : Int32)), (.ref b2)])) _
            refine XS.iload X88.here hx rfl (hb hby at_116) rfl  ?_
            show Steps p.tables e below (T88.setTop (mkF m 118 #[.val (.int ax), .val (.int bx), .val (.int cx), .val (.int dx), .val (.int ex), .val (.int fx), .val (.ref b2), .val (.int v30), .val (.int v33), .unset, .unset] [(.int v30), (.int (3 : Int32)), (.ref b2)])) _
            refine XS.iload X88.here hx rfl (hb hby at_118) rfl  ?_
            exact k)
          obtain ⟨_, _, ⟨T92, L92, k92, n92⟩, -, X92, ⟨Lc92, hQ92, l92, y92, z92⟩, st92⟩ := Jvm.LawKit.callS X88 hx (y := (⟨"com/example/zbirka/zbirka/Iso2709ReaderDigitsPinLaw", "bad", "([BIII)Z"⟩ : MethodName)) hown (mvT hZ (hw _ (List.mem_of_getElem? (i := 5) rfl))) (mvT hZ (hw _ (List.mem_of_getElem? (i := 6) rfl))) (mvT hZ (hw _ (List.mem_of_getElem? (i := 3) rfl))) (mvT hZ (hw _ (List.mem_of_getElem? (i := 7) rfl))) (by decide) (backOf (W := 0) (rm2 l Z a0 hw [] b2 (3 : Int32) v30 v33 lv h27 n0 z27 Bv (by decide) (by rw [hl5]; decide)) hZ (hw _ (List.mem_of_getElem? (i := 7) rfl)) (hw _ (List.mem_of_getElem? (i := 3) rfl)) (by decide) (by decide)) (g := (mkF m 120 #[.val (.int ax), .val (.int bx), .val (.int cx), .val (.int dx), .val (.int ex), .val (.int fx), .val (.ref b2), .val (.int v30), .val (.int v33), .unset, .unset] [(.int v33), (.int v30), (.int (3 : Int32)), (.ref b2)])) rfl (by rw [hml]; rfl) (argsL := [(.ref b2), (.int (3 : Int32)), (.int v30), (.int v33)]) (rest := []) (lenOf pd_lABIIIrZ rfl) rfl (by show 2 * 0 + _ ≤ _; exact Nat.le_of_eq rfl) (hb hby at_120) (fun _ _ => ⟨rfl, e88, (by decide : 1 + 0 ≤ _), (by decide : 5 + 0 ≤ _)⟩)
          dsimp only [Pt.U, Pt.locs, Pt.cells, Pt.slots] at X92 l92 y92 z92 st92 hQ92
          subst l92 y92 z92
          obtain ⟨rfl, N92q, e92⟩ := hQ92
          have N92 := Fr.app N88 N92q
          have P93 : Wy p.tables e below (s₁.setTop (entryFrame m #[(.int ax), (.int bx), (.int cx), (.int dx), (.int ex), (.int fx)] maxLocals)) (T92.setTop (mkF m 123 #[.val (.int ax), .val (.int bx), .val (.int cx), .val (.int dx), .val (.int ex), .val (.int fx), .val (.ref b2), .val (.int v30), .val (.int v33), .unset, .unset] [(.int (own_bad lv (3 : Int32) v30 v33))])) := fun t k => P91 t (st92 _ k)
          by_cases hc123_94 : (own_bad lv (3 : Int32) v30 v33) = (0 : Int32)
          · have P95 : Wy p.tables e below (s₁.setTop (entryFrame m #[(.int ax), (.int bx), (.int cx), (.int dx), (.int ex), (.int fx)] maxLocals)) (T92.setTop (mkF m 133 #[.val (.int ax), .val (.int bx), .val (.int cx), .val (.int dx), .val (.int ex), .val (.int fx), .val (.ref b2), .val (.int v30), .val (.int v33), .unset, .unset] [(.int v33), (.int v30), (.int (4 : Int32)), (.ref b2)])) := fun t k => P93 t (by
              show Steps p.tables e below (T92.setTop (mkF m 123 #[.val (.int ax), .val (.int bx), .val (.int cx), .val (.int dx), .val (.int ex), .val (.int fx), .val (.ref b2), .val (.int v30), .val (.int v33), .unset, .unset] [(.int (own_bad lv (3 : Int32) v30 v33))])) _
              refine XS.ifNo X92.here hx rfl (hb hby at_123) rfl ((if0 _ _).trans (teq hc123_94).2) ?_
              show Steps p.tables e below (T92.setTop (mkF m 126 #[.val (.int ax), .val (.int bx), .val (.int cx), .val (.int dx), .val (.int ex), .val (.int fx), .val (.ref b2), .val (.int v30), .val (.int v33), .unset, .unset] [])) _
              refine XS.aload X92.here hx rfl (hb hby at_126) rfl rfl  ?_
              show Steps p.tables e below (T92.setTop (mkF m 128 #[.val (.int ax), .val (.int bx), .val (.int cx), .val (.int dx), .val (.int ex), .val (.int fx), .val (.ref b2), .val (.int v30), .val (.int v33), .unset, .unset] [(.ref b2)])) _
              refine XS.iconst X92.here hx rfl (hb hby at_128) ?_
              show Steps p.tables e below (T92.setTop (mkF m 129 #[.val (.int ax), .val (.int bx), .val (.int cx), .val (.int dx), .val (.int ex), .val (.int fx), .val (.ref b2), .val (.int v30), .val (.int v33), .unset, .unset] [(.int (4 : Int32)), (.ref b2)])) _
              refine XS.iload X92.here hx rfl (hb hby at_129) rfl  ?_
              show Steps p.tables e below (T92.setTop (mkF m 131 #[.val (.int ax), .val (.int bx), .val (.int cx), .val (.int dx), .val (.int ex), .val (.int fx), .val (.ref b2), .val (.int v30), .val (.int v33), .unset, .unset] [(.int v30), (.int (4 : Int32)), (.ref b2)])) _
              refine XS.iload X92.here hx rfl (hb hby at_131) rfl  ?_
              exact k)
            obtain ⟨_, _, ⟨T96, L96, k96, n96⟩, -, X96, ⟨Lc96, hQ96, l96, y96, z96⟩, st96⟩ := Jvm.LawKit.callS X92 hx (y := (⟨"com/example/zbirka/zbirka/Iso2709ReaderDigitsPinLaw", "bad", "([BIII)Z"⟩ : MethodName)) hown (mvT hZ (hw _ (List.mem_of_getElem? (i := 5) rfl))) (mvT hZ (hw _ (List.mem_of_getElem? (i := 6) rfl))) (mvT hZ (hw _ (List.mem_of_getElem? (i := 3) rfl))) (mvT hZ (hw _ (List.mem_of_getElem? (i := 7) rfl))) (by decide) (backOf (W := 0) (rm2 l Z a0 hw [] b2 (4 : Int32) v30 v33 lv h27 n0 z27 Bv (by decide) (by rw [hl5]; decide)) hZ (hw _ (List.mem_of_getElem? (i := 7) rfl)) (hw _ (List.mem_of_getElem? (i := 3) rfl)) (by decide) (by decide)) (g := (mkF m 133 #[.val (.int ax), .val (.int bx), .val (.int cx), .val (.int dx), .val (.int ex), .val (.int fx), .val (.ref b2), .val (.int v30), .val (.int v33), .unset, .unset] [(.int v33), (.int v30), (.int (4 : Int32)), (.ref b2)])) rfl (by rw [hml]; rfl) (argsL := [(.ref b2), (.int (4 : Int32)), (.int v30), (.int v33)]) (rest := []) (lenOf pd_lABIIIrZ rfl) rfl (by show 2 * 0 + _ ≤ _; exact Nat.le_of_eq rfl) (hb hby at_133) (fun _ _ => ⟨rfl, e92, (by decide : 1 + 0 ≤ _), (by decide : 5 + 0 ≤ _)⟩)
            dsimp only [Pt.U, Pt.locs, Pt.cells, Pt.slots] at X96 l96 y96 z96 st96 hQ96
            subst l96 y96 z96
            obtain ⟨rfl, N96q, e96⟩ := hQ96
            have N96 := Fr.app N92 N96q
            have P97 : Wy p.tables e below (s₁.setTop (entryFrame m #[(.int ax), (.int bx), (.int cx), (.int dx), (.int ex), (.int fx)] maxLocals)) (T96.setTop (mkF m 136 #[.val (.int ax), .val (.int bx), .val (.int cx), .val (.int dx), .val (.int ex), .val (.int fx), .val (.ref b2), .val (.int v30), .val (.int v33), .unset, .unset] [(.int (own_bad lv (4 : Int32) v30 v33))])) := fun t k => P95 t (st96 _ k)
            by_cases hc136_98 : (own_bad lv (4 : Int32) v30 v33) = (0 : Int32)
            · have P99 : Wy p.tables e below (s₁.setTop (entryFrame m #[(.int ax), (.int bx), (.int cx), (.int dx), (.int ex), (.int fx)] maxLocals)) (T96.setTop (mkF m 152 #[.val (.int ax), .val (.int bx), .val (.int cx), .val (.int dx), .val (.int ex), .val (.int fx), .val (.ref b2), .val (.int v30), .val (.int v33), .unset, .unset] [(.int v33), (.int v30), (.int (0 : Int32)), (.ref b2)])) := fun t k => P97 t (by
                show Steps p.tables e below (T96.setTop (mkF m 136 #[.val (.int ax), .val (.int bx), .val (.int cx), .val (.int dx), .val (.int ex), .val (.int fx), .val (.ref b2), .val (.int v30), .val (.int v33), .unset, .unset] [(.int (own_bad lv (4 : Int32) v30 v33))])) _
                refine XS.ifYes X96.here hx rfl (pc0 := 136) (pc' := 145) rfl (hb hby at_136) rfl ((if0 _ _).trans (teq hc136_98).1) (by decide) (by decide) ?_
                show Steps p.tables e below (T96.setTop (mkF m 145 #[.val (.int ax), .val (.int bx), .val (.int cx), .val (.int dx), .val (.int ex), .val (.int fx), .val (.ref b2), .val (.int v30), .val (.int v33), .unset, .unset] [])) _
                refine XS.aload X96.here hx rfl (hb hby at_145) rfl rfl  ?_
                show Steps p.tables e below (T96.setTop (mkF m 147 #[.val (.int ax), .val (.int bx), .val (.int cx), .val (.int dx), .val (.int ex), .val (.int fx), .val (.ref b2), .val (.int v30), .val (.int v33), .unset, .unset] [(.ref b2)])) _
                refine XS.iconst X96.here hx rfl (hb hby at_147) ?_
                show Steps p.tables e below (T96.setTop (mkF m 148 #[.val (.int ax), .val (.int bx), .val (.int cx), .val (.int dx), .val (.int ex), .val (.int fx), .val (.ref b2), .val (.int v30), .val (.int v33), .unset, .unset] [(.int (0 : Int32)), (.ref b2)])) _
                refine XS.iload X96.here hx rfl (hb hby at_148) rfl  ?_
                show Steps p.tables e below (T96.setTop (mkF m 150 #[.val (.int ax), .val (.int bx), .val (.int cx), .val (.int dx), .val (.int ex), .val (.int fx), .val (.ref b2), .val (.int v30), .val (.int v33), .unset, .unset] [(.int v30), (.int (0 : Int32)), (.ref b2)])) _
                refine XS.iload X96.here hx rfl (hb hby at_150) rfl  ?_
                exact k)
              obtain ⟨_, _, ⟨T100, L100, k100, n100⟩, -, X100, ⟨Lc100, hQ100, l100, y100, z100⟩, st100⟩ := Jvm.LawKit.callS X96 hx (y := (⟨"com/example/zbirka/zbirka/Iso2709ReaderDigitsPinLaw", "term", "([BIII)I"⟩ : MethodName)) hown (mvT hZ (hw _ (List.mem_of_getElem? (i := 8) rfl))) (mvT hZ (hw _ (List.mem_of_getElem? (i := 9) rfl))) (mvT hZ (hw _ (List.mem_of_getElem? (i := 3) rfl))) (mvT hZ (hw _ (List.mem_of_getElem? (i := 10) rfl))) (by decide) (backOf (W := 0) (rm3 l Z a0 hw [] b2 (0 : Int32) v30 v33 lv h27 n0 z27 Bv (by decide) (by rw [hl5]; decide)) hZ (hw _ (List.mem_of_getElem? (i := 10) rfl)) (hw _ (List.mem_of_getElem? (i := 3) rfl)) (by decide) (by decide)) (g := (mkF m 152 #[.val (.int ax), .val (.int bx), .val (.int cx), .val (.int dx), .val (.int ex), .val (.int fx), .val (.ref b2), .val (.int v30), .val (.int v33), .unset, .unset] [(.int v33), (.int v30), (.int (0 : Int32)), (.ref b2)])) rfl (by rw [hml]; rfl) (argsL := [(.ref b2), (.int (0 : Int32)), (.int v30), (.int v33)]) (rest := []) (lenOf pd_lABIIIrI rfl) rfl (by show 2 * 0 + _ ≤ _; exact Nat.le_of_eq rfl) (hb hby at_152) (fun _ _ => ⟨rfl, e96, (by decide : 1 + 0 ≤ _), (by decide : 5 + 0 ≤ _)⟩)
              dsimp only [Pt.U, Pt.locs, Pt.cells, Pt.slots] at X100 l100 y100 z100 st100 hQ100
              subst l100 y100 z100
              obtain ⟨rfl, N100q, e100⟩ := hQ100
              have N100 := Fr.app N96 N100q
              have P101 : Wy p.tables e below (s₁.setTop (entryFrame m #[(.int ax), (.int bx), (.int cx), (.int dx), (.int ex), (.int fx)] maxLocals)) (T100.setTop (mkF m 155 #[.val (.int ax), .val (.int bx), .val (.int cx), .val (.int dx), .val (.int ex), .val (.int fx), .val (.ref b2), .val (.int v30), .val (.int v33), .unset, .unset] [(.int (own_term lv (0 : Int32) v30 v33))])) := fun t k => P99 t (st100 _ k)
              have P102 : Wy p.tables e below (s₁.setTop (entryFrame m #[(.int ax), (.int bx), (.int cx), (.int dx), (.int ex), (.int fx)] maxLocals)) (T100.setTop (mkF m 162 #[.val (.int ax), .val (.int bx), .val (.int cx), .val (.int dx), .val (.int ex), .val (.int fx), .val (.ref b2), .val (.int v30), .val (.int v33), .unset, .unset] [(.int v33), (.int v30), (.int (1 : Int32)), (.ref b2), (.int (own_term lv (0 : Int32) v30 v33))])) := fun t k => P101 t (by
                show Steps p.tables e below (T100.setTop (mkF m 155 #[.val (.int ax), .val (.int bx), .val (.int cx), .val (.int dx), .val (.int ex), .val (.int fx), .val (.ref b2), .val (.int v30), .val (.int v33), .unset, .unset] [(.int (own_term lv (0 : Int32) v30 v33))])) _
                refine XS.aload X100.here hx rfl (hb hby at_155) rfl rfl  ?_
                show Steps p.tables e below (T100.setTop (mkF m 157 #[.val (.int ax), .val (.int bx), .val (.int cx), .val (.int dx), .val (.int ex), .val (.int fx), .val (.ref b2), .val (.int v30), .val (.int v33), .unset, .unset] [(.ref b2), (.int (own_term lv (0 : Int32) v30 v33))])) _
                refine XS.iconst X100.here hx rfl (hb hby at_157) ?_
                show Steps p.tables e below (T100.setTop (mkF m 158 #[.val (.int ax), .val (.int bx), .val (.int cx), .val (.int dx), .val (.int ex), .val (.int fx), .val (.ref b2), .val (.int v30), .val (.int v33), .unset, .unset] [(.int (1 : Int32)), (.ref b2), (.int (own_term lv (0 : Int32) v30 v33))])) _
                refine XS.iload X100.here hx rfl (hb hby at_158) rfl  ?_
                show Steps p.tables e below (T100.setTop (mkF m 160 #[.val (.int ax), .val (.int bx), .val (.int cx), .val (.int dx), .val (.int ex), .val (.int fx), .val (.ref b2), .val (.int v30), .val (.int v33), .unset, .unset] [(.int v30), (.int (1 : Int32)), (.ref b2), (.int (own_term lv (0 : Int32) v30 v33))])) _
                refine XS.iload X100.here hx rfl (hb hby at_160) rfl  ?_
                exact k)
              obtain ⟨_, _, ⟨T103, L103, k103, n103⟩, -, X103, ⟨Lc103, hQ103, l103, y103, z103⟩, st103⟩ := Jvm.LawKit.callS X100 hx (y := (⟨"com/example/zbirka/zbirka/Iso2709ReaderDigitsPinLaw", "term", "([BIII)I"⟩ : MethodName)) hown (mvT hZ (hw _ (List.mem_of_getElem? (i := 8) rfl))) (mvT hZ (hw _ (List.mem_of_getElem? (i := 9) rfl))) (mvT hZ (hw _ (List.mem_of_getElem? (i := 3) rfl))) (mvT hZ (hw _ (List.mem_of_getElem? (i := 10) rfl))) (by decide) (backOf (W := 1) (rm3 l Z a0 hw [] b2 (1 : Int32) v30 v33 lv h27 n0 z27 Bv (by decide) (by rw [hl5]; decide)) hZ (hw _ (List.mem_of_getElem? (i := 10) rfl)) (hw _ (List.mem_of_getElem? (i := 3) rfl)) (by decide) (by decide)) (g := (mkF m 162 #[.val (.int ax), .val (.int bx), .val (.int cx), .val (.int dx), .val (.int ex), .val (.int fx), .val (.ref b2), .val (.int v30), .val (.int v33), .unset, .unset] [(.int v33), (.int v30), (.int (1 : Int32)), (.ref b2), (.int (own_term lv (0 : Int32) v30 v33))])) rfl (by rw [hml]; rfl) (argsL := [(.ref b2), (.int (1 : Int32)), (.int v30), (.int v33)]) (rest := [(.int (own_term lv (0 : Int32) v30 v33))]) (lenOf pd_lABIIIrI rfl) rfl (by show 2 * 0 + _ ≤ _; exact Nat.le_of_eq rfl) (hb hby at_162) (fun _ _ => ⟨rfl, e100, (by decide : 1 + 0 ≤ _), (by decide : 5 + 0 ≤ _)⟩)
              dsimp only [Pt.U, Pt.locs, Pt.cells, Pt.slots] at X103 l103 y103 z103 st103 hQ103
              subst l103 y103 z103
              obtain ⟨rfl, N103q, e103⟩ := hQ103
              have N103 := Fr.app N100 N103q
              have P104 : Wy p.tables e below (s₁.setTop (entryFrame m #[(.int ax), (.int bx), (.int cx), (.int dx), (.int ex), (.int fx)] maxLocals)) (T103.setTop (mkF m 165 #[.val (.int ax), .val (.int bx), .val (.int cx), .val (.int dx), .val (.int ex), .val (.int fx), .val (.ref b2), .val (.int v30), .val (.int v33), .unset, .unset] [(.int (own_term lv (1 : Int32) v30 v33)), (.int (own_term lv (0 : Int32) v30 v33))])) := fun t k => P102 t (st103 _ k)
              have P105 : Wy p.tables e below (s₁.setTop (entryFrame m #[(.int ax), (.int bx), (.int cx), (.int dx), (.int ex), (.int fx)] maxLocals)) (T103.setTop (mkF m 173 #[.val (.int ax), .val (.int bx), .val (.int cx), .val (.int dx), .val (.int ex), .val (.int fx), .val (.ref b2), .val (.int v30), .val (.int v33), .unset, .unset] [(.int v33), (.int v30), (.int (2 : Int32)), (.ref b2), (.int ((own_term lv (0 : Int32) v30 v33) + (own_term lv (1 : Int32) v30 v33)))])) := fun t k => P104 t (by
                show Steps p.tables e below (T103.setTop (mkF m 165 #[.val (.int ax), .val (.int bx), .val (.int cx), .val (.int dx), .val (.int ex), .val (.int fx), .val (.ref b2), .val (.int v30), .val (.int v33), .unset, .unset] [(.int (own_term lv (1 : Int32) v30 v33)), (.int (own_term lv (0 : Int32) v30 v33))])) _
                refine XS.iadd X103.here hx rfl (hb hby at_165) rfl ?_
                show Steps p.tables e below (T103.setTop (mkF m 166 #[.val (.int ax), .val (.int bx), .val (.int cx), .val (.int dx), .val (.int ex), .val (.int fx), .val (.ref b2), .val (.int v30), .val (.int v33), .unset, .unset] [(.int ((own_term lv (0 : Int32) v30 v33) + (own_term lv (1 : Int32) v30 v33)))])) _
                refine XS.aload X103.here hx rfl (hb hby at_166) rfl rfl  ?_
                show Steps p.tables e below (T103.setTop (mkF m 168 #[.val (.int ax), .val (.int bx), .val (.int cx), .val (.int dx), .val (.int ex), .val (.int fx), .val (.ref b2), .val (.int v30), .val (.int v33), .unset, .unset] [(.ref b2), (.int ((own_term lv (0 : Int32) v30 v33) + (own_term lv (1 : Int32) v30 v33)))])) _
                refine XS.iconst X103.here hx rfl (hb hby at_168) ?_
                show Steps p.tables e below (T103.setTop (mkF m 169 #[.val (.int ax), .val (.int bx), .val (.int cx), .val (.int dx), .val (.int ex), .val (.int fx), .val (.ref b2), .val (.int v30), .val (.int v33), .unset, .unset] [(.int (2 : Int32)), (.ref b2), (.int ((own_term lv (0 : Int32) v30 v33) + (own_term lv (1 : Int32) v30 v33)))])) _
                refine XS.iload X103.here hx rfl (hb hby at_169) rfl  ?_
                show Steps p.tables e below (T103.setTop (mkF m 171 #[.val (.int ax), .val (.int bx), .val (.int cx), .val (.int dx), .val (.int ex), .val (.int fx), .val (.ref b2), .val (.int v30), .val (.int v33), .unset, .unset] [(.int v30), (.int (2 : Int32)), (.ref b2), (.int ((own_term lv (0 : Int32) v30 v33) + (own_term lv (1 : Int32) v30 v33)))])) _
                refine XS.iload X103.here hx rfl (hb hby at_171) rfl  ?_
                exact k)
              obtain ⟨_, _, ⟨T106, L106, k106, n106⟩, -, X106, ⟨Lc106, hQ106, l106, y106, z106⟩, st106⟩ := Jvm.LawKit.callS X103 hx (y := (⟨"com/example/zbirka/zbirka/Iso2709ReaderDigitsPinLaw", "term", "([BIII)I"⟩ : MethodName)) hown (mvT hZ (hw _ (List.mem_of_getElem? (i := 8) rfl))) (mvT hZ (hw _ (List.mem_of_getElem? (i := 9) rfl))) (mvT hZ (hw _ (List.mem_of_getElem? (i := 3) rfl))) (mvT hZ (hw _ (List.mem_of_getElem? (i := 10) rfl))) (by decide) (backOf (W := 1) (rm3 l Z a0 hw [] b2 (2 : Int32) v30 v33 lv h27 n0 z27 Bv (by decide) (by rw [hl5]; decide)) hZ (hw _ (List.mem_of_getElem? (i := 10) rfl)) (hw _ (List.mem_of_getElem? (i := 3) rfl)) (by decide) (by decide)) (g := (mkF m 173 #[.val (.int ax), .val (.int bx), .val (.int cx), .val (.int dx), .val (.int ex), .val (.int fx), .val (.ref b2), .val (.int v30), .val (.int v33), .unset, .unset] [(.int v33), (.int v30), (.int (2 : Int32)), (.ref b2), (.int ((own_term lv (0 : Int32) v30 v33) + (own_term lv (1 : Int32) v30 v33)))])) rfl (by rw [hml]; rfl) (argsL := [(.ref b2), (.int (2 : Int32)), (.int v30), (.int v33)]) (rest := [(.int ((own_term lv (0 : Int32) v30 v33) + (own_term lv (1 : Int32) v30 v33)))]) (lenOf pd_lABIIIrI rfl) rfl (by show 2 * 0 + _ ≤ _; exact Nat.le_of_eq rfl) (hb hby at_173) (fun _ _ => ⟨rfl, e103, (by decide : 1 + 0 ≤ _), (by decide : 5 + 0 ≤ _)⟩)
              dsimp only [Pt.U, Pt.locs, Pt.cells, Pt.slots] at X106 l106 y106 z106 st106 hQ106
              subst l106 y106 z106
              obtain ⟨rfl, N106q, e106⟩ := hQ106
              have N106 := Fr.app N103 N106q
              have P107 : Wy p.tables e below (s₁.setTop (entryFrame m #[(.int ax), (.int bx), (.int cx), (.int dx), (.int ex), (.int fx)] maxLocals)) (T106.setTop (mkF m 176 #[.val (.int ax), .val (.int bx), .val (.int cx), .val (.int dx), .val (.int ex), .val (.int fx), .val (.ref b2), .val (.int v30), .val (.int v33), .unset, .unset] [(.int (own_term lv (2 : Int32) v30 v33)), (.int ((own_term lv (0 : Int32) v30 v33) + (own_term lv (1 : Int32) v30 v33)))])) := fun t k => P105 t (st106 _ k)
              have P108 : Wy p.tables e below (s₁.setTop (entryFrame m #[(.int ax), (.int bx), (.int cx), (.int dx), (.int ex), (.int fx)] maxLocals)) (T106.setTop (mkF m 184 #[.val (.int ax), .val (.int bx), .val (.int cx), .val (.int dx), .val (.int ex), .val (.int fx), .val (.ref b2), .val (.int v30), .val (.int v33), .unset, .unset] [(.int v33), (.int v30), (.int (3 : Int32)), (.ref b2), (.int (((own_term lv (0 : Int32) v30 v33) + (own_term lv (1 : Int32) v30 v33)) + (own_term lv (2 : Int32) v30 v33)))])) := fun t k => P107 t (by
                show Steps p.tables e below (T106.setTop (mkF m 176 #[.val (.int ax), .val (.int bx), .val (.int cx), .val (.int dx), .val (.int ex), .val (.int fx), .val (.ref b2), .val (.int v30), .val (.int v33), .unset, .unset] [(.int (own_term lv (2 : Int32) v30 v33)), (.int ((own_term lv (0 : Int32) v30 v33) + (own_term lv (1 : Int32) v30 v33)))])) _
                refine XS.iadd X106.here hx rfl (hb hby at_176) rfl ?_
                show Steps p.tables e below (T106.setTop (mkF m 177 #[.val (.int ax), .val (.int bx), .val (.int cx), .val (.int dx), .val (.int ex), .val (.int fx), .val (.ref b2), .val (.int v30), .val (.int v33), .unset, .unset] [(.int (((own_term lv (0 : Int32) v30 v33) + (own_term lv (1 : Int32) v30 v33)) + (own_term lv (2 : Int32) v30 v33)))])) _
                refine XS.aload X106.here hx rfl (hb hby at_177) rfl rfl  ?_
                show Steps p.tables e below (T106.setTop (mkF m 179 #[.val (.int ax), .val (.int bx), .val (.int cx), .val (.int dx), .val (.int ex), .val (.int fx), .val (.ref b2), .val (.int v30), .val (.int v33), .unset, .unset] [(.ref b2), (.int (((own_term lv (0 : Int32) v30 v33) + (own_term lv (1 : Int32) v30 v33)) + (own_term lv (2 : Int32) v30 v33)))])) _
                refine XS.iconst X106.here hx rfl (hb hby at_179) ?_
                show Steps p.tables e below (T106.setTop (mkF m 180 #[.val (.int ax), .val (.int bx), .val (.int cx), .val (.int dx), .val (.int ex), .val (.int fx), .val (.ref b2), .val (.int v30), .val (.int v33), .unset, .unset] [(.int (3 : Int32)), (.ref b2), (.int (((own_term lv (0 : Int32) v30 v33) + (own_term lv (1 : Int32) v30 v33)) + (own_term lv (2 : Int32) v30 v33)))])) _
                refine XS.iload X106.here hx rfl (hb hby at_180) rfl  ?_
                show Steps p.tables e below (T106.setTop (mkF m 182 #[.val (.int ax), .val (.int bx), .val (.int cx), .val (.int dx), .val (.int ex), .val (.int fx), .val (.ref b2), .val (.int v30), .val (.int v33), .unset, .unset] [(.int v30), (.int (3 : Int32)), (.ref b2), (.int (((own_term lv (0 : Int32) v30 v33) + (own_term lv (1 : Int32) v30 v33)) + (own_term lv (2 : Int32) v30 v33)))])) _
                refine XS.iload X106.here hx rfl (hb hby at_182) rfl  ?_
                exact k)
              obtain ⟨_, _, ⟨T109, L109, k109, n109⟩, -, X109, ⟨Lc109, hQ109, l109, y109, z109⟩, st109⟩ := Jvm.LawKit.callS X106 hx (y := (⟨"com/example/zbirka/zbirka/Iso2709ReaderDigitsPinLaw", "term", "([BIII)I"⟩ : MethodName)) hown (mvT hZ (hw _ (List.mem_of_getElem? (i := 8) rfl))) (mvT hZ (hw _ (List.mem_of_getElem? (i := 9) rfl))) (mvT hZ (hw _ (List.mem_of_getElem? (i := 3) rfl))) (mvT hZ (hw _ (List.mem_of_getElem? (i := 10) rfl))) (by decide) (backOf (W := 1) (rm3 l Z a0 hw [] b2 (3 : Int32) v30 v33 lv h27 n0 z27 Bv (by decide) (by rw [hl5]; decide)) hZ (hw _ (List.mem_of_getElem? (i := 10) rfl)) (hw _ (List.mem_of_getElem? (i := 3) rfl)) (by decide) (by decide)) (g := (mkF m 184 #[.val (.int ax), .val (.int bx), .val (.int cx), .val (.int dx), .val (.int ex), .val (.int fx), .val (.ref b2), .val (.int v30), .val (.int v33), .unset, .unset] [(.int v33), (.int v30), (.int (3 : Int32)), (.ref b2), (.int (((own_term lv (0 : Int32) v30 v33) + (own_term lv (1 : Int32) v30 v33)) + (own_term lv (2 : Int32) v30 v33)))])) rfl (by rw [hml]; rfl) (argsL := [(.ref b2), (.int (3 : Int32)), (.int v30), (.int v33)]) (rest := [(.int (((own_term lv (0 : Int32) v30 v33) + (own_term lv (1 : Int32) v30 v33)) + (own_term lv (2 : Int32) v30 v33)))]) (lenOf pd_lABIIIrI rfl) rfl (by show 2 * 0 + _ ≤ _; exact Nat.le_of_eq rfl) (hb hby at_184) (fun _ _ => ⟨rfl, e106, (by decide : 1 + 0 ≤ _), (by decide : 5 + 0 ≤ _)⟩)
              dsimp only [Pt.U, Pt.locs, Pt.cells, Pt.slots] at X109 l109 y109 z109 st109 hQ109
              subst l109 y109 z109
              obtain ⟨rfl, N109q, e109⟩ := hQ109
              have N109 := Fr.app N106 N109q
              have P110 : Wy p.tables e below (s₁.setTop (entryFrame m #[(.int ax), (.int bx), (.int cx), (.int dx), (.int ex), (.int fx)] maxLocals)) (T109.setTop (mkF m 187 #[.val (.int ax), .val (.int bx), .val (.int cx), .val (.int dx), .val (.int ex), .val (.int fx), .val (.ref b2), .val (.int v30), .val (.int v33), .unset, .unset] [(.int (own_term lv (3 : Int32) v30 v33)), (.int (((own_term lv (0 : Int32) v30 v33) + (own_term lv (1 : Int32) v30 v33)) + (own_term lv (2 : Int32) v30 v33)))])) := fun t k => P108 t (st109 _ k)
              have P111 : Wy p.tables e below (s₁.setTop (entryFrame m #[(.int ax), (.int bx), (.int cx), (.int dx), (.int ex), (.int fx)] maxLocals)) (T109.setTop (mkF m 195 #[.val (.int ax), .val (.int bx), .val (.int cx), .val (.int dx), .val (.int ex), .val (.int fx), .val (.ref b2), .val (.int v30), .val (.int v33), .unset, .unset] [(.int v33), (.int v30), (.int (4 : Int32)), (.ref b2), (.int ((((own_term lv (0 : Int32) v30 v33) + (own_term lv (1 : Int32) v30 v33)) + (own_term lv (2 : Int32) v30 v33)) + (own_term lv (3 : Int32) v30 v33)))])) := fun t k => P110 t (by
                show Steps p.tables e below (T109.setTop (mkF m 187 #[.val (.int ax), .val (.int bx), .val (.int cx), .val (.int dx), .val (.int ex), .val (.int fx), .val (.ref b2), .val (.int v30), .val (.int v33), .unset, .unset] [(.int (own_term lv (3 : Int32) v30 v33)), (.int (((own_term lv (0 : Int32) v30 v33) + (own_term lv (1 : Int32) v30 v33)) + (own_term lv (2 : Int32) v30 v33)))])) _
                refine XS.iadd X109.here hx rfl (hb hby at_187) rfl ?_
                show Steps p.tables e below (T109.setTop (mkF m 188 #[.val (.int ax), .val (.int bx), .val (.int cx), .val (.int dx), .val (.int ex), .val (.int fx), .val (.ref b2), .val (.int v30), .val (.int v33), .unset, .unset] [(.int ((((own_term lv (0 : Int32) v30 v33) + (own_term lv (1 : Int32) v30 v33)) + (own_term lv (2 : Int32) v30 v33)) + (own_term lv (3 : Int32) v30 v33)))])) _
                refine XS.aload X109.here hx rfl (hb hby at_188) rfl rfl  ?_
                show Steps p.tables e below (T109.setTop (mkF m 190 #[.val (.int ax), .val (.int bx), .val (.int cx), .val (.int dx), .val (.int ex), .val (.int fx), .val (.ref b2), .val (.int v30), .val (.int v33), .unset, .unset] [(.ref b2), (.int ((((own_term lv (0 : Int32) v30 v33) + (own_term lv (1 : Int32) v30 v33)) + (own_term lv (2 : Int32) v30 v33)) + (own_term lv (3 : Int32) v30 v33)))])) _
                refine XS.iconst X109.here hx rfl (hb hby at_190) ?_
                show Steps p.tables e below (T109.setTop (mkF m 191 #[.val (.int ax), .val (.int bx), .val (.int cx), .val (.int dx), .val (.int ex), .val (.int fx), .val (.ref b2), .val (.int v30), .val (.int v33), .unset, .unset] [(.int (4 : Int32)), (.ref b2), (.int ((((own_term lv (0 : Int32) v30 v33) + (own_term lv (1 : Int32) v30 v33)) + (own_term lv (2 : Int32) v30 v33)) + (own_term lv (3 : Int32) v30 v33)))])) _
                refine XS.iload X109.here hx rfl (hb hby at_191) rfl  ?_
                show Steps p.tables e below (T109.setTop (mkF m 193 #[.val (.int ax), .val (.int bx), .val (.int cx), .val (.int dx), .val (.int ex), .val (.int fx), .val (.ref b2), .val (.int v30), .val (.int v33), .unset, .unset] [(.int v30), (.int (4 : Int32)), (.ref b2), (.int ((((own_term lv (0 : Int32) v30 v33) + (own_term lv (1 : Int32) v30 v33)) + (own_term lv (2 : Int32) v30 v33)) + (own_term lv (3 : Int32) v30 v33)))])) _
                refine XS.iload X109.here hx rfl (hb hby at_193) rfl  ?_
                exact k)
              obtain ⟨_, _, ⟨T112, L112, k112, n112⟩, -, X112, ⟨Lc112, hQ112, l112, y112, z112⟩, st112⟩ := Jvm.LawKit.callS X109 hx (y := (⟨"com/example/zbirka/zbirka/Iso2709ReaderDigitsPinLaw", "term", "([BIII)I"⟩ : MethodName)) hown (mvT hZ (hw _ (List.mem_of_getElem? (i := 8) rfl))) (mvT hZ (hw _ (List.mem_of_getElem? (i := 9) rfl))) (mvT hZ (hw _ (List.mem_of_getElem? (i := 3) rfl))) (mvT hZ (hw _ (List.mem_of_getElem? (i := 10) rfl))) (by decide) (backOf (W := 1) (rm3 l Z a0 hw [] b2 (4 : Int32) v30 v33 lv h27 n0 z27 Bv (by decide) (by rw [hl5]; decide)) hZ (hw _ (List.mem_of_getElem? (i := 10) rfl)) (hw _ (List.mem_of_getElem? (i := 3) rfl)) (by decide) (by decide)) (g := (mkF m 195 #[.val (.int ax), .val (.int bx), .val (.int cx), .val (.int dx), .val (.int ex), .val (.int fx), .val (.ref b2), .val (.int v30), .val (.int v33), .unset, .unset] [(.int v33), (.int v30), (.int (4 : Int32)), (.ref b2), (.int ((((own_term lv (0 : Int32) v30 v33) + (own_term lv (1 : Int32) v30 v33)) + (own_term lv (2 : Int32) v30 v33)) + (own_term lv (3 : Int32) v30 v33)))])) rfl (by rw [hml]; rfl) (argsL := [(.ref b2), (.int (4 : Int32)), (.int v30), (.int v33)]) (rest := [(.int ((((own_term lv (0 : Int32) v30 v33) + (own_term lv (1 : Int32) v30 v33)) + (own_term lv (2 : Int32) v30 v33)) + (own_term lv (3 : Int32) v30 v33)))]) (lenOf pd_lABIIIrI rfl) rfl (by show 2 * 0 + _ ≤ _; exact Nat.le_of_eq rfl) (hb hby at_195) (fun _ _ => ⟨rfl, e109, (by decide : 1 + 0 ≤ _), (by decide : 5 + 0 ≤ _)⟩)
              dsimp only [Pt.U, Pt.locs, Pt.cells, Pt.slots] at X112 l112 y112 z112 st112 hQ112
              subst l112 y112 z112
              obtain ⟨rfl, N112q, e112⟩ := hQ112
              have N112 := Fr.app N109 N112q
              have P113 : Wy p.tables e below (s₁.setTop (entryFrame m #[(.int ax), (.int bx), (.int cx), (.int dx), (.int ex), (.int fx)] maxLocals)) (T112.setTop (mkF m 198 #[.val (.int ax), .val (.int bx), .val (.int cx), .val (.int dx), .val (.int ex), .val (.int fx), .val (.ref b2), .val (.int v30), .val (.int v33), .unset, .unset] [(.int (own_term lv (4 : Int32) v30 v33)), (.int ((((own_term lv (0 : Int32) v30 v33) + (own_term lv (1 : Int32) v30 v33)) + (own_term lv (2 : Int32) v30 v33)) + (own_term lv (3 : Int32) v30 v33)))])) := fun t k => P111 t (st112 _ k)
              have P114 : Wy p.tables e below (s₁.setTop (entryFrame m #[(.int ax), (.int bx), (.int cx), (.int dx), (.int ex), (.int fx)] maxLocals)) (T112.setTop (mkF m 201 #[.val (.int ax), .val (.int bx), .val (.int cx), .val (.int dx), .val (.int ex), .val (.int fx), .val (.ref b2), .val (.int v30), .val (.int v33), .val (.int (((((own_term lv (0 : Int32) v30 v33) + (own_term lv (1 : Int32) v30 v33)) + (own_term lv (2 : Int32) v30 v33)) + (own_term lv (3 : Int32) v30 v33)) + (own_term lv (4 : Int32) v30 v33))), .unset] [])) := fun t k => P113 t (by
                show Steps p.tables e below (T112.setTop (mkF m 198 #[.val (.int ax), .val (.int bx), .val (.int cx), .val (.int dx), .val (.int ex), .val (.int fx), .val (.ref b2), .val (.int v30), .val (.int v33), .unset, .unset] [(.int (own_term lv (4 : Int32) v30 v33)), (.int ((((own_term lv (0 : Int32) v30 v33) + (own_term lv (1 : Int32) v30 v33)) + (own_term lv (2 : Int32) v30 v33)) + (own_term lv (3 : Int32) v30 v33)))])) _
                refine XS.iadd X112.here hx rfl (hb hby at_198) rfl ?_
                show Steps p.tables e below (T112.setTop (mkF m 199 #[.val (.int ax), .val (.int bx), .val (.int cx), .val (.int dx), .val (.int ex), .val (.int fx), .val (.ref b2), .val (.int v30), .val (.int v33), .unset, .unset] [(.int (((((own_term lv (0 : Int32) v30 v33) + (own_term lv (1 : Int32) v30 v33)) + (own_term lv (2 : Int32) v30 v33)) + (own_term lv (3 : Int32) v30 v33)) + (own_term lv (4 : Int32) v30 v33)))])) _
                refine XS.istore X112.here hx rfl (hb hby at_199) rfl (l' := #[.val (.int ax), .val (.int bx), .val (.int cx), .val (.int dx), .val (.int ex), .val (.int fx), .val (.ref b2), .val (.int v30), .val (.int v33), .val (.int (((((own_term lv (0 : Int32) v30 v33) + (own_term lv (1 : Int32) v30 v33)) + (own_term lv (2 : Int32) v30 v33)) + (own_term lv (3 : Int32) v30 v33)) + (own_term lv (4 : Int32) v30 v33))), .unset]) rfl ?_
                exact k)
              exact ⟨T112, _, X112, e112, N112, (((((own_term lv (0 : Int32) v30 v33) + (own_term lv (1 : Int32) v30 v33)) + (own_term lv (2 : Int32) v30 v33)) + (own_term lv (3 : Int32) v30 v33)) + (own_term lv (4 : Int32) v30 v33)), (by simp only [if_pos hc84_82, if_pos hc97_86, if_pos hc110_90, if_pos hc123_94, if_pos hc136_98]), P114⟩
            · have P115 : Wy p.tables e below (s₁.setTop (entryFrame m #[(.int ax), (.int bx), (.int cx), (.int dx), (.int ex), (.int fx)] maxLocals)) (T96.setTop (mkF m 201 #[.val (.int ax), .val (.int bx), .val (.int cx), .val (.int dx), .val (.int ex), .val (.int fx), .val (.ref b2), .val (.int v30), .val (.int v33), .val (.int (-1 : Int32)), .unset] [])) := fun t k => P97 t (by
                show Steps p.tables e below (T96.setTop (mkF m 136 #[.val (.int ax), .val (.int bx), .val (.int cx), .val (.int dx), .val (.int ex), .val (.int fx), .val (.ref b2), .val (.int v30), .val (.int v33), .unset, .unset] [(.int (own_bad lv (4 : Int32) v30 v33))])) _
                refine XS.ifNo X96.here hx rfl (hb hby at_136) rfl ((if0 _ _).trans (feq hc136_98).1) ?_
                show Steps p.tables e below (T96.setTop (mkF m 139 #[.val (.int ax), .val (.int bx), .val (.int cx), .val (.int dx), .val (.int ex), .val (.int fx), .val (.ref b2), .val (.int v30), .val (.int v33), .unset, .unset] [])) _
                refine XS.iconst X96.here hx rfl (hb hby at_139) ?_
                show Steps p.tables e below (T96.setTop (mkF m 140 #[.val (.int ax), .val (.int bx), .val (.int cx), .val (.int dx), .val (.int ex), .val (.int fx), .val (.ref b2), .val (.int v30), .val (.int v33), .unset, .unset] [(.int (-1 : Int32))])) _
                refine XS.istore X96.here hx rfl (hb hby at_140) rfl (l' := #[.val (.int ax), .val (.int bx), .val (.int cx), .val (.int dx), .val (.int ex), .val (.int fx), .val (.ref b2), .val (.int v30), .val (.int v33), .val (.int (-1 : Int32)), .unset]) rfl ?_
                show Steps p.tables e below (T96.setTop (mkF m 142 #[.val (.int ax), .val (.int bx), .val (.int cx), .val (.int dx), .val (.int ex), .val (.int fx), .val (.ref b2), .val (.int v30), .val (.int v33), .val (.int (-1 : Int32)), .unset] [])) _
                refine XS.goto X96.here hx rfl (pc0 := 142) (pc' := 201) rfl (hb hby at_142) (by decide) (by decide) ?_
                exact k)
              exact ⟨T96, _, X96, e96, N96, (-1 : Int32), (by simp only [if_pos hc84_82, if_pos hc97_86, if_pos hc110_90, if_pos hc123_94, if_neg hc136_98]), P115⟩
          · have P116 : Wy p.tables e below (s₁.setTop (entryFrame m #[(.int ax), (.int bx), (.int cx), (.int dx), (.int ex), (.int fx)] maxLocals)) (T92.setTop (mkF m 201 #[.val (.int ax), .val (.int bx), .val (.int cx), .val (.int dx), .val (.int ex), .val (.int fx), .val (.ref b2), .val (.int v30), .val (.int v33), .val (.int (-1 : Int32)), .unset] [])) := fun t k => P93 t (by
              show Steps p.tables e below (T92.setTop (mkF m 123 #[.val (.int ax), .val (.int bx), .val (.int cx), .val (.int dx), .val (.int ex), .val (.int fx), .val (.ref b2), .val (.int v30), .val (.int v33), .unset, .unset] [(.int (own_bad lv (3 : Int32) v30 v33))])) _
              refine XS.ifYes X92.here hx rfl (pc0 := 123) (pc' := 139) rfl (hb hby at_123) rfl ((if0 _ _).trans (feq hc123_94).2) (by decide) (by decide) ?_
              show Steps p.tables e below (T92.setTop (mkF m 139 #[.val (.int ax), .val (.int bx), .val (.int cx), .val (.int dx), .val (.int ex), .val (.int fx), .val (.ref b2), .val (.int v30), .val (.int v33), .unset, .unset] [])) _
              refine XS.iconst X92.here hx rfl (hb hby at_139) ?_
              show Steps p.tables e below (T92.setTop (mkF m 140 #[.val (.int ax), .val (.int bx), .val (.int cx), .val (.int dx), .val (.int ex), .val (.int fx), .val (.ref b2), .val (.int v30), .val (.int v33), .unset, .unset] [(.int (-1 : Int32))])) _
              refine XS.istore X92.here hx rfl (hb hby at_140) rfl (l' := #[.val (.int ax), .val (.int bx), .val (.int cx), .val (.int dx), .val (.int ex), .val (.int fx), .val (.ref b2), .val (.int v30), .val (.int v33), .val (.int (-1 : Int32)), .unset]) rfl ?_
              show Steps p.tables e below (T92.setTop (mkF m 142 #[.val (.int ax), .val (.int bx), .val (.int cx), .val (.int dx), .val (.int ex), .val (.int fx), .val (.ref b2), .val (.int v30), .val (.int v33), .val (.int (-1 : Int32)), .unset] [])) _
              refine XS.goto X92.here hx rfl (pc0 := 142) (pc' := 201) rfl (hb hby at_142) (by decide) (by decide) ?_
              exact k)
            exact ⟨T92, _, X92, e92, N92, (-1 : Int32), (by simp only [if_pos hc84_82, if_pos hc97_86, if_pos hc110_90, if_neg hc123_94]), P116⟩
        · have P117 : Wy p.tables e below (s₁.setTop (entryFrame m #[(.int ax), (.int bx), (.int cx), (.int dx), (.int ex), (.int fx)] maxLocals)) (T88.setTop (mkF m 201 #[.val (.int ax), .val (.int bx), .val (.int cx), .val (.int dx), .val (.int ex), .val (.int fx), .val (.ref b2), .val (.int v30), .val (.int v33), .val (.int (-1 : Int32)), .unset] [])) := fun t k => P89 t (by
            show Steps p.tables e below (T88.setTop (mkF m 110 #[.val (.int ax), .val (.int bx), .val (.int cx), .val (.int dx), .val (.int ex), .val (.int fx), .val (.ref b2), .val (.int v30), .val (.int v33), .unset, .unset] [(.int (own_bad lv (2 : Int32) v30 v33))])) _
            refine XS.ifYes X88.here hx rfl (pc0 := 110) (pc' := 139) rfl (hb hby at_110) rfl ((if0 _ _).trans (feq hc110_90).2) (by decide) (by decide) ?_
            show Steps p.tables e below (T88.setTop (mkF m 139 #[.val (.int ax), .val (.int bx), .val (.int cx), .val (.int dx), .val (.int ex), .val (.int fx), .val (.ref b2), .val (.int v30), .val (.int v33), .unset, .unset] [])) _
            refine XS.iconst X88.here hx rfl (hb hby at_139) ?_
            show Steps p.tables e below (T88.setTop (mkF m 140 #[.val (.int ax), .val (.int bx), .val (.int cx), .val (.int dx), .val (.int ex), .val (.int fx), .val (.ref b2), .val (.int v30), .val (.int v33), .unset, .unset] [(.int (-1 : Int32))])) _
            refine XS.istore X88.here hx rfl (hb hby at_140) rfl (l' := #[.val (.int ax), .val (.int bx), .val (.int cx), .val (.int dx), .val (.int ex), .val (.int fx), .val (.ref b2), .val (.int v30), .val (.int v33), .val (.int (-1 : Int32)), .unset]) rfl ?_
            show Steps p.tables e below (T88.setTop (mkF m 142 #[.val (.int ax), .val (.int bx), .val (.int cx), .val (.int dx), .val (.int ex), .val (.int fx), .val (.ref b2), .val (.int v30), .val (.int v33), .val (.int (-1 : Int32)), .unset] [])) _
            refine XS.goto X88.here hx rfl (pc0 := 142) (pc' := 201) rfl (hb hby at_142) (by decide) (by decide) ?_
            exact k)
          exact ⟨T88, _, X88, e88, N88, (-1 : Int32), (by simp only [if_pos hc84_82, if_pos hc97_86, if_neg hc110_90]), P117⟩
      · have P118 : Wy p.tables e below (s₁.setTop (entryFrame m #[(.int ax), (.int bx), (.int cx), (.int dx), (.int ex), (.int fx)] maxLocals)) (T84.setTop (mkF m 201 #[.val (.int ax), .val (.int bx), .val (.int cx), .val (.int dx), .val (.int ex), .val (.int fx), .val (.ref b2), .val (.int v30), .val (.int v33), .val (.int (-1 : Int32)), .unset] [])) := fun t k => P85 t (by
          show Steps p.tables e below (T84.setTop (mkF m 97 #[.val (.int ax), .val (.int bx), .val (.int cx), .val (.int dx), .val (.int ex), .val (.int fx), .val (.ref b2), .val (.int v30), .val (.int v33), .unset, .unset] [(.int (own_bad lv (1 : Int32) v30 v33))])) _
          refine XS.ifYes X84.here hx rfl (pc0 := 97) (pc' := 139) rfl (hb hby at_97) rfl ((if0 _ _).trans (feq hc97_86).2) (by decide) (by decide) ?_
          show Steps p.tables e below (T84.setTop (mkF m 139 #[.val (.int ax), .val (.int bx), .val (.int cx), .val (.int dx), .val (.int ex), .val (.int fx), .val (.ref b2), .val (.int v30), .val (.int v33), .unset, .unset] [])) _
          refine XS.iconst X84.here hx rfl (hb hby at_139) ?_
          show Steps p.tables e below (T84.setTop (mkF m 140 #[.val (.int ax), .val (.int bx), .val (.int cx), .val (.int dx), .val (.int ex), .val (.int fx), .val (.ref b2), .val (.int v30), .val (.int v33), .unset, .unset] [(.int (-1 : Int32))])) _
          refine XS.istore X84.here hx rfl (hb hby at_140) rfl (l' := #[.val (.int ax), .val (.int bx), .val (.int cx), .val (.int dx), .val (.int ex), .val (.int fx), .val (.ref b2), .val (.int v30), .val (.int v33), .val (.int (-1 : Int32)), .unset]) rfl ?_
          show Steps p.tables e below (T84.setTop (mkF m 142 #[.val (.int ax), .val (.int bx), .val (.int cx), .val (.int dx), .val (.int ex), .val (.int fx), .val (.ref b2), .val (.int v30), .val (.int v33), .val (.int (-1 : Int32)), .unset] [])) _
          refine XS.goto X84.here hx rfl (pc0 := 142) (pc' := 201) rfl (hb hby at_142) (by decide) (by decide) ?_
          exact k)
        exact ⟨T84, _, X84, e84, N84, (-1 : Int32), (by simp only [if_pos hc84_82, if_neg hc97_86]), P118⟩
    · have P119 : Wy p.tables e below (s₁.setTop (entryFrame m #[(.int ax), (.int bx), (.int cx), (.int dx), (.int ex), (.int fx)] maxLocals)) (T80.setTop (mkF m 201 #[.val (.int ax), .val (.int bx), .val (.int cx), .val (.int dx), .val (.int ex), .val (.int fx), .val (.ref b2), .val (.int v30), .val (.int v33), .val (.int (-1 : Int32)), .unset] [])) := fun t k => P81 t (by
        show Steps p.tables e below (T80.setTop (mkF m 84 #[.val (.int ax), .val (.int bx), .val (.int cx), .val (.int dx), .val (.int ex), .val (.int fx), .val (.ref b2), .val (.int v30), .val (.int v33), .unset, .unset] [(.int (own_bad lv (0 : Int32) v30 v33))])) _
        refine XS.ifYes X80.here hx rfl (pc0 := 84) (pc' := 139) rfl (hb hby at_84) rfl ((if0 _ _).trans (feq hc84_82).2) (by decide) (by decide) ?_
        show Steps p.tables e below (T80.setTop (mkF m 139 #[.val (.int ax), .val (.int bx), .val (.int cx), .val (.int dx), .val (.int ex), .val (.int fx), .val (.ref b2), .val (.int v30), .val (.int v33), .unset, .unset] [])) _
        refine XS.iconst X80.here hx rfl (hb hby at_139) ?_
        show Steps p.tables e below (T80.setTop (mkF m 140 #[.val (.int ax), .val (.int bx), .val (.int cx), .val (.int dx), .val (.int ex), .val (.int fx), .val (.ref b2), .val (.int v30), .val (.int v33), .unset, .unset] [(.int (-1 : Int32))])) _
        refine XS.istore X80.here hx rfl (hb hby at_140) rfl (l' := #[.val (.int ax), .val (.int bx), .val (.int cx), .val (.int dx), .val (.int ex), .val (.int fx), .val (.ref b2), .val (.int v30), .val (.int v33), .val (.int (-1 : Int32)), .unset]) rfl ?_
        show Steps p.tables e below (T80.setTop (mkF m 142 #[.val (.int ax), .val (.int bx), .val (.int cx), .val (.int dx), .val (.int ex), .val (.int fx), .val (.ref b2), .val (.int v30), .val (.int v33), .val (.int (-1 : Int32)), .unset] [])) _
        refine XS.goto X80.here hx rfl (pc0 := 142) (pc' := 201) rfl (hb hby at_142) (by decide) (by decide) ?_
        exact k)
      exact ⟨T80, _, X80, e80, N80, (-1 : Int32), (by simp only [if_neg hc84_82]), P119⟩
  have P120 : Wy p.tables e below (s₁.setTop (entryFrame m #[(.int ax), (.int bx), (.int cx), (.int dx), (.int ex), (.int fx)] maxLocals)) (T78.setTop (mkF m 207 #[.val (.int ax), .val (.int bx), .val (.int cx), .val (.int dx), .val (.int ex), .val (.int fx), .val (.ref b2), .val (.int v30), .val (.int v33), .val (.int r76), .unset] [(.int v33), (.int v30), (.ref b2)])) := fun t k => P77 t (by
    show Steps p.tables e below (T78.setTop (mkF m 201 #[.val (.int ax), .val (.int bx), .val (.int cx), .val (.int dx), .val (.int ex), .val (.int fx), .val (.ref b2), .val (.int v30), .val (.int v33), .val (.int r76), .unset] [])) _
    refine XS.aload X78.here hx rfl (hb hby at_201) rfl rfl  ?_
    show Steps p.tables e below (T78.setTop (mkF m 203 #[.val (.int ax), .val (.int bx), .val (.int cx), .val (.int dx), .val (.int ex), .val (.int fx), .val (.ref b2), .val (.int v30), .val (.int v33), .val (.int r76), .unset] [(.ref b2)])) _
    refine XS.iload X78.here hx rfl (hb hby at_203) rfl  ?_
    show Steps p.tables e below (T78.setTop (mkF m 205 #[.val (.int ax), .val (.int bx), .val (.int cx), .val (.int dx), .val (.int ex), .val (.int fx), .val (.ref b2), .val (.int v30), .val (.int v33), .val (.int r76), .unset] [(.int v30), (.ref b2)])) _
    refine XS.iload X78.here hx rfl (hb hby at_205) rfl  ?_
    exact k)
  obtain ⟨_, _, ⟨T121, L121, k121, n121⟩, -, X121, ⟨Lc121, hQ121, l121, y121, z121⟩, st121⟩ := Jvm.LawKit.callS X78 hx (y := (⟨"com/example/zbirka/zbirka/Iso2709Reader", "digits", "([BII)I"⟩ : MethodName)) hown (mvT hZ (hw _ (List.mem_of_getElem? (i := 11) rfl))) (mvT hZ (hw _ (List.mem_of_getElem? (i := 12) rfl))) (mvT hZ (hw _ (List.mem_of_getElem? (i := 13) rfl))) (mvT hZ (hw _ (List.mem_of_getElem? (i := 14) rfl))) (by decide) (backOf (W := 0) (rm4 l Z a0 hw [] b2 v30 v33 lv fn tn h27 n0 z27 Bv hfn htn hlt hl4 hft) hZ (hw _ (List.mem_of_getElem? (i := 14) rfl)) (hw _ (List.mem_of_getElem? (i := 13) rfl)) (by decide) (by decide)) (g := (mkF m 207 #[.val (.int ax), .val (.int bx), .val (.int cx), .val (.int dx), .val (.int ex), .val (.int fx), .val (.ref b2), .val (.int v30), .val (.int v33), .val (.int r76), .unset] [(.int v33), (.int v30), (.ref b2)])) rfl (by rw [hml]; rfl) (argsL := [(.ref b2), (.int v30), (.int v33)]) (rest := []) (lenOf pd_lABIIrI rfl) rfl (by show 2 * 0 + _ ≤ _; exact Nat.le_of_eq rfl) (hb hby at_207) (fun _ _ => ⟨rfl, e78, (by decide : 1 + 0 ≤ _), (by decide : 5 + 0 ≤ _)⟩)
  dsimp only [Pt.U, Pt.locs, Pt.cells, Pt.slots] at X121 l121 y121 z121 st121 hQ121
  subst l121 y121 z121
  obtain ⟨rfl, N121q, e121⟩ := hQ121
  have N121 := Fr.app N78 N121q
  have P122 : Wy p.tables e below (s₁.setTop (entryFrame m #[(.int ax), (.int bx), (.int cx), (.int dx), (.int ex), (.int fx)] maxLocals)) (T121.setTop (mkF m 210 #[.val (.int ax), .val (.int bx), .val (.int cx), .val (.int dx), .val (.int ex), .val (.int fx), .val (.ref b2), .val (.int v30), .val (.int v33), .val (.int r76), .unset] [(.int (own_D lv (tn - fn) fn 0))])) := fun t k => P120 t (st121 _ k)
  have P123 : Wy p.tables e below (s₁.setTop (entryFrame m #[(.int ax), (.int bx), (.int cx), (.int dx), (.int ex), (.int fx)] maxLocals)) (T121.setTop (mkF m 212 #[.val (.int ax), .val (.int bx), .val (.int cx), .val (.int dx), .val (.int ex), .val (.int fx), .val (.ref b2), .val (.int v30), .val (.int v33), .val (.int r76), .val (.int (own_D lv (tn - fn) fn 0))] [])) := fun t k => P122 t (by
    show Steps p.tables e below (T121.setTop (mkF m 210 #[.val (.int ax), .val (.int bx), .val (.int cx), .val (.int dx), .val (.int ex), .val (.int fx), .val (.ref b2), .val (.int v30), .val (.int v33), .val (.int r76), .unset] [(.int (own_D lv (tn - fn) fn 0))])) _
    refine XS.istore X121.here hx rfl (hb hby at_210) rfl (l' := #[.val (.int ax), .val (.int bx), .val (.int cx), .val (.int dx), .val (.int ex), .val (.int fx), .val (.ref b2), .val (.int v30), .val (.int v33), .val (.int r76), .val (.int (own_D lv (tn - fn) fn 0))]) rfl ?_
    exact k)
  obtain ⟨v124, hv124⟩ : ∃ z : Int32, z = (own_D lv (tn - fn) fn 0) := ⟨_, rfl⟩
  have P125 : Wy p.tables e below (s₁.setTop (entryFrame m #[(.int ax), (.int bx), (.int cx), (.int dx), (.int ex), (.int fx)] maxLocals)) (T121.setTop (mkF m 212 #[.val (.int ax), .val (.int bx), .val (.int cx), .val (.int dx), .val (.int ex), .val (.int fx), .val (.ref b2), .val (.int v30), .val (.int v33), .val (.int r76), .val (.int v124)] [])) := fun t k => by subst hv124; exact P123 t k
  have P126 : Wy p.tables e below (s₁.setTop (entryFrame m #[(.int ax), (.int bx), (.int cx), (.int dx), (.int ex), (.int fx)] maxLocals)) (T121.setTop (mkF m 224 #[.val (.int ax), .val (.int bx), .val (.int cx), .val (.int dx), .val (.int ex), .val (.int fx), .val (.ref b2), .val (.int v30), .val (.int v33), .val (.int r76), .val (.int v124)] [(.int (1 : Int32))])) := fun t k => P125 t (by
    show Steps p.tables e below (T121.setTop (mkF m 212 #[.val (.int ax), .val (.int bx), .val (.int cx), .val (.int dx), .val (.int ex), .val (.int fx), .val (.ref b2), .val (.int v30), .val (.int v33), .val (.int r76), .val (.int v124)] [])) _
    refine XS.iload X121.here hx rfl (hb hby at_212) rfl  ?_
    show Steps p.tables e below (T121.setTop (mkF m 214 #[.val (.int ax), .val (.int bx), .val (.int cx), .val (.int dx), .val (.int ex), .val (.int fx), .val (.ref b2), .val (.int v30), .val (.int v33), .val (.int r76), .val (.int v124)] [(.int v124)])) _
    refine XS.iload X121.here hx rfl (hb hby at_214) rfl  ?_
    show Steps p.tables e below (T121.setTop (mkF m 216 #[.val (.int ax), .val (.int bx), .val (.int cx), .val (.int dx), .val (.int ex), .val (.int fx), .val (.ref b2), .val (.int v30), .val (.int v33), .val (.int r76), .val (.int v124)] [(.int r76), (.int v124)])) _
    refine XS.icmpNo X121.here hx rfl (hb hby at_216) rfl (teq (by rw [hv124, hr76, hlv]; exact own_law _ _ _ _ _ hft ht5 hfn htn : v124 = r76)).2 ?_
    show Steps p.tables e below (T121.setTop (mkF m 219 #[.val (.int ax), .val (.int bx), .val (.int cx), .val (.int dx), .val (.int ex), .val (.int fx), .val (.ref b2), .val (.int v30), .val (.int v33), .val (.int r76), .val (.int v124)] [])) _
    refine XS.iconst X121.here hx rfl (hb hby at_219) ?_
    show Steps p.tables e below (T121.setTop (mkF m 220 #[.val (.int ax), .val (.int bx), .val (.int cx), .val (.int dx), .val (.int ex), .val (.int fx), .val (.ref b2), .val (.int v30), .val (.int v33), .val (.int r76), .val (.int v124)] [(.int (1 : Int32))])) _
    refine XS.goto X121.here hx rfl (pc0 := 220) (pc' := 224) rfl (hb hby at_220) (by decide) (by decide) ?_
    exact k)
  obtain ⟨fs, hr, hrun, hended, hW, hsame⟩ := X121.leave (v := some (.int (nar .boolean (1 : Int32)))) (fun h => by rw [Bd.returns] at h; cases h)
  refine ⟨_, _, P126 _ ?_, hrun, hended, _, _, rfl, ?_, ⟨_, rfl⟩, hW, hsame.mono (by decide) (by decide)⟩
  · show Steps p.tables e below (T121.setTop (mkF m 224 #[.val (.int ax), .val (.int bx), .val (.int cx), .val (.int dx), .val (.int ex), .val (.int fx), .val (.ref b2), .val (.int v30), .val (.int v33), .val (.int r76), .val (.int v124)] [(.int (1 : Int32))])) _
    exact retN X121 hx (t := .boolean) Bd.returns (by simp) (hb hby at_224) hr
  · show Q0 Z ax bx cx dx ex fx h0 n0 _ T121.heap _
    rw [e121]
    exact ⟨rfl, N121⟩
set_option maxRecDepth 65536 in
set_option maxHeartbeats 40000000 in
theorem comes_1 {Post : Tables → Env → Array Value → State → Outcome → State → Prop} (hpost : ∀ tb e args s v u, (limb_1_1.after args s (.returned v) u = true ∧ limb_1_2.after args s (.returned v) u = true ∧ True) → FrameEnd s (.returned v) u (Jvm.fieldLocs frame_1_writes args s ++ Jvm.arrayLocs frame_1_arrays args s ++ Jvm.staticLocs frame_1_statics s) 16 128 → Post tb e args s (.returned v) u) :
    ArmFor flags0 classFile x code maxLocals ret World_1 tables_1 room_1 Calls_1 rest_1 Pre_1 Post := by
  intro l hfl _ _ p e ha hc hk s m args below hf hA hF happ hP
  obtain ⟨hcalls, hrest, hpre⟩ := hP
  obtain ⟨-, -, -, hnamed, -, -, -, hat⟩ := (Spec.applies_iff hf).mp happ
  obtain ⟨hg, hn⟩ := and_e (Cond.before_iff.mp (show (Jvm.Cond.and given_1 narrow_1).before args s = true from hpre))
  obtain ⟨g1, g2⟩ := and_e hg
  obtain ⟨g3, g4⟩ := and_e g2
  obtain ⟨g5, g6⟩ := and_e g4
  obtain ⟨g7, g8⟩ := and_e g6
  obtain ⟨g9, g10⟩ := and_e g8
  obtain ⟨g11, g12⟩ := and_e g10
  obtain ⟨w0, w1, w2, w3, w4, w5, rfl⟩ : ∃ w0 w1 w2 w3 w4 w5 : Value, args = #[w0, w1, w2, w3, w4, w5] := by
    have hs : args.size = 6 := by simpa [Cond.value, given_1] using g1
    obtain ⟨L⟩ := args
    match L, hs with
    | [w0, w1, w2, w3, w4, w5], _ => exact ⟨w0, w1, w2, w3, w4, w5, rfl⟩
  have hw := fun d (hd : d ∈ tables_1) => atoms_spec (ws := Jvm.Cond.code x code maxLocals ret :: tables_1) hat d (List.mem_cons_of_mem _ hd)
  have hfit : Fit s := fun {y c} hc i hi => by
    obtain ⟨ha, rfl⟩ := Array.getElem?_eq_some_iff.mp hc
    have q := List.all_eq_true.mp ((Array.all_eq_true_iff_forall_mem.mp hF) _ (Array.getElem_mem ha)) i (List.mem_range.mpr hi)
    simpa [Array.getElem?_eq_getElem hi] using q
  obtain ⟨i0, ei0⟩ := is_v g3
  obtain rfl : w0 = (.int i0) := Option.some.inj ei0
  obtain ⟨i1, ei1⟩ := is_v g5
  obtain rfl : w1 = (.int i1) := Option.some.inj ei1
  obtain ⟨i2, ei2⟩ := is_v g7
  obtain rfl : w2 = (.int i2) := Option.some.inj ei2
  obtain ⟨i3, ei3⟩ := is_v g9
  obtain rfl : w3 = (.int i3) := Option.some.inj ei3
  obtain ⟨i4, ei4⟩ := is_v g11
  obtain rfl : w4 = (.int i4) := Option.some.inj ei4
  obtain ⟨i5, ei5⟩ := is_v g12
  obtain rfl : w5 = (.int i5) := Option.some.inj ei5
  obtain ⟨n, o, h1, h2, h3, _, L, rfl, ⟨rfl, N⟩, hq⟩ := rm0 l s _ hw tables_1 i0 i1 i2 i3 i4 i5 s.heap s.heap.size (Nat.le_refl _)  p e ha hc hk s m _ below hf ((Spec.applies_iff_loose hf).mp happ).1 ⟨rfl, State.Warmed39.refl s, rfl⟩ trivial
  refine ⟨n, _, h1, h2, h3, hpost _ _ _ _ _ _ ⟨Cond.after_iff.mpr rfl, Cond.after_iff.mpr (eq_i res_at (Term.int_eval (1)) rfl), trivial⟩ ⟨hq.1, hq.2.1, (hq.2.2.sift fun y hy => Or.inr (N y hy)).mono (by decide) (by decide)⟩⟩
theorem main_1_1 : Claimed_1_1 := comes_1 fun _ _ _ _ _ _ h hF => ⟨h.1, hF⟩
theorem main_1_2 : Claimed_1_2 := comes_1 fun _ _ _ _ _ _ h hF => ⟨h.2.1, hF⟩
end Jvm.Pilot.@@N@@
namespace Jvm.Pilot.@@N@@
open Jvm Jvm.ClassFile Sem Op Lib Jvm.Free Jvm.Stand Jvm.Pilot.@@N@@.Jvm.D
/-! MADE BY PROGRAM (witnessworld.py) out of the Statement's table words and the real class files: 12 classes; the members and pool entries that the words name. The judged class is class 1, her method 1. -/
namespace start1
open Jvm.ClassFile
def u (s : String) : CpInfo := .utf8 (stringToUtf16 s)
/-- a pool by its gaps: so many unusable entries, then the entry; so many at the end -/
def gap : Nat → List CpInfo → List CpInfo
  | 0, r => r
  | n + 1, r => .unusable :: gap n r
def poolList (es : List (Nat × CpInfo)) (last : Nat) : List CpInfo := es.foldr (fun e r => gap e.1 (e.2 :: r)) (gap last [])
def pool (es : List (Nat × CpInfo)) (last : Nat) : Array CpInfo := ⟨poolList es last⟩
def fileOf (pool : Array CpInfo) (this : Nat) (attrs : Array Attribute := #[]) (ms : Array MethodInfo := #[]) (fl : Nat := 33) (sup : Nat := 0) (ifs : Array Nat := #[]) (fds : Array FieldInfo := #[]) : ClassFile where
  minorVersion := 0
  majorVersion := 65
  constantPool := pool
  accessFlags := fl
  thisClass := this
  superClass := sup
  interfaces := ifs
  fields := fds
  methods := ms
  attributes := attrs
def plain (name : String) (sup : Option ClassId) : Class where
  name := name
  kind := .ordinary
  loader := none
  accessFlags := 33
  super := sup
  interfaces := #[]
  cf := none
  fields := #[]
  methods := #[]
  instanceTypes := #[]
  staticTypes := #[]
  resolved := #[]
  callSites := []
  init := .initialized
  statics := none
  mirror := none

def pool0 : Array CpInfo := pool [(5, u "<init>"), (0, u "()V"), (1, .class_ 10), (1, u "java/lang/Object")] 113

def k0m0 : Method := { name := "<init>", desc := "()V", sig := { parameters := [], returnType := none }, accessFlags := 1, code := none }
/-- java/lang/Object -/
def k0 : Class := { plain "java/lang/Object" none with
  accessFlags := 33
  interfaces := #[]
  cf := some (fileOf pool0 8 #[] #[{ accessFlags := 1, nameIndex := 5, descriptorIndex := 6, attributes := #[] }] 33 0 #[] #[])
  fields := #[]
  methods := #[k0m0]
  instanceTypes := #[]
  staticTypes := #[]
  resolved := Array.replicate 124 none
  statics := none }

def pool1 : Array CpInfo := pool [(2, .class_ 4), (1, u "java/lang/Object"), (0, u "<init>"), (0, u "()V"), (0, .methodref 8 9), (0, .class_ 10), (0, .nameAndType 11 12), (0, u "com/example/zbirka/zbirka/Iso2709ReaderDigitsPinLaw"), (0, u "mk"), (0, u "(I)B"), (0, .methodref 8 14), (0, .nameAndType 15 16), (0, u "bad"), (0, u "([BIII)Z"), (0, .methodref 8 18), (0, .nameAndType 19 20), (0, u "term"), (0, u "([BIII)I"), (0, .methodref 22 23), (0, .class_ 24), (0, .nameAndType 25 26), (0, u "com/example/zbirka/zbirka/Iso2709Reader"), (0, u "digits"), (0, u "([BII)I"), (0, .methodref 8 28), (0, .nameAndType 29 30), (0, u "isDigit"), (0, u "(B)Z"), (0, .methodref 8 32), (0, .nameAndType 33 34), (0, u "pow10"), (0, u "(I)I"), (2, u "law"), (0, u "(IIIIII)Z")] 5

def k1m0 : Method := { name := "<init>", desc := "()V", sig := { parameters := [], returnType := none }, accessFlags := 2, code := none }
def k1c1 : Code := { maxStack := 5, maxLocals := 11, code := code, exceptionTable := #[], attributes := #[] }
def k1m1 : Method := { name := "law", desc := "(IIIIII)Z", sig := { parameters := [.int, .int, .int, .int, .int, .int], returnType := some .boolean }, accessFlags := 9, code := some k1c1 }
def k1c2 : Code := { maxStack := 3, maxLocals := 1, code := method_3_code, exceptionTable := #[], attributes := #[] }
def k1m2 : Method := { name := "mk", desc := "(I)B", sig := { parameters := [.int], returnType := some .byte }, accessFlags := 10, code := some k1c2 }
def k1c3 : Code := { maxStack := 2, maxLocals := 1, code := method_4_code, exceptionTable := #[], attributes := #[] }
def k1m3 : Method := { name := "isDigit", desc := "(B)Z", sig := { parameters := [.byte], returnType := some .boolean }, accessFlags := 10, code := some k1c3 }
def k1c4 : Code := { maxStack := 2, maxLocals := 4, code := method_5_code, exceptionTable := #[], attributes := #[] }
def k1m4 : Method := { name := "bad", desc := "([BIII)Z", sig := { parameters := [(.array .byte), .int, .int, .int], returnType := some .boolean }, accessFlags := 10, code := some k1c4 }
def k1c5 : Code := { maxStack := 2, maxLocals := 1, code := method_6_code, exceptionTable := #[], attributes := #[] }
def k1m5 : Method := { name := "pow10", desc := "(I)I", sig := { parameters := [.int], returnType := some .int }, accessFlags := 10, code := some k1c5 }
def k1c6 : Code := { maxStack := 3, maxLocals := 4, code := method_7_code, exceptionTable := #[], attributes := #[] }
def k1m6 : Method := { name := "term", desc := "([BIII)I", sig := { parameters := [(.array .byte), .int, .int, .int], returnType := some .int }, accessFlags := 10, code := some k1c6 }
/-- com/example/zbirka/zbirka/Iso2709ReaderDigitsPinLaw -/
def k1 : Class := { plain "com/example/zbirka/zbirka/Iso2709ReaderDigitsPinLaw" (some 0) with
  accessFlags := 49
  interfaces := #[]
  cf := some (fileOf pool1 8 #[] #[{ accessFlags := 2, nameIndex := 5, descriptorIndex := 6, attributes := #[] }, { accessFlags := 9, nameIndex := 37, descriptorIndex := 38, attributes := #[] }, { accessFlags := 10, nameIndex := 11, descriptorIndex := 12, attributes := #[] }, { accessFlags := 10, nameIndex := 29, descriptorIndex := 30, attributes := #[] }, { accessFlags := 10, nameIndex := 15, descriptorIndex := 16, attributes := #[] }, { accessFlags := 10, nameIndex := 33, descriptorIndex := 34, attributes := #[] }, { accessFlags := 10, nameIndex := 19, descriptorIndex := 20, attributes := #[] }] 49 2 #[] #[])
  fields := #[]
  methods := #[k1m0, k1m1, k1m2, k1m3, k1m4, k1m5, k1m6]
  instanceTypes := #[]
  staticTypes := #[]
  resolved := Array.replicate 44 none
  statics := none }

def pool2 : Array CpInfo := pool [(1, .class_ 2), (0, u "java/lang/AutoCloseable"), (0, .class_ 4), (0, u "java/lang/Object")] 7

/-- java/lang/AutoCloseable -/
def k2 : Class := { plain "java/lang/AutoCloseable" (some 0) with
  accessFlags := 1537
  interfaces := #[]
  cf := some (fileOf pool2 1 #[] #[] 1537 3 #[] #[])
  fields := #[]
  methods := #[]
  instanceTypes := #[]
  staticTypes := #[]
  resolved := Array.replicate 12 none
  statics := none }

def pool3 : Array CpInfo := pool [(1, .class_ 2), (0, u "java/io/Closeable"), (0, .class_ 4), (0, u "java/lang/Object"), (0, .class_ 6), (0, u "java/lang/AutoCloseable")] 7

/-- java/io/Closeable -/
def k3 : Class := { plain "java/io/Closeable" (some 0) with
  accessFlags := 1537
  interfaces := #[2]
  cf := some (fileOf pool3 1 #[] #[] 1537 3 #[5] #[])
  fields := #[]
  methods := #[]
  instanceTypes := #[]
  staticTypes := #[]
  resolved := Array.replicate 14 none
  statics := none }

def pool4 : Array CpInfo := pool [(1, .class_ 2), (0, u "com/example/zbirka/zbirka/RecordReader"), (0, .class_ 4), (0, u "java/lang/Object"), (0, .class_ 6), (0, u "java/io/Closeable")] 13

/-- com/example/zbirka/zbirka/RecordReader -/
def k4 : Class := { plain "com/example/zbirka/zbirka/RecordReader" (some 0) with
  accessFlags := 1537
  interfaces := #[3]
  cf := some (fileOf pool4 1 #[] #[] 1537 3 #[5] #[])
  fields := #[]
  methods := #[]
  instanceTypes := #[]
  staticTypes := #[]
  resolved := Array.replicate 20 none
  statics := none }

def pool5 : Array CpInfo := pool [(6, u "Lcom/example/zbirka/zbirka/FieldShapes;"), (1, .class_ 10), (1, u "com/example/zbirka/zbirka/Iso2709Reader"), (3, .class_ 16), (1, u "java/lang/Object"), (9, u "in"), (0, u "Ljava/io/BufferedInputStream;"), (2, u "shapes"), (2, u "mended"), (0, u "Lcom/example/zbirka/zbirka/RecordFormatException;"), (2, u "offset"), (0, u "J"), (11, u "digits"), (0, u "([BII)I"), (18, u "malformedAt"), (0, u "I"), (119, .class_ 192), (0, u "com/example/zbirka/zbirka/RecordReader"), (0, u "RECORD_END"), (0, u "B"), (2, u "FIELD_END"), (1, u "SUBFIELD_DELIMITER"), (1, u "MAX_RECORD_LENGTH"), (0, u "LEADER_LENGTH"), (1, u "ENTRY_LENGTH")] 41

def k5c0 : Code := { maxStack := 3, maxLocals := 5, code := prog_11_method_13_code, exceptionTable := #[], attributes := #[] }
def k5m0 : Method := { name := "digits", desc := "([BII)I", sig := { parameters := [(.array .byte), .int, .int], returnType := some .int }, accessFlags := 8, code := some k5c0 }
/-- com/example/zbirka/zbirka/Iso2709Reader -/
def k5 : Class := { plain "com/example/zbirka/zbirka/Iso2709Reader" (some 0) with
  accessFlags := 49
  interfaces := #[4]
  cf := some (fileOf pool5 8 #[] #[{ accessFlags := 8, nameIndex := 50, descriptorIndex := 51, attributes := #[] }] 49 14 #[191] #[{ accessFlags := 24, nameIndex := 193, descriptorIndex := 194, attributes := #[] }, { accessFlags := 24, nameIndex := 197, descriptorIndex := 194, attributes := #[] }, { accessFlags := 24, nameIndex := 199, descriptorIndex := 194, attributes := #[] }, { accessFlags := 24, nameIndex := 201, descriptorIndex := 71, attributes := #[] }, { accessFlags := 24, nameIndex := 202, descriptorIndex := 71, attributes := #[] }, { accessFlags := 24, nameIndex := 204, descriptorIndex := 71, attributes := #[] }, { accessFlags := 18, nameIndex := 26, descriptorIndex := 27, attributes := #[] }, { accessFlags := 18, nameIndex := 30, descriptorIndex := 6, attributes := #[] }, { accessFlags := 2, nameIndex := 37, descriptorIndex := 38, attributes := #[] }, { accessFlags := 2, nameIndex := 70, descriptorIndex := 71, attributes := #[] }, { accessFlags := 2, nameIndex := 33, descriptorIndex := 34, attributes := #[] }])
  fields := #[{ name := "RECORD_END", type := .byte, accessFlags := 24, slot := 0, constantValue := 0 }, { name := "FIELD_END", type := .byte, accessFlags := 24, slot := 1, constantValue := 0 }, { name := "SUBFIELD_DELIMITER", type := .byte, accessFlags := 24, slot := 2, constantValue := 0 }, { name := "MAX_RECORD_LENGTH", type := .int, accessFlags := 24, slot := 3, constantValue := 0 }, { name := "LEADER_LENGTH", type := .int, accessFlags := 24, slot := 4, constantValue := 0 }, { name := "ENTRY_LENGTH", type := .int, accessFlags := 24, slot := 5, constantValue := 0 }, { name := "in", type := (.object "java/io/BufferedInputStream"), accessFlags := 18, slot := 0, constantValue := 0 }, { name := "shapes", type := (.object "com/example/zbirka/zbirka/FieldShapes"), accessFlags := 18, slot := 1, constantValue := 0 }, { name := "offset", type := .long, accessFlags := 2, slot := 2, constantValue := 0 }, { name := "malformedAt", type := .int, accessFlags := 2, slot := 3, constantValue := 0 }, { name := "mended", type := (.object "com/example/zbirka/zbirka/RecordFormatException"), accessFlags := 2, slot := 4, constantValue := 0 }]
  methods := #[k5m0]
  instanceTypes := #[(.object "java/io/BufferedInputStream"), (.object "com/example/zbirka/zbirka/FieldShapes"), .long, .int, (.object "com/example/zbirka/zbirka/RecordFormatException")]
  staticTypes := #[.byte, .byte, .byte, .int, .int, .int]
  resolved := Array.replicate 246 none
  statics := none }

def pool6 : Array CpInfo := pool [(1, u "java/lang/Cloneable"), (0, .class_ 1), (0, u "java/lang/Object"), (0, .class_ 3)] 3

/-- java/lang/Cloneable -/
def k6 : Class := { plain "java/lang/Cloneable" (some 0) with
  accessFlags := 1537
  interfaces := #[]
  cf := some (fileOf pool6 2 #[] #[] 1537 4 #[] #[])
  fields := #[]
  methods := #[]
  instanceTypes := #[]
  staticTypes := #[]
  resolved := Array.replicate 8 none
  statics := none }

def pool7 : Array CpInfo := pool [(1, u "java/io/Serializable"), (0, .class_ 1), (0, u "java/lang/Object"), (0, .class_ 3)] 3

/-- java/io/Serializable -/
def k7 : Class := { plain "java/io/Serializable" (some 0) with
  accessFlags := 1537
  interfaces := #[]
  cf := some (fileOf pool7 2 #[] #[] 1537 4 #[] #[])
  fields := #[]
  methods := #[]
  instanceTypes := #[]
  staticTypes := #[]
  resolved := Array.replicate 8 none
  statics := none }

/-- the primitive byte -/
def k8 : Class := { plain "byte" none with kind := .primitive 'B', accessFlags := 0x411 }
/-- [B -/
def k9 : Class := { plain "[B" (some 0) with kind := .array 8 .byte, interfaces := #[6, 7], accessFlags := 1041 }

/-- the primitive int -/
def k10 : Class := { plain "int" none with kind := .primitive 'I', accessFlags := 0x411 }
/-- [I -/
def k11 : Class := { plain "[I" (some 0) with kind := .array 10 .int, interfaces := #[6, 7], accessFlags := 1041 }

def heap : Heap := #[]
def classes : Array Class := #[k0, k1, k2, k3, k4, k5, k6, k7, k8, k9, k10, k11]
def interned : List (Array UInt16 × Addr) := []
def slotsUsed : Nat := 0
def theMethod : MethodId := ⟨1, 1⟩
def args0 : Array Value := #[.int 5, .int 7, .int 5, .int 7, .int 5, .int 9]
def aboutOver (below : List Frame) : State where
  vm := { classes := classes, interned := interned.toArray }
  heap := heap
  slotsUsed := slotsUsed
  threads := #[{ frames := .invoking theMethod args0 :: below }]
def below0 : List Frame := [.native { method := ⟨0, 0⟩, args := #[] }]
def about1 : State := aboutOver below0
def p0 : Program := .bare "" "" ""
def e0 : Env := launch0.env 0 0 0
theorem w_frames : about1.frames = Frame.invoking theMethod args0 :: below0 := rfl
set_option maxRecDepth 65536 in
theorem w_args : argsFit about1.vm theMethod args0 = true := by decide +kernel
set_option maxRecDepth 65536 in
theorem w_heap : heapFits about1 = true := by decide +kernel
set_option maxRecDepth 65536 in
theorem w_runnable : about1.curStatus? = some .runnable := by decide +kernel
set_option maxRecDepth 65536 in
theorem w_alone : about1.alone = true := by decide +kernel
set_option maxRecDepth 65536 in
theorem w_named : about1.methodNamed? x = some theMethod := by decide +kernel
set_option maxRecDepth 65536 in
theorem w_hears : about1.hears theMethod below0 = true := by decide +kernel
set_option maxRecDepth 65536 in
theorem w_ripe : about1.ripe theMethod args0 below0 = true := by decide +kernel
theorem w_running : about1.status = .running := rfl
set_option maxRecDepth 65536 in
theorem w_room : about1.hasRoom e0.platform room_1 = true :=
  launch0.hasRoom_least _ room_1 (by decide +kernel) (by decide +kernel) (by decide +kernel) (by decide +kernel) (by decide +kernel) (by decide +kernel)
theorem allAtoms_all (ts : List Jvm.Cond) (a : Array Jvm.Value) (st : Jvm.State) : (allAtoms ts).before a st = ts.all (fun c => c.before a st) := by
  induction ts with
  | nil => rfl
  | cons c t ih =>
    show (Jvm.Cond.and c (allAtoms t)).before a st = _
    rw [Jvm.Cond.before_and, ih, List.all_cons]
def words1 : List Jvm.Cond := Jvm.Cond.code x code maxLocals ret :: tables_1
/-- a 'code' word, met by the world's own term for the bytes: nothing is compared byte by byte -/
theorem code_word {y : MethodName} {bytes : ByteArray} {mx : Nat} {rt : Option FieldType} {a : Array Value} {s : State} {m : MethodId} {meth : Method} {c : Code} (h1 : s.methodNamed? y = some m) (h2 : s.vm.method? m = some meth) (h3 : meth.code = some c) (h4 : c.code = bytes)
    (h5 : (c.maxLocals == mx && c.exceptionTable.isEmpty && decide (c.maxStack ≤ mostOperands) && decide (meth.sig.returnType = rt) && !meth.locks && decide (parseMethodDescriptor y.desc = some meth.sig)) = true) : (Jvm.Cond.code y bytes mx rt).before a s = true := by
  simp only [Bool.and_eq_true, beq_iff_eq, Bool.not_eq_true', decide_eq_true_eq] at h5
  obtain ⟨⟨⟨⟨⟨g1, g2⟩, g3⟩, g4⟩, g5⟩, g6⟩ := h5
  simp [Cond.before, Cond.holds, Cond.value, h1, h2, h3, h4, g1, g2, g3, g4, g5, g6]
def isCode : Jvm.Cond → Bool
  | .code _ _ _ _ => true
  | _ => false
theorem all_split {L : List Jvm.Cond} {P : Jvm.Cond → Bool} (h1 : L.all (fun c => isCode c || P c) = true) (h2 : ∀ c ∈ L.filter isCode, P c = true) : L.all P = true := by
  refine List.all_eq_true.mpr fun c hc => ?_
  have h := List.all_eq_true.mp h1 c hc
  rcases Bool.eq_false_or_eq_true (isCode c) with hi | hi
  · exact h2 c (List.mem_filter.mpr ⟨hc, hi⟩)
  · simpa [hi] using h
set_option maxRecDepth 65536 in
theorem w_c0 : (Jvm.Cond.code x code maxLocals ret).before args0 about1 = true := code_word (m := ⟨1, 1⟩) (meth := k1m1) (c := k1c1) (by decide +kernel) rfl rfl rfl (by decide +kernel)
set_option maxRecDepth 65536 in
theorem w_c1 : (Jvm.Cond.code ({ cls := "com/example/zbirka/zbirka/Iso2709ReaderDigitsPinLaw", name := "mk", desc := "(I)B" } : Jvm.MethodName) method_3_code (1 : Nat) (Option.some Jvm.ClassFile.FieldType.byte)).before args0 about1 = true := code_word (m := ⟨1, 2⟩) (meth := k1m2) (c := k1c2) (by decide +kernel) rfl rfl rfl (by decide +kernel)
set_option maxRecDepth 65536 in
theorem w_c2 : (Jvm.Cond.code ({ cls := "com/example/zbirka/zbirka/Iso2709ReaderDigitsPinLaw", name := "bad", desc := "([BIII)Z" } : Jvm.MethodName) method_5_code (4 : Nat) (Option.some Jvm.ClassFile.FieldType.boolean)).before args0 about1 = true := code_word (m := ⟨1, 4⟩) (meth := k1m4) (c := k1c4) (by decide +kernel) rfl rfl rfl (by decide +kernel)
set_option maxRecDepth 65536 in
theorem w_c3 : (Jvm.Cond.code ({ cls := "com/example/zbirka/zbirka/Iso2709ReaderDigitsPinLaw", name := "term", desc := "([BIII)I" } : Jvm.MethodName) method_7_code (4 : Nat) (Option.some Jvm.ClassFile.FieldType.int)).before args0 about1 = true := code_word (m := ⟨1, 6⟩) (meth := k1m6) (c := k1c6) (by decide +kernel) rfl rfl rfl (by decide +kernel)
set_option maxRecDepth 65536 in
theorem w_c4 : (Jvm.Cond.code ({ cls := "com/example/zbirka/zbirka/Iso2709Reader", name := "digits", desc := "([BII)I" } : Jvm.MethodName) prog_11_method_13_code (5 : Nat) (Option.some Jvm.ClassFile.FieldType.int)).before args0 about1 = true := code_word (m := ⟨5, 0⟩) (meth := k5m0) (c := k5c0) (by decide +kernel) rfl rfl rfl (by decide +kernel)
set_option maxRecDepth 65536 in
theorem w_c5 : (Jvm.Cond.code ({ cls := "com/example/zbirka/zbirka/Iso2709ReaderDigitsPinLaw", name := "isDigit", desc := "(B)Z" } : Jvm.MethodName) method_4_code (1 : Nat) (Option.some Jvm.ClassFile.FieldType.boolean)).before args0 about1 = true := code_word (m := ⟨1, 3⟩) (meth := k1m3) (c := k1c3) (by decide +kernel) rfl rfl rfl (by decide +kernel)
set_option maxRecDepth 65536 in
theorem w_c6 : (Jvm.Cond.code ({ cls := "com/example/zbirka/zbirka/Iso2709ReaderDigitsPinLaw", name := "pow10", desc := "(I)I" } : Jvm.MethodName) method_6_code (1 : Nat) (Option.some Jvm.ClassFile.FieldType.int)).before args0 about1 = true := code_word (m := ⟨1, 5⟩) (meth := k1m5) (c := k1c5) (by decide +kernel) rfl rfl rfl (by decide +kernel)
def codes1 : List Jvm.Cond := [Jvm.Cond.code x code maxLocals ret, Jvm.Cond.code ({ cls := "com/example/zbirka/zbirka/Iso2709ReaderDigitsPinLaw", name := "mk", desc := "(I)B" } : Jvm.MethodName) method_3_code (1 : Nat) (Option.some Jvm.ClassFile.FieldType.byte), Jvm.Cond.code ({ cls := "com/example/zbirka/zbirka/Iso2709ReaderDigitsPinLaw", name := "bad", desc := "([BIII)Z" } : Jvm.MethodName) method_5_code (4 : Nat) (Option.some Jvm.ClassFile.FieldType.boolean), Jvm.Cond.code ({ cls := "com/example/zbirka/zbirka/Iso2709ReaderDigitsPinLaw", name := "term", desc := "([BIII)I" } : Jvm.MethodName) method_7_code (4 : Nat) (Option.some Jvm.ClassFile.FieldType.int), Jvm.Cond.code ({ cls := "com/example/zbirka/zbirka/Iso2709Reader", name := "digits", desc := "([BII)I" } : Jvm.MethodName) prog_11_method_13_code (5 : Nat) (Option.some Jvm.ClassFile.FieldType.int), Jvm.Cond.code ({ cls := "com/example/zbirka/zbirka/Iso2709ReaderDigitsPinLaw", name := "isDigit", desc := "(B)Z" } : Jvm.MethodName) method_4_code (1 : Nat) (Option.some Jvm.ClassFile.FieldType.boolean), Jvm.Cond.code ({ cls := "com/example/zbirka/zbirka/Iso2709ReaderDigitsPinLaw", name := "pow10", desc := "(I)I" } : Jvm.MethodName) method_6_code (1 : Nat) (Option.some Jvm.ClassFile.FieldType.int)]
set_option maxRecDepth 65536 in
theorem codes_eq : words1.filter isCode = codes1 := rfl
theorem w_codes : ∀ c ∈ words1.filter isCode, c.before args0 about1 = true := by
  rw [codes_eq]
  intro c hc
  simp only [codes1, List.mem_cons, List.not_mem_nil, or_false] at hc
  rcases hc with rfl | rfl | rfl | rfl | rfl | rfl | rfl
  · exact w_c0
  · exact w_c1
  · exact w_c2
  · exact w_c3
  · exact w_c4
  · exact w_c5
  · exact w_c6
set_option maxRecDepth 65536 in
theorem w_t1 : words1.all (fun c => isCode c || c.before args0 about1) = true := by decide +kernel
theorem w_tables : (allAtoms (Jvm.Cond.code x code maxLocals ret :: tables_1)).before args0 about1 = true := by
  rw [allAtoms_all]
  show words1.all (fun c => c.before args0 about1) = true
  refine all_split ?_ w_codes
  rw [w_t1]
set_option maxRecDepth 65536 in
theorem w_case : (Jvm.Cond.and given_1 narrow_1).before args0 about1 = true := by decide +kernel
theorem w_applies : (headSpec (Jvm.Cond.code x code maxLocals ret :: tables_1) room_1).applies x e0.platform about1 = true :=
  (Spec.applies_iff w_frames).mpr ⟨w_running, w_runnable, w_alone, w_named, w_hears, w_ripe, w_room, w_tables⟩
theorem atStart : AtStart classFile x code maxLocals ret World_1 tables_1 room_1 Calls_1 rest_1 Pre_1 launch0 p0 e0 about1 theMethod args0 below0 :=
  ⟨lists_1, trivial, launch0.admits_env _ _ _, launch0.least_env, fairChoices_fair.cas, fairChoices_fair.clock, w_frames, w_args, w_heap, w_applies, trivial, trivial, w_case⟩
end start1
theorem witness_1 : WitnessClaimed_1 := ⟨start1.p0, start1.e0, start1.about1, start1.theMethod, start1.args0, start1.below0, start1.atStart⟩
end Jvm.Pilot.@@N@@
