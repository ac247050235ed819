import JvmDerived
import JvmDerived.Pilot.@@N@@Statement
import JvmDerived.Pilot.@@N@@Code
set_option linter.unusedVariables false
set_option linter.unusedSimpArgs false

namespace Jvm.RoadKit
open Sem ClassFile Op Lib Jvm.Stand Jvm.Free Jvm.LawKit
section New
variable {p : Program} {l : Launch} {e : Env} {R : Room} {s : State} {m : MethodId} {args : Array Value} {below : List Frame} {meth : Method} {c : Code} {T : State} {locs : List Loc} {cells slots : Nat}
theorem retI (X : Stand p l e R s m args below meth c T locs cells slots) (hx : p.tables.exec = Jvm.exec) {pc : Nat} {Ls : Array Slot} {z : Int32} {rest : List Value} (hret : meth.sig.returnType = some .int) (hd : decode c.code pc = .ok (.ireturn, 1)) {fs : List Frame}
    (hl : ∀ (f : JFrame) (acts : List Action), f.method = m → f.locked = none → f.entered = [] → (doReturn e (T.setTop f) acts (some (.int z))).1 = T.setFrames fs) : Steps p.tables e below (T.setTop (mkF m pc Ls (.int z :: rest))) (T.setFrames fs) := by
  have hm' : T.vm.method? m = some meth := X.method'
  have hn : narrow .int (.int z) = .int z := rfl
  show Steps p.tables e below (T.setTop { method := m, pc := pc, locals := Ls, stack := _ :: rest, locked := none }) _
  jvm_step X.here [X.here.top, hx, hd, hm', hret, hn]
  first | (intro acts; rw [hl _ acts rfl rfl rfl]) | rw [hl _ _ rfl rfl rfl]
  exact Steps.refl _
end New
end Jvm.RoadKit
namespace Jvm.Pilot.@@N@@
open Jvm Jvm.ClassFile Sem Op Lib Jvm.Free Jvm.Stand Jvm.LawKit Jvm.RoadKit Bundle Jvm.Pilot.@@N@@.Jvm.D
/-- from A the run comes to B -/
abbrev Wy (tb : Tables) (e : Env) (below : List Frame) (A B : State) : Prop := ∀ t, Steps tb e below B t → Steps tb e below A t
theorem own_nat {c : Int32} (h : 0 ≤ c.toInt) : c = Int32.ofNat c.toInt.toNat := by
  apply Int32.toInt_inj.mp
  have h1 := c.toInt_lt
  rw [Int32.toInt_ofNat_of_lt (by omega)]
  omega
theorem own_lt {a b : Int32} : a < b ↔ a.toInt < b.toInt := Int32.lt_iff_toInt_lt
theorem own_ltF (k : Nat) (c : Int32) (h0 : 0 ≤ c.toInt) (h1 : c.toInt < k) : ∃ n : Fin k, c = Int32.ofNat n.val :=
  ⟨⟨c.toInt.toNat, by omega⟩, own_nat h0⟩
theorem own_rem (x y : Int32) (hx : 0 ≤ x.toInt) (hy : 0 < y.toInt) : (x - (x / y) * y).toInt = x.toInt % y.toInt := by
  have h1 := (c_idiv x y y.toInt rfl (by intro h; rw [h] at hy; exact absurd hy (by decide))).1 hx
  have h2 := c_imul (x / y) y
  have h3 := c_isub x ((x / y) * y)
  have r1 := rng32 ((x / y) * y)
  have r2 := rng32 (x - (x / y) * y)
  have r3 := rng32 x
  have r4 := rng32 y
  have e : x.toInt / y.toInt * y.toInt = x.toInt - x.toInt % y.toInt := by
    have := Int.emod_def x.toInt y.toInt
    rw [Int.mul_comm] at this
    omega
  rw [h1, e] at h2
  have b1 := Int.emod_nonneg x.toInt (show y.toInt ≠ 0 by omega)
  have b2 := Int.emod_lt_of_pos x.toInt hy
  have b3 : x.toInt % y.toInt ≤ x.toInt := by
    by_cases q : x.toInt < y.toInt
    · rw [Int.emod_eq_of_lt hx q]; omega
    · omega
  omega
theorem own_nm {a b : Addr} (h : a ≠ b) : a ∉ [b] := by simpa using h
theorem own_nm2 {a b c : Addr} (h : a ≠ b) (h2 : a ≠ c) : a ∉ [b, c] := by simp [h, h2]

def own_s (z : Int64) (q : Int32) : Int64 := (z.toUInt64 >>> (q &&& 0x3f).toInt64.toUInt64).toInt64
def own_n1 (z : Int64) : Int64 := (z ^^^ own_s z 30) * (-4658895280553007687 : Int64)
def own_n2 (z : Int64) : Int64 := (z ^^^ own_s z 27) * (-7723592293110705685 : Int64)
def own_n3 (z : Int64) : Int64 := z ^^^ own_s z 31
def own_mix (z : Int64) : Int64 := own_n3 (own_n2 (own_n1 z))
def own_u1 (z : Int64) : Int64 := ((z ^^^ own_s z 31) ^^^ own_s z 62) * (3573116690164977347 : Int64)
def own_u2 (z : Int64) : Int64 := ((z ^^^ own_s z 27) ^^^ own_s z 54) * (-7575587736534282103 : Int64)
def own_u3 (z : Int64) : Int64 := (z ^^^ own_s z 30) ^^^ own_s z 60
def own_unmix (z : Int64) : Int64 := own_u3 (own_u2 (own_u1 z))
theorem own_sh (z : Int64) (q : Int32) (k : Nat) (hk : q.toBitVec.toNat % 64 = k) : (own_s z q).toBitVec = z.toBitVec >>> k := by
  obtain ⟨h1, h2⟩ := sm64 q k hk
  have e : (q &&& 0x3f).toInt64.toUInt64.toBitVec = BitVec.ofNat 64 k := h1
  show (z.toUInt64 >>> (q &&& 0x3f).toInt64.toUInt64).toBitVec = _
  rw [UInt64.toBitVec_shiftRight, e]
  have f : ((BitVec.ofNat 64 k) % 64).toNat = k := by
    rw [BitVec.toNat_umod, BitVec.toNat_ofNat]
    show k % 2 ^ 64 % 64 = k
    omega
  show z.toBitVec >>> ((BitVec.ofNat 64 k) % 64) = _
  rw [BitVec.ushiftRight_eq', f]
theorem own_un (z : BitVec 64) (a b : Nat) (hb : a + a = b) (hc : 64 ≤ a + b) : (z ^^^ (z >>> a)) ^^^ ((z ^^^ (z >>> a)) >>> a) ^^^ ((z ^^^ (z >>> a)) >>> b) = z := by
  apply BitVec.eq_of_getLsbD_eq
  intro i hi
  simp only [BitVec.getLsbD_xor, BitVec.getLsbD_ushiftRight]
  have g : z.getLsbD (a + (b + i)) = false := BitVec.getLsbD_of_ge _ _ (by omega)
  rw [g, show a + (a + i) = b + i by omega]
  cases z.getLsbD i <;> cases z.getLsbD (a + i) <;> cases z.getLsbD (b + i) <;> rfl
theorem own_back (z : Int64) (qa qb : Int32) (a b : Nat) (ha : qa.toBitVec.toNat % 64 = a) (hb' : qb.toBitVec.toNat % 64 = b) (hb : a + a = b) (hc : 64 ≤ a + b) :
    ((z ^^^ own_s z qa) ^^^ own_s (z ^^^ own_s z qa) qa) ^^^ own_s (z ^^^ own_s z qa) qb = z := by
  apply Int64.toBitVec_inj.mp
  simp only [Int64.toBitVec_xor, own_sh _ qa a ha, own_sh _ qb b hb']
  exact own_un z.toBitVec a b hb hc
theorem own_law (z : Int64) : own_unmix (own_mix z) = z := by
  have h3 (y : Int64) : own_u1 (own_n3 y) = y * 3573116690164977347 := by
    unfold own_u1 own_n3
    rw [own_back y 31 62 31 62 (by decide) (by decide) rfl (by decide)]
  have h2 (y : Int64) : own_u2 (own_u1 (own_n3 (own_n2 y))) = y * (-7575587736534282103) := by
    rw [h3]
    unfold own_u2 own_n2
    rw [Int64.mul_assoc, show (-7723592293110705685 : Int64) * 3573116690164977347 = 1 from by decide, Int64.mul_one]
    rw [own_back y 27 54 27 54 (by decide) (by decide) rfl (by decide)]
  show own_u3 (own_u2 (own_u1 (own_n3 (own_n2 (own_n1 z))))) = z
  rw [h2]
  unfold own_u3 own_n1
  rw [Int64.mul_assoc, show (-4658895280553007687 : Int64) * (-7575587736534282103) = 1 from by decide, Int64.mul_one]
  exact own_back z 30 60 30 60 (by decide) (by decide) rfl (by decide)
theorem own_eq {a b g : Int64} (h : a = own_mix (b + g)) : lcmpW (own_unmix a) (b + g) = 0 := by
  subst h
  exact (lw_eq _ _).mpr (own_law _)
theorem own_eq2 {a b g : Int64} (h : a = own_mix (b + g + g)) : lcmpW (own_unmix a) (b + 2 * g) = 0 := by
  subst h
  refine (lw_eq _ _).mpr ?_
  rw [own_law, Int64.add_assoc]
  congr 1
  rw [show (2 : Int64) = 1 + 1 from rfl, Int64.add_mul, Int64.one_mul]

theorem d1_0 : decode prog_18_method_1_code 0 = .ok (.aload_n 0, 1) := by decide +kernel
theorem d1_1 : decode prog_18_method_1_code 1 = .ok (.invokespecial 1, 3) := by decide +kernel
theorem d1_4 : decode prog_18_method_1_code 4 = .ok (.aload_n 0, 1) := by decide +kernel
theorem d1_5 : decode prog_18_method_1_code 5 = .ok (.lload_n 1, 1) := by decide +kernel
theorem d1_6 : decode prog_18_method_1_code 6 = .ok (.putfield 7, 3) := by decide +kernel
theorem d1_9 : decode prog_18_method_1_code 9 = .ok (.return_, 1) := by decide +kernel
theorem pn_com_example_eagerpair_eagerpair_algorithm_SeededRandom : plainName "com/example/eagerpair/eagerpair/algorithm/SeededRandom" = true := by first | (simp [plainName, overriddenIn]; done) | decide +kernel
theorem ef_rm1 (m : MethodId) (ad : Addr) (qx : Int64)  : entryFrame m #[(.ref ad), (.long qx)] 3 = (mkF m 0 #[.val (.ref ad), .val (.long qx), .second] []) := by first | (simp [entryFrame, mkF, argsToLocals, Value.category]; done) | rfl
def Q1 (Z : State) (ad : Addr) (qx : Int64) (h0 : Heap) (n0 : Nat) (v : Option Value) (h : Heap) (L : List Loc) : Prop := v = none ∧ Fr n0 L ∧ Keep h0 h [ad] ∧ Exa Z h ad "com/example/eagerpair/eagerpair/algorithm/SeededRandom" ∧ Fld Z h ad "com/example/eagerpair/eagerpair/algorithm/SeededRandom" "state" "J" (.long qx)
set_option maxRecDepth 65536 in
set_option maxHeartbeats 40000000 in
theorem rm1 (l : Launch) (Z : State) (a0 : Array Value) (hw : ∀ d ∈ tables_1, d.before a0 Z = true) (ws : List Jvm.Cond) (ad : Addr) (qx : Int64) (h0 : Heap) (n0 : Nat) (Z0 : n0 ≤ h0.size) (E_ad : Exa Z h0 ad "com/example/eagerpair/eagerpair/algorithm/SeededRandom") (F_state : Fld Z h0 ad "com/example/eagerpair/eagerpair/algorithm/SeededRandom" "state" "J" (.long (0 : Int64))) (g_ad : n0 ≤ ad)  :
    MetFree l (⟨"com/example/eagerpair/eagerpair/algorithm/SeededRandom", "<init>", "(J)V"⟩ : MethodName) (head1 (Jvm.Cond.code (⟨"com/example/eagerpair/eagerpair/algorithm/SeededRandom", "<init>", "(J)V"⟩ : MethodName) prog_18_method_1_code 3 none :: ws) ({ frames := 1, cells := 0, slots := 0, locals := 12 } : Room)) (fun a U => a = #[(.ref ad), (.long qx)] ∧ Z.Warmed39 U.vm ∧ U.heap = h0) (fun _ _ _ _ _ => True) (fun _ U o U' => ∃ v L, o = .returned v ∧ Q1 Z ad qx h0 n0 v U'.heap L ∧ FrameEnd U o U' L ({ frames := 1, cells := 0, slots := 0, locals := 12 } : Room).cells ({ frames := 1, cells := 0, slots := 0, locals := 12 } : Room).slots) := by
  refine MetFree.of_bodySF (plainFor_of_name pn_com_example_eagerpair_eagerpair_algorithm_SeededRandom) hisR ?_
  intro p e s m args below meth c s₁ Bd hml0 hP hK
  obtain ⟨rfl, hZ, hh⟩ := hP
  have hx := Bd.exec
  have hby := Bd.bytes
  have hml : c.maxLocals = 3 := hml0
  have hown : s.vm.findClass "com/example/eagerpair/eagerpair/algorithm/SeededRandom" = some m.cls := findClass_of_methodNamed Bd.named
  have hnm := (name_of_methodNamed Bd.named Bd.method).1
  have X0 : Stand p l e ({ frames := 1, cells := 0, slots := 0, locals := 12 } : Room) s m #[(.ref ad), (.long qx)] below meth c s₁ [] 0 0 := Stand.of_body Bd
  have e0 : s₁.heap = h0 := by rw [← hh, Bd.state]; rfl
  have N0 := Fr.nil n0
  have P0 : Wy p.tables e below (s₁.setTop (entryFrame m #[(.ref ad), (.long qx)] 3)) (s₁.setTop (mkF m 0 #[.val (.ref ad), .val (.long qx), .second] [])) := fun t k => castTop (ef_rm1 m ad qx) k
  have P1 : Wy p.tables e below (s₁.setTop (entryFrame m #[(.ref ad), (.long qx)] 3)) (s₁.setTop (mkF m 1 #[.val (.ref ad), .val (.long qx), .second] [(.ref ad)])) := fun t k => P0 t (by
    show Steps p.tables e below (s₁.setTop (mkF m 0 #[.val (.ref ad), .val (.long qx), .second] [])) _
    refine XS.aloadN X0.here hx rfl (hb hby d1_0) rfl rfl  ?_
    exact k)
  obtain ⟨T2, X2, e2, st2⟩ := initO X0 hx hZ hown (hw _ (List.mem_of_getElem? (i := 7) rfl)) (hw _ (List.mem_of_getElem? (i := 8) rfl)) (hw _ (List.mem_of_getElem? (i := 9) rfl)) e0 (g := (mkF m 1 #[.val (.ref ad), .val (.long qx), .second] [(.ref ad)])) rfl (by rw [hml]; rfl) rfl (hb hby d1_1) (by decide) (W := 0) (by show 2 * 0 + _ ≤ _; exact Nat.le_of_eq rfl) (by decide)
  have P3 : Wy p.tables e below (s₁.setTop (entryFrame m #[(.ref ad), (.long qx)] 3)) (T2.setTop (mkF m 4 #[.val (.ref ad), .val (.long qx), .second] [])) := fun t k => P1 t (st2 _ k)
  have P4 : Wy p.tables e below (s₁.setTop (entryFrame m #[(.ref ad), (.long qx)] 3)) (T2.setTop (mkF m 6 #[.val (.ref ad), .val (.long qx), .second] [(.long qx), (.ref ad)])) := fun t k => P3 t (by
    show Steps p.tables e below (T2.setTop (mkF m 4 #[.val (.ref ad), .val (.long qx), .second] [])) _
    refine XS.aloadN X2.here hx rfl (hb hby d1_4) rfl rfl  ?_
    show Steps p.tables e below (T2.setTop (mkF m 5 #[.val (.ref ad), .val (.long qx), .second] [(.ref ad)])) _
    refine XS.lloadN X2.here hx rfl (hb hby d1_5) rfl  ?_
    exact k)
  obtain ⟨T5, h5, X5, e5, W5, st5⟩ := putF X2 hx hZ hown (host := "") (Or.inl (hw _ (List.mem_of_getElem? (i := 10) rfl))) Via.refl e2 F_state E_ad (Or.inl (hw _ (List.mem_of_getElem? (i := 11) rfl))) (hw _ (List.mem_of_getElem? (i := 2) rfl)) (ty := .long) (by decide) rfl rfl (g := (mkF m 6 #[.val (.ref ad), .val (.long qx), .second] [(.long qx), (.ref ad)])) rfl rfl (hb hby d1_6)
  have Fw5 := F_state.same W5
  have N5 := Fr.snoc X5 N0 g_ad
  have z5 : n0 ≤ h5.size := Nat.le_trans Z0 (Keep.of_wr W5).1
  have A5_ad := E_ad.wr W5
  have K5 : Keep h0 h5 [ad] := (Keep.refl h0 [ad]).wr W5 (Or.inl (List.mem_of_getElem? (i := 0) rfl))
  have P6 : Wy p.tables e below (s₁.setTop (entryFrame m #[(.ref ad), (.long qx)] 3)) (T5.setTop (mkF m 9 #[.val (.ref ad), .val (.long qx), .second] [])) := fun t k => P4 t (st5 _ k)
  obtain ⟨fs, hr, hrun, hended, hW, hsame⟩ := X5.leave (v := none) (fun _ => rfl)
  refine ⟨_, _, P6 _ ?_, hrun, hended, _, _, rfl, ?_, ⟨_, rfl⟩, hW, hsame.mono (by decide) (by decide)⟩
  · show Steps p.tables e below (T5.setTop (mkF m 9 #[.val (.ref ad), .val (.long qx), .second] [])) _
    exact X5.returnOut hx Bd.returns (hb hby d1_9) hr
  · show Q1 Z ad qx h0 n0 _ T5.heap _
    rw [e5]
    exact ⟨rfl, N5, K5, A5_ad, Fw5⟩
theorem d3_0 : decode prog_18_method_3_code 0 = .ok (.aload_n 0, 1) := by decide +kernel
theorem d3_1 : decode prog_18_method_3_code 1 = .ok (.dup, 1) := by decide +kernel
theorem d3_2 : decode prog_18_method_3_code 2 = .ok (.getfield 7, 3) := by decide +kernel
theorem d3_5 : decode prog_18_method_3_code 5 = .ok (.ldc2_w 22, 3) := by decide +kernel
theorem d3_8 : decode prog_18_method_3_code 8 = .ok (.ladd, 1) := by decide +kernel
theorem d3_9 : decode prog_18_method_3_code 9 = .ok (.putfield 7, 3) := by decide +kernel
theorem d3_12 : decode prog_18_method_3_code 12 = .ok (.aload_n 0, 1) := by decide +kernel
theorem d3_13 : decode prog_18_method_3_code 13 = .ok (.getfield 7, 3) := by decide +kernel
theorem d3_16 : decode prog_18_method_3_code 16 = .ok (.lstore_n 1, 1) := by decide +kernel
theorem d3_17 : decode prog_18_method_3_code 17 = .ok (.lload_n 1, 1) := by decide +kernel
theorem d3_18 : decode prog_18_method_3_code 18 = .ok (.lload_n 1, 1) := by decide +kernel
theorem d3_19 : decode prog_18_method_3_code 19 = .ok (.bipush 30, 2) := by decide +kernel
theorem d3_21 : decode prog_18_method_3_code 21 = .ok (.lushr, 1) := by decide +kernel
theorem d3_22 : decode prog_18_method_3_code 22 = .ok (.lxor, 1) := by decide +kernel
theorem d3_23 : decode prog_18_method_3_code 23 = .ok (.ldc2_w 31, 3) := by decide +kernel
theorem d3_26 : decode prog_18_method_3_code 26 = .ok (.lmul, 1) := by decide +kernel
theorem d3_27 : decode prog_18_method_3_code 27 = .ok (.lstore_n 1, 1) := by decide +kernel
theorem d3_28 : decode prog_18_method_3_code 28 = .ok (.lload_n 1, 1) := by decide +kernel
theorem d3_29 : decode prog_18_method_3_code 29 = .ok (.lload_n 1, 1) := by decide +kernel
theorem d3_30 : decode prog_18_method_3_code 30 = .ok (.bipush 27, 2) := by decide +kernel
theorem d3_32 : decode prog_18_method_3_code 32 = .ok (.lushr, 1) := by decide +kernel
theorem d3_33 : decode prog_18_method_3_code 33 = .ok (.lxor, 1) := by decide +kernel
theorem d3_34 : decode prog_18_method_3_code 34 = .ok (.ldc2_w 33, 3) := by decide +kernel
theorem d3_37 : decode prog_18_method_3_code 37 = .ok (.lmul, 1) := by decide +kernel
theorem d3_38 : decode prog_18_method_3_code 38 = .ok (.lstore_n 1, 1) := by decide +kernel
theorem d3_39 : decode prog_18_method_3_code 39 = .ok (.lload_n 1, 1) := by decide +kernel
theorem d3_40 : decode prog_18_method_3_code 40 = .ok (.lload_n 1, 1) := by decide +kernel
theorem d3_41 : decode prog_18_method_3_code 41 = .ok (.bipush 31, 2) := by decide +kernel
theorem d3_43 : decode prog_18_method_3_code 43 = .ok (.lushr, 1) := by decide +kernel
theorem d3_44 : decode prog_18_method_3_code 44 = .ok (.lxor, 1) := by decide +kernel
theorem d3_45 : decode prog_18_method_3_code 45 = .ok (.lreturn, 1) := by decide +kernel
theorem ef_rm3 (m : MethodId) (ad : Addr)  : entryFrame m #[(.ref ad)] 3 = (mkF m 0 #[.val (.ref ad), .unset, .unset] []) := by first | (simp [entryFrame, mkF, argsToLocals, Value.category]; done) | rfl
def Q3 (Z : State) (ad : Addr) (wx : Int64) (h0 : Heap) (n0 : Nat) (v : Option Value) (h : Heap) (L : List Loc) : Prop := v = some (.long (own_mix (wx + (-7046029254386353131 : Int64)))) ∧ Fr n0 L ∧ Keep h0 h [ad] ∧ Exa Z h ad "com/example/eagerpair/eagerpair/algorithm/SeededRandom" ∧ Fld Z h ad "com/example/eagerpair/eagerpair/algorithm/SeededRandom" "state" "J" (.long (wx + (-7046029254386353131 : Int64)))
set_option maxRecDepth 65536 in
set_option maxHeartbeats 40000000 in
theorem rm3 (l : Launch) (Z : State) (a0 : Array Value) (hw : ∀ d ∈ tables_1, d.before a0 Z = true) (ws : List Jvm.Cond) (ad : Addr) (wx : Int64) (h0 : Heap) (n0 : Nat) (Z0 : n0 ≤ h0.size) (E_ad : Exa Z h0 ad "com/example/eagerpair/eagerpair/algorithm/SeededRandom") (F_state : Fld Z h0 ad "com/example/eagerpair/eagerpair/algorithm/SeededRandom" "state" "J" (.long wx)) (g_ad : n0 ≤ ad)  :
    MetFree l (⟨"com/example/eagerpair/eagerpair/algorithm/SeededRandom", "nextLong", "()J"⟩ : MethodName) (head1 (Jvm.Cond.code (⟨"com/example/eagerpair/eagerpair/algorithm/SeededRandom", "nextLong", "()J"⟩ : MethodName) prog_18_method_3_code 3 (some .long) :: ws) ({ frames := 0, cells := 0, slots := 0, locals := 0 } : Room)) (fun a U => a = #[(.ref ad)] ∧ Z.Warmed39 U.vm ∧ U.heap = h0) (fun _ _ _ _ _ => True) (fun _ U o U' => ∃ v L, o = .returned v ∧ Q3 Z ad wx h0 n0 v U'.heap L ∧ FrameEnd U o U' L ({ frames := 0, cells := 0, slots := 0, locals := 0 } : Room).cells ({ frames := 0, cells := 0, slots := 0, locals := 0 } : Room).slots) := by
  refine MetFree.of_bodySF (plainFor_of_name pn_com_example_eagerpair_eagerpair_algorithm_SeededRandom) hisR ?_
  intro p e s m args below meth c s₁ Bd hml0 hP hK
  obtain ⟨rfl, hZ, hh⟩ := hP
  have hx := Bd.exec
  have hby := Bd.bytes
  have hml : c.maxLocals = 3 := hml0
  have hown : s.vm.findClass "com/example/eagerpair/eagerpair/algorithm/SeededRandom" = some m.cls := findClass_of_methodNamed Bd.named
  have hnm := (name_of_methodNamed Bd.named Bd.method).1
  have X0 : Stand p l e ({ frames := 0, cells := 0, slots := 0, locals := 0 } : Room) s m #[(.ref ad)] below meth c s₁ [] 0 0 := Stand.of_body Bd
  have e0 : s₁.heap = h0 := by rw [← hh, Bd.state]; rfl
  have N0 := Fr.nil n0
  have P0 : Wy p.tables e below (s₁.setTop (entryFrame m #[(.ref ad)] 3)) (s₁.setTop (mkF m 0 #[.val (.ref ad), .unset, .unset] [])) := fun t k => castTop (ef_rm3 m ad) k
  have P1 : Wy p.tables e below (s₁.setTop (entryFrame m #[(.ref ad)] 3)) (s₁.setTop (mkF m 2 #[.val (.ref ad), .unset, .unset] [(.ref ad), (.ref ad)])) := fun t k => P0 t (by
    show Steps p.tables e below (s₁.setTop (mkF m 0 #[.val (.ref ad), .unset, .unset] [])) _
    refine XS.aloadN X0.here hx rfl (hb hby d3_0) rfl rfl  ?_
    show Steps p.tables e below (s₁.setTop (mkF m 1 #[.val (.ref ad), .unset, .unset] [(.ref ad)])) _
    refine XS.dup X0.here hx rfl (hb hby d3_1) rfl rfl ?_
    exact k)
  obtain ⟨T2, X2, e2, st2⟩ := getF X0 hx hZ hown (host := "") (Or.inl (hw _ (List.mem_of_getElem? (i := 10) rfl))) Via.refl e0 F_state (g := (mkF m 2 #[.val (.ref ad), .unset, .unset] [(.ref ad), (.ref ad)])) rfl rfl (hb hby d3_2)
  have P3 : Wy p.tables e below (s₁.setTop (entryFrame m #[(.ref ad)] 3)) (T2.setTop (mkF m 5 #[.val (.ref ad), .unset, .unset] [(.long wx), (.ref ad)])) := fun t k => P1 t (st2 _ k)
  have P4 : Wy p.tables e below (s₁.setTop (entryFrame m #[(.ref ad)] 3)) (T2.setTop (mkF m 9 #[.val (.ref ad), .unset, .unset] [(.long (wx + (-7046029254386353131 : Int64))), (.ref ad)])) := fun t k => P3 t (by
    show Steps p.tables e below (T2.setTop (mkF m 5 #[.val (.ref ad), .unset, .unset] [(.long wx), (.ref ad)])) _
    refine X2.ldc2Long hx hown (mvT hZ (hw _ (List.mem_of_getElem? (i := 17) rfl))) (g := (mkF m 5 #[.val (.ref ad), .unset, .unset] [(.long wx), (.ref ad)])) rfl (hb hby d3_5) _ ?_
    show Steps p.tables e below (T2.setTop (mkF m 8 #[.val (.ref ad), .unset, .unset] [(.long (-7046029254386353131 : Int64)), (.long wx), (.ref ad)])) _
    refine XS.ladd X2.here hx rfl (hb hby d3_8) rfl ?_
    exact k)
  obtain ⟨T5, h5, X5, e5, W5, st5⟩ := putF X2 hx hZ hown (host := "") (Or.inl (hw _ (List.mem_of_getElem? (i := 10) rfl))) Via.refl e2 F_state E_ad (Or.inl (hw _ (List.mem_of_getElem? (i := 11) rfl))) (hw _ (List.mem_of_getElem? (i := 2) rfl)) (ty := .long) (by decide) rfl rfl (g := (mkF m 9 #[.val (.ref ad), .unset, .unset] [(.long (wx + (-7046029254386353131 : Int64))), (.ref ad)])) rfl rfl (hb hby d3_9)
  have Fw5 := F_state.same W5
  have N5 := Fr.snoc X5 N0 g_ad
  have z5 : n0 ≤ h5.size := Nat.le_trans Z0 (Keep.of_wr W5).1
  have A5_ad := E_ad.wr W5
  have K5 : Keep h0 h5 [ad] := (Keep.refl h0 [ad]).wr W5 (Or.inl (List.mem_of_getElem? (i := 0) rfl))
  have P6 : Wy p.tables e below (s₁.setTop (entryFrame m #[(.ref ad)] 3)) (T5.setTop (mkF m 12 #[.val (.ref ad), .unset, .unset] [])) := fun t k => P4 t (st5 _ k)
  have P7 : Wy p.tables e below (s₁.setTop (entryFrame m #[(.ref ad)] 3)) (T5.setTop (mkF m 13 #[.val (.ref ad), .unset, .unset] [(.ref ad)])) := fun t k => P6 t (by
    show Steps p.tables e below (T5.setTop (mkF m 12 #[.val (.ref ad), .unset, .unset] [])) _
    refine XS.aloadN X5.here hx rfl (hb hby d3_12) rfl rfl  ?_
    exact k)
  obtain ⟨T8, X8, e8, st8⟩ := getF X5 hx hZ hown (host := "") (Or.inl (hw _ (List.mem_of_getElem? (i := 10) rfl))) Via.refl e5 Fw5 (g := (mkF m 13 #[.val (.ref ad), .unset, .unset] [(.ref ad)])) rfl rfl (hb hby d3_13)
  have P9 : Wy p.tables e below (s₁.setTop (entryFrame m #[(.ref ad)] 3)) (T8.setTop (mkF m 16 #[.val (.ref ad), .unset, .unset] [(.long (wx + (-7046029254386353131 : Int64)))])) := fun t k => P7 t (st8 _ k)
  have P10 : Wy p.tables e below (s₁.setTop (entryFrame m #[(.ref ad)] 3)) (T8.setTop (mkF m 17 #[.val (.ref ad), .val (.long (wx + (-7046029254386353131 : Int64))), .second] [])) := fun t k => P9 t (by
    show Steps p.tables e below (T8.setTop (mkF m 16 #[.val (.ref ad), .unset, .unset] [(.long (wx + (-7046029254386353131 : Int64)))])) _
    refine XS.lstoreN X8.here hx rfl (hb hby d3_16) rfl (l' := #[.val (.ref ad), .val (.long (wx + (-7046029254386353131 : Int64))), .second]) rfl ?_
    exact k)
  obtain ⟨v11, hv11⟩ : ∃ z : Int64, z = (wx + (-7046029254386353131 : Int64)) := ⟨_, rfl⟩
  have P12 : Wy p.tables e below (s₁.setTop (entryFrame m #[(.ref ad)] 3)) (T8.setTop (mkF m 17 #[.val (.ref ad), .val (.long v11), .second] [])) := fun t k => by subst hv11; exact P10 t k
  have P13 : Wy p.tables e below (s₁.setTop (entryFrame m #[(.ref ad)] 3)) (T8.setTop (mkF m 28 #[.val (.ref ad), .val (.long ((v11 ^^^ ((v11.toUInt64 >>> ((30 : Int32) &&& 0x3f).toInt64.toUInt64).toInt64)) * (-4658895280553007687 : Int64))), .second] [])) := fun t k => P12 t (by
    show Steps p.tables e below (T8.setTop (mkF m 17 #[.val (.ref ad), .val (.long v11), .second] [])) _
    refine XS.lloadN X8.here hx rfl (hb hby d3_17) rfl  ?_
    show Steps p.tables e below (T8.setTop (mkF m 18 #[.val (.ref ad), .val (.long v11), .second] [(.long v11)])) _
    refine XS.lloadN X8.here hx rfl (hb hby d3_18) rfl  ?_
    show Steps p.tables e below (T8.setTop (mkF m 19 #[.val (.ref ad), .val (.long v11), .second] [(.long v11), (.long v11)])) _
    refine XS.bipush X8.here hx rfl (hb hby d3_19) ?_
    show Steps p.tables e below (T8.setTop (mkF m 21 #[.val (.ref ad), .val (.long v11), .second] [(.int (30 : Int32)), (.long v11), (.long v11)])) _
    refine XS.lushr X8.here hx rfl (hb hby d3_21) rfl ?_
    show Steps p.tables e below (T8.setTop (mkF m 22 #[.val (.ref ad), .val (.long v11), .second] [(.long ((v11.toUInt64 >>> ((30 : Int32) &&& 0x3f).toInt64.toUInt64).toInt64)), (.long v11)])) _
    refine XS.lxor X8.here hx rfl (hb hby d3_22) rfl ?_
    show Steps p.tables e below (T8.setTop (mkF m 23 #[.val (.ref ad), .val (.long v11), .second] [(.long (v11 ^^^ ((v11.toUInt64 >>> ((30 : Int32) &&& 0x3f).toInt64.toUInt64).toInt64)))])) _
    refine X8.ldc2Long hx hown (mvT hZ (hw _ (List.mem_of_getElem? (i := 18) rfl))) (g := (mkF m 23 #[.val (.ref ad), .val (.long v11), .second] [(.long (v11 ^^^ ((v11.toUInt64 >>> ((30 : Int32) &&& 0x3f).toInt64.toUInt64).toInt64)))])) rfl (hb hby d3_23) _ ?_
    show Steps p.tables e below (T8.setTop (mkF m 26 #[.val (.ref ad), .val (.long v11), .second] [(.long (-4658895280553007687 : Int64)), (.long (v11 ^^^ ((v11.toUInt64 >>> ((30 : Int32) &&& 0x3f).toInt64.toUInt64).toInt64)))])) _
    refine XS.lmul X8.here hx rfl (hb hby d3_26) rfl ?_
    show Steps p.tables e below (T8.setTop (mkF m 27 #[.val (.ref ad), .val (.long v11), .second] [(.long ((v11 ^^^ ((v11.toUInt64 >>> ((30 : Int32) &&& 0x3f).toInt64.toUInt64).toInt64)) * (-4658895280553007687 : Int64)))])) _
    refine XS.lstoreN X8.here hx rfl (hb hby d3_27) rfl (l' := #[.val (.ref ad), .val (.long ((v11 ^^^ ((v11.toUInt64 >>> ((30 : Int32) &&& 0x3f).toInt64.toUInt64).toInt64)) * (-4658895280553007687 : Int64))), .second]) rfl ?_
    exact k)
  obtain ⟨v14, hv14⟩ : ∃ z : Int64, z = ((v11 ^^^ ((v11.toUInt64 >>> ((30 : Int32) &&& 0x3f).toInt64.toUInt64).toInt64)) * (-4658895280553007687 : Int64)) := ⟨_, rfl⟩
  have P15 : Wy p.tables e below (s₁.setTop (entryFrame m #[(.ref ad)] 3)) (T8.setTop (mkF m 28 #[.val (.ref ad), .val (.long v14), .second] [])) := fun t k => by subst hv14; exact P13 t k
  have P16 : Wy p.tables e below (s₁.setTop (entryFrame m #[(.ref ad)] 3)) (T8.setTop (mkF m 39 #[.val (.ref ad), .val (.long ((v14 ^^^ ((v14.toUInt64 >>> ((27 : Int32) &&& 0x3f).toInt64.toUInt64).toInt64)) * (-7723592293110705685 : Int64))), .second] [])) := fun t k => P15 t (by
    show Steps p.tables e below (T8.setTop (mkF m 28 #[.val (.ref ad), .val (.long v14), .second] [])) _
    refine XS.lloadN X8.here hx rfl (hb hby d3_28) rfl  ?_
    show Steps p.tables e below (T8.setTop (mkF m 29 #[.val (.ref ad), .val (.long v14), .second] [(.long v14)])) _
    refine XS.lloadN X8.here hx rfl (hb hby d3_29) rfl  ?_
    show Steps p.tables e below (T8.setTop (mkF m 30 #[.val (.ref ad), .val (.long v14), .second] [(.long v14), (.long v14)])) _
    refine XS.bipush X8.here hx rfl (hb hby d3_30) ?_
    show Steps p.tables e below (T8.setTop (mkF m 32 #[.val (.ref ad), .val (.long v14), .second] [(.int (27 : Int32)), (.long v14), (.long v14)])) _
    refine XS.lushr X8.here hx rfl (hb hby d3_32) rfl ?_
    show Steps p.tables e below (T8.setTop (mkF m 33 #[.val (.ref ad), .val (.long v14), .second] [(.long ((v14.toUInt64 >>> ((27 : Int32) &&& 0x3f).toInt64.toUInt64).toInt64)), (.long v14)])) _
    refine XS.lxor X8.here hx rfl (hb hby d3_33) rfl ?_
    show Steps p.tables e below (T8.setTop (mkF m 34 #[.val (.ref ad), .val (.long v14), .second] [(.long (v14 ^^^ ((v14.toUInt64 >>> ((27 : Int32) &&& 0x3f).toInt64.toUInt64).toInt64)))])) _
    refine X8.ldc2Long hx hown (mvT hZ (hw _ (List.mem_of_getElem? (i := 19) rfl))) (g := (mkF m 34 #[.val (.ref ad), .val (.long v14), .second] [(.long (v14 ^^^ ((v14.toUInt64 >>> ((27 : Int32) &&& 0x3f).toInt64.toUInt64).toInt64)))])) rfl (hb hby d3_34) _ ?_
    show Steps p.tables e below (T8.setTop (mkF m 37 #[.val (.ref ad), .val (.long v14), .second] [(.long (-7723592293110705685 : Int64)), (.long (v14 ^^^ ((v14.toUInt64 >>> ((27 : Int32) &&& 0x3f).toInt64.toUInt64).toInt64)))])) _
    refine XS.lmul X8.here hx rfl (hb hby d3_37) rfl ?_
    show Steps p.tables e below (T8.setTop (mkF m 38 #[.val (.ref ad), .val (.long v14), .second] [(.long ((v14 ^^^ ((v14.toUInt64 >>> ((27 : Int32) &&& 0x3f).toInt64.toUInt64).toInt64)) * (-7723592293110705685 : Int64)))])) _
    refine XS.lstoreN X8.here hx rfl (hb hby d3_38) rfl (l' := #[.val (.ref ad), .val (.long ((v14 ^^^ ((v14.toUInt64 >>> ((27 : Int32) &&& 0x3f).toInt64.toUInt64).toInt64)) * (-7723592293110705685 : Int64))), .second]) rfl ?_
    exact k)
  obtain ⟨v17, hv17⟩ : ∃ z : Int64, z = ((v14 ^^^ ((v14.toUInt64 >>> ((27 : Int32) &&& 0x3f).toInt64.toUInt64).toInt64)) * (-7723592293110705685 : Int64)) := ⟨_, rfl⟩
  have P18 : Wy p.tables e below (s₁.setTop (entryFrame m #[(.ref ad)] 3)) (T8.setTop (mkF m 39 #[.val (.ref ad), .val (.long v17), .second] [])) := fun t k => by subst hv17; exact P16 t k
  have P19 : Wy p.tables e below (s₁.setTop (entryFrame m #[(.ref ad)] 3)) (T8.setTop (mkF m 45 #[.val (.ref ad), .val (.long v17), .second] [(.long (v17 ^^^ ((v17.toUInt64 >>> ((31 : Int32) &&& 0x3f).toInt64.toUInt64).toInt64)))])) := fun t k => P18 t (by
    show Steps p.tables e below (T8.setTop (mkF m 39 #[.val (.ref ad), .val (.long v17), .second] [])) _
    refine XS.lloadN X8.here hx rfl (hb hby d3_39) rfl  ?_
    show Steps p.tables e below (T8.setTop (mkF m 40 #[.val (.ref ad), .val (.long v17), .second] [(.long v17)])) _
    refine XS.lloadN X8.here hx rfl (hb hby d3_40) rfl  ?_
    show Steps p.tables e below (T8.setTop (mkF m 41 #[.val (.ref ad), .val (.long v17), .second] [(.long v17), (.long v17)])) _
    refine XS.bipush X8.here hx rfl (hb hby d3_41) ?_
    show Steps p.tables e below (T8.setTop (mkF m 43 #[.val (.ref ad), .val (.long v17), .second] [(.int (31 : Int32)), (.long v17), (.long v17)])) _
    refine XS.lushr X8.here hx rfl (hb hby d3_43) rfl ?_
    show Steps p.tables e below (T8.setTop (mkF m 44 #[.val (.ref ad), .val (.long v17), .second] [(.long ((v17.toUInt64 >>> ((31 : Int32) &&& 0x3f).toInt64.toUInt64).toInt64)), (.long v17)])) _
    refine XS.lxor X8.here hx rfl (hb hby d3_44) rfl ?_
    exact k)
  obtain ⟨fs, hr, hrun, hended, hW, hsame⟩ := X8.leave (v := some (.long (v17 ^^^ ((v17.toUInt64 >>> ((31 : Int32) &&& 0x3f).toInt64.toUInt64).toInt64)))) (fun h => by rw [Bd.returns] at h; cases h)
  refine ⟨_, _, P19 _ ?_, hrun, hended, _, _, rfl, ?_, ⟨_, rfl⟩, hW, hsame.mono (by decide) (by decide)⟩
  · show Steps p.tables e below (T8.setTop (mkF m 45 #[.val (.ref ad), .val (.long v17), .second] [(.long (v17 ^^^ ((v17.toUInt64 >>> ((31 : Int32) &&& 0x3f).toInt64.toUInt64).toInt64)))])) _
    exact X8.lreturnOut hx Bd.returns (hb hby d3_45) hr
  · show Q3 Z ad wx h0 n0 _ T8.heap _
    rw [e8]
    exact ⟨congrArg (fun z => some (Value.long z)) (show _ = (own_mix (wx + (-7046029254386353131 : Int64))) from by subst hv11 hv14 hv17; rfl), N5, K5, A5_ad, Fw5⟩
theorem d4_0 : decode method_3_code 0 = .ok (.lload_n 0, 1) := by decide +kernel
theorem d4_1 : decode method_3_code 1 = .ok (.lload_n 0, 1) := by decide +kernel
theorem d4_2 : decode method_3_code 2 = .ok (.bipush 31, 2) := by decide +kernel
theorem d4_4 : decode method_3_code 4 = .ok (.lushr, 1) := by decide +kernel
theorem d4_5 : decode method_3_code 5 = .ok (.lxor, 1) := by decide +kernel
theorem d4_6 : decode method_3_code 6 = .ok (.lload_n 0, 1) := by decide +kernel
theorem d4_7 : decode method_3_code 7 = .ok (.bipush 62, 2) := by decide +kernel
theorem d4_9 : decode method_3_code 9 = .ok (.lushr, 1) := by decide +kernel
theorem d4_10 : decode method_3_code 10 = .ok (.lxor, 1) := by decide +kernel
theorem d4_11 : decode method_3_code 11 = .ok (.ldc2_w 26, 3) := by decide +kernel
theorem d4_14 : decode method_3_code 14 = .ok (.lmul, 1) := by decide +kernel
theorem d4_15 : decode method_3_code 15 = .ok (.lstore_n 0, 1) := by decide +kernel
theorem d4_16 : decode method_3_code 16 = .ok (.lload_n 0, 1) := by decide +kernel
theorem d4_17 : decode method_3_code 17 = .ok (.lload_n 0, 1) := by decide +kernel
theorem d4_18 : decode method_3_code 18 = .ok (.bipush 27, 2) := by decide +kernel
theorem d4_20 : decode method_3_code 20 = .ok (.lushr, 1) := by decide +kernel
theorem d4_21 : decode method_3_code 21 = .ok (.lxor, 1) := by decide +kernel
theorem d4_22 : decode method_3_code 22 = .ok (.lload_n 0, 1) := by decide +kernel
theorem d4_23 : decode method_3_code 23 = .ok (.bipush 54, 2) := by decide +kernel
theorem d4_25 : decode method_3_code 25 = .ok (.lushr, 1) := by decide +kernel
theorem d4_26 : decode method_3_code 26 = .ok (.lxor, 1) := by decide +kernel
theorem d4_27 : decode method_3_code 27 = .ok (.ldc2_w 28, 3) := by decide +kernel
theorem d4_30 : decode method_3_code 30 = .ok (.lmul, 1) := by decide +kernel
theorem d4_31 : decode method_3_code 31 = .ok (.lstore_n 0, 1) := by decide +kernel
theorem d4_32 : decode method_3_code 32 = .ok (.lload_n 0, 1) := by decide +kernel
theorem d4_33 : decode method_3_code 33 = .ok (.lload_n 0, 1) := by decide +kernel
theorem d4_34 : decode method_3_code 34 = .ok (.bipush 30, 2) := by decide +kernel
theorem d4_36 : decode method_3_code 36 = .ok (.lushr, 1) := by decide +kernel
theorem d4_37 : decode method_3_code 37 = .ok (.lxor, 1) := by decide +kernel
theorem d4_38 : decode method_3_code 38 = .ok (.lload_n 0, 1) := by decide +kernel
theorem d4_39 : decode method_3_code 39 = .ok (.bipush 60, 2) := by decide +kernel
theorem d4_41 : decode method_3_code 41 = .ok (.lushr, 1) := by decide +kernel
theorem d4_42 : decode method_3_code 42 = .ok (.lxor, 1) := by decide +kernel
theorem d4_43 : decode method_3_code 43 = .ok (.lreturn, 1) := by decide +kernel
theorem pn_com_example_eagerpair_eagerpair_algorithm_SeededRandomNextLongPinLaw : plainName "com/example/eagerpair/eagerpair/algorithm/SeededRandomNextLongPinLaw" = true := by first | (simp [plainName, overriddenIn]; done) | decide +kernel
theorem ef_rm4 (m : MethodId) (qx : Int64)  : entryFrame m #[(.long qx)] 2 = (mkF m 0 #[.val (.long qx), .second] []) := by first | (simp [entryFrame, mkF, argsToLocals, Value.category]; done) | rfl
def Q4 (Z : State) (qx : Int64) (h0 : Heap) (n0 : Nat) (v : Option Value) (h : Heap) (L : List Loc) : Prop := v = some (.long (own_unmix qx)) ∧ Fr n0 L ∧ h = h0
set_option maxRecDepth 65536 in
set_option maxHeartbeats 40000000 in
theorem rm4 (l : Launch) (Z : State) (a0 : Array Value) (hw : ∀ d ∈ tables_1, d.before a0 Z = true) (ws : List Jvm.Cond) (qx : Int64) (h0 : Heap) (n0 : Nat) (Z0 : n0 ≤ h0.size)  :
    MetFree l (⟨"com/example/eagerpair/eagerpair/algorithm/SeededRandomNextLongPinLaw", "unmix", "(J)J"⟩ : MethodName) (head1 (Jvm.Cond.code (⟨"com/example/eagerpair/eagerpair/algorithm/SeededRandomNextLongPinLaw", "unmix", "(J)J"⟩ : MethodName) method_3_code 2 (some .long) :: ws) ({ frames := 0, cells := 0, slots := 0, locals := 0 } : Room)) (fun a U => a = #[(.long qx)] ∧ Z.Warmed39 U.vm ∧ U.heap = h0) (fun _ _ _ _ _ => True) (fun _ U o U' => ∃ v L, o = .returned v ∧ Q4 Z qx h0 n0 v U'.heap L ∧ FrameEnd U o U' L ({ frames := 0, cells := 0, slots := 0, locals := 0 } : Room).cells ({ frames := 0, cells := 0, slots := 0, locals := 0 } : Room).slots) := by
  refine MetFree.of_bodySF (plainFor_of_name pn_com_example_eagerpair_eagerpair_algorithm_SeededRandomNextLongPinLaw) hisR ?_
  intro p e s m args below meth c s₁ Bd hml0 hP hK
  obtain ⟨rfl, hZ, hh⟩ := hP
  have hx := Bd.exec
  have hby := Bd.bytes
  have hml : c.maxLocals = 2 := hml0
  have hown : s.vm.findClass "com/example/eagerpair/eagerpair/algorithm/SeededRandomNextLongPinLaw" = some m.cls := findClass_of_methodNamed Bd.named
  have hnm := (name_of_methodNamed Bd.named Bd.method).1
  have X0 : Stand p l e ({ frames := 0, cells := 0, slots := 0, locals := 0 } : Room) s m #[(.long qx)] below meth c s₁ [] 0 0 := Stand.of_body Bd
  have e0 : s₁.heap = h0 := by rw [← hh, Bd.state]; rfl
  have N0 := Fr.nil n0
  have P0 : Wy p.tables e below (s₁.setTop (entryFrame m #[(.long qx)] 2)) (s₁.setTop (mkF m 0 #[.val (.long qx), .second] [])) := fun t k => castTop (ef_rm4 m qx) k
  have P1 : Wy p.tables e below (s₁.setTop (entryFrame m #[(.long qx)] 2)) (s₁.setTop (mkF m 16 #[.val (.long (((qx ^^^ ((qx.toUInt64 >>> ((31 : Int32) &&& 0x3f).toInt64.toUInt64).toInt64)) ^^^ ((qx.toUInt64 >>> ((62 : Int32) &&& 0x3f).toInt64.toUInt64).toInt64)) * (3573116690164977347 : Int64))), .second] [])) := fun t k => P0 t (by
    show Steps p.tables e below (s₁.setTop (mkF m 0 #[.val (.long qx), .second] [])) _
    refine XS.lloadN X0.here hx rfl (hb hby d4_0) rfl  ?_
    show Steps p.tables e below (s₁.setTop (mkF m 1 #[.val (.long qx), .second] [(.long qx)])) _
    refine XS.lloadN X0.here hx rfl (hb hby d4_1) rfl  ?_
    show Steps p.tables e below (s₁.setTop (mkF m 2 #[.val (.long qx), .second] [(.long qx), (.long qx)])) _
    refine XS.bipush X0.here hx rfl (hb hby d4_2) ?_
    show Steps p.tables e below (s₁.setTop (mkF m 4 #[.val (.long qx), .second] [(.int (31 : Int32)), (.long qx), (.long qx)])) _
    refine XS.lushr X0.here hx rfl (hb hby d4_4) rfl ?_
    show Steps p.tables e below (s₁.setTop (mkF m 5 #[.val (.long qx), .second] [(.long ((qx.toUInt64 >>> ((31 : Int32) &&& 0x3f).toInt64.toUInt64).toInt64)), (.long qx)])) _
    refine XS.lxor X0.here hx rfl (hb hby d4_5) rfl ?_
    show Steps p.tables e below (s₁.setTop (mkF m 6 #[.val (.long qx), .second] [(.long (qx ^^^ ((qx.toUInt64 >>> ((31 : Int32) &&& 0x3f).toInt64.toUInt64).toInt64)))])) _
    refine XS.lloadN X0.here hx rfl (hb hby d4_6) rfl  ?_
    show Steps p.tables e below (s₁.setTop (mkF m 7 #[.val (.long qx), .second] [(.long qx), (.long (qx ^^^ ((qx.toUInt64 >>> ((31 : Int32) &&& 0x3f).toInt64.toUInt64).toInt64)))])) _
    refine XS.bipush X0.here hx rfl (hb hby d4_7) ?_
    show Steps p.tables e below (s₁.setTop (mkF m 9 #[.val (.long qx), .second] [(.int (62 : Int32)), (.long qx), (.long (qx ^^^ ((qx.toUInt64 >>> ((31 : Int32) &&& 0x3f).toInt64.toUInt64).toInt64)))])) _
    refine XS.lushr X0.here hx rfl (hb hby d4_9) rfl ?_
    show Steps p.tables e below (s₁.setTop (mkF m 10 #[.val (.long qx), .second] [(.long ((qx.toUInt64 >>> ((62 : Int32) &&& 0x3f).toInt64.toUInt64).toInt64)), (.long (qx ^^^ ((qx.toUInt64 >>> ((31 : Int32) &&& 0x3f).toInt64.toUInt64).toInt64)))])) _
    refine XS.lxor X0.here hx rfl (hb hby d4_10) rfl ?_
    show Steps p.tables e below (s₁.setTop (mkF m 11 #[.val (.long qx), .second] [(.long ((qx ^^^ ((qx.toUInt64 >>> ((31 : Int32) &&& 0x3f).toInt64.toUInt64).toInt64)) ^^^ ((qx.toUInt64 >>> ((62 : Int32) &&& 0x3f).toInt64.toUInt64).toInt64)))])) _
    refine X0.ldc2Long hx hown (mvT hZ (hw _ (List.mem_of_getElem? (i := 24) rfl))) (g := (mkF m 11 #[.val (.long qx), .second] [(.long ((qx ^^^ ((qx.toUInt64 >>> ((31 : Int32) &&& 0x3f).toInt64.toUInt64).toInt64)) ^^^ ((qx.toUInt64 >>> ((62 : Int32) &&& 0x3f).toInt64.toUInt64).toInt64)))])) rfl (hb hby d4_11) _ ?_
    show Steps p.tables e below (s₁.setTop (mkF m 14 #[.val (.long qx), .second] [(.long (3573116690164977347 : Int64)), (.long ((qx ^^^ ((qx.toUInt64 >>> ((31 : Int32) &&& 0x3f).toInt64.toUInt64).toInt64)) ^^^ ((qx.toUInt64 >>> ((62 : Int32) &&& 0x3f).toInt64.toUInt64).toInt64)))])) _
    refine XS.lmul X0.here hx rfl (hb hby d4_14) rfl ?_
    show Steps p.tables e below (s₁.setTop (mkF m 15 #[.val (.long qx), .second] [(.long (((qx ^^^ ((qx.toUInt64 >>> ((31 : Int32) &&& 0x3f).toInt64.toUInt64).toInt64)) ^^^ ((qx.toUInt64 >>> ((62 : Int32) &&& 0x3f).toInt64.toUInt64).toInt64)) * (3573116690164977347 : Int64)))])) _
    refine XS.lstoreN X0.here hx rfl (hb hby d4_15) rfl (l' := #[.val (.long (((qx ^^^ ((qx.toUInt64 >>> ((31 : Int32) &&& 0x3f).toInt64.toUInt64).toInt64)) ^^^ ((qx.toUInt64 >>> ((62 : Int32) &&& 0x3f).toInt64.toUInt64).toInt64)) * (3573116690164977347 : Int64))), .second]) rfl ?_
    exact k)
  obtain ⟨v2, hv2⟩ : ∃ z : Int64, z = (((qx ^^^ ((qx.toUInt64 >>> ((31 : Int32) &&& 0x3f).toInt64.toUInt64).toInt64)) ^^^ ((qx.toUInt64 >>> ((62 : Int32) &&& 0x3f).toInt64.toUInt64).toInt64)) * (3573116690164977347 : Int64)) := ⟨_, rfl⟩
  have P3 : Wy p.tables e below (s₁.setTop (entryFrame m #[(.long qx)] 2)) (s₁.setTop (mkF m 16 #[.val (.long v2), .second] [])) := fun t k => by subst hv2; exact P1 t k
  have P4 : Wy p.tables e below (s₁.setTop (entryFrame m #[(.long qx)] 2)) (s₁.setTop (mkF m 32 #[.val (.long (((v2 ^^^ ((v2.toUInt64 >>> ((27 : Int32) &&& 0x3f).toInt64.toUInt64).toInt64)) ^^^ ((v2.toUInt64 >>> ((54 : Int32) &&& 0x3f).toInt64.toUInt64).toInt64)) * (-7575587736534282103 : Int64))), .second] [])) := fun t k => P3 t (by
    show Steps p.tables e below (s₁.setTop (mkF m 16 #[.val (.long v2), .second] [])) _
    refine XS.lloadN X0.here hx rfl (hb hby d4_16) rfl  ?_
    show Steps p.tables e below (s₁.setTop (mkF m 17 #[.val (.long v2), .second] [(.long v2)])) _
    refine XS.lloadN X0.here hx rfl (hb hby d4_17) rfl  ?_
    show Steps p.tables e below (s₁.setTop (mkF m 18 #[.val (.long v2), .second] [(.long v2), (.long v2)])) _
    refine XS.bipush X0.here hx rfl (hb hby d4_18) ?_
    show Steps p.tables e below (s₁.setTop (mkF m 20 #[.val (.long v2), .second] [(.int (27 : Int32)), (.long v2), (.long v2)])) _
    refine XS.lushr X0.here hx rfl (hb hby d4_20) rfl ?_
    show Steps p.tables e below (s₁.setTop (mkF m 21 #[.val (.long v2), .second] [(.long ((v2.toUInt64 >>> ((27 : Int32) &&& 0x3f).toInt64.toUInt64).toInt64)), (.long v2)])) _
    refine XS.lxor X0.here hx rfl (hb hby d4_21) rfl ?_
    show Steps p.tables e below (s₁.setTop (mkF m 22 #[.val (.long v2), .second] [(.long (v2 ^^^ ((v2.toUInt64 >>> ((27 : Int32) &&& 0x3f).toInt64.toUInt64).toInt64)))])) _
    refine XS.lloadN X0.here hx rfl (hb hby d4_22) rfl  ?_
    show Steps p.tables e below (s₁.setTop (mkF m 23 #[.val (.long v2), .second] [(.long v2), (.long (v2 ^^^ ((v2.toUInt64 >>> ((27 : Int32) &&& 0x3f).toInt64.toUInt64).toInt64)))])) _
    refine XS.bipush X0.here hx rfl (hb hby d4_23) ?_
    show Steps p.tables e below (s₁.setTop (mkF m 25 #[.val (.long v2), .second] [(.int (54 : Int32)), (.long v2), (.long (v2 ^^^ ((v2.toUInt64 >>> ((27 : Int32) &&& 0x3f).toInt64.toUInt64).toInt64)))])) _
    refine XS.lushr X0.here hx rfl (hb hby d4_25) rfl ?_
    show Steps p.tables e below (s₁.setTop (mkF m 26 #[.val (.long v2), .second] [(.long ((v2.toUInt64 >>> ((54 : Int32) &&& 0x3f).toInt64.toUInt64).toInt64)), (.long (v2 ^^^ ((v2.toUInt64 >>> ((27 : Int32) &&& 0x3f).toInt64.toUInt64).toInt64)))])) _
    refine XS.lxor X0.here hx rfl (hb hby d4_26) rfl ?_
    show Steps p.tables e below (s₁.setTop (mkF m 27 #[.val (.long v2), .second] [(.long ((v2 ^^^ ((v2.toUInt64 >>> ((27 : Int32) &&& 0x3f).toInt64.toUInt64).toInt64)) ^^^ ((v2.toUInt64 >>> ((54 : Int32) &&& 0x3f).toInt64.toUInt64).toInt64)))])) _
    refine X0.ldc2Long hx hown (mvT hZ (hw _ (List.mem_of_getElem? (i := 25) rfl))) (g := (mkF m 27 #[.val (.long v2), .second] [(.long ((v2 ^^^ ((v2.toUInt64 >>> ((27 : Int32) &&& 0x3f).toInt64.toUInt64).toInt64)) ^^^ ((v2.toUInt64 >>> ((54 : Int32) &&& 0x3f).toInt64.toUInt64).toInt64)))])) rfl (hb hby d4_27) _ ?_
    show Steps p.tables e below (s₁.setTop (mkF m 30 #[.val (.long v2), .second] [(.long (-7575587736534282103 : Int64)), (.long ((v2 ^^^ ((v2.toUInt64 >>> ((27 : Int32) &&& 0x3f).toInt64.toUInt64).toInt64)) ^^^ ((v2.toUInt64 >>> ((54 : Int32) &&& 0x3f).toInt64.toUInt64).toInt64)))])) _
    refine XS.lmul X0.here hx rfl (hb hby d4_30) rfl ?_
    show Steps p.tables e below (s₁.setTop (mkF m 31 #[.val (.long v2), .second] [(.long (((v2 ^^^ ((v2.toUInt64 >>> ((27 : Int32) &&& 0x3f).toInt64.toUInt64).toInt64)) ^^^ ((v2.toUInt64 >>> ((54 : Int32) &&& 0x3f).toInt64.toUInt64).toInt64)) * (-7575587736534282103 : Int64)))])) _
    refine XS.lstoreN X0.here hx rfl (hb hby d4_31) rfl (l' := #[.val (.long (((v2 ^^^ ((v2.toUInt64 >>> ((27 : Int32) &&& 0x3f).toInt64.toUInt64).toInt64)) ^^^ ((v2.toUInt64 >>> ((54 : Int32) &&& 0x3f).toInt64.toUInt64).toInt64)) * (-7575587736534282103 : Int64))), .second]) rfl ?_
    exact k)
  obtain ⟨v5, hv5⟩ : ∃ z : Int64, z = (((v2 ^^^ ((v2.toUInt64 >>> ((27 : Int32) &&& 0x3f).toInt64.toUInt64).toInt64)) ^^^ ((v2.toUInt64 >>> ((54 : Int32) &&& 0x3f).toInt64.toUInt64).toInt64)) * (-7575587736534282103 : Int64)) := ⟨_, rfl⟩
  have P6 : Wy p.tables e below (s₁.setTop (entryFrame m #[(.long qx)] 2)) (s₁.setTop (mkF m 32 #[.val (.long v5), .second] [])) := fun t k => by subst hv5; exact P4 t k
  have P7 : Wy p.tables e below (s₁.setTop (entryFrame m #[(.long qx)] 2)) (s₁.setTop (mkF m 43 #[.val (.long v5), .second] [(.long ((v5 ^^^ ((v5.toUInt64 >>> ((30 : Int32) &&& 0x3f).toInt64.toUInt64).toInt64)) ^^^ ((v5.toUInt64 >>> ((60 : Int32) &&& 0x3f).toInt64.toUInt64).toInt64)))])) := fun t k => P6 t (by
    show Steps p.tables e below (s₁.setTop (mkF m 32 #[.val (.long v5), .second] [])) _
    refine XS.lloadN X0.here hx rfl (hb hby d4_32) rfl  ?_
    show Steps p.tables e below (s₁.setTop (mkF m 33 #[.val (.long v5), .second] [(.long v5)])) _
    refine XS.lloadN X0.here hx rfl (hb hby d4_33) rfl  ?_
    show Steps p.tables e below (s₁.setTop (mkF m 34 #[.val (.long v5), .second] [(.long v5), (.long v5)])) _
    refine XS.bipush X0.here hx rfl (hb hby d4_34) ?_
    show Steps p.tables e below (s₁.setTop (mkF m 36 #[.val (.long v5), .second] [(.int (30 : Int32)), (.long v5), (.long v5)])) _
    refine XS.lushr X0.here hx rfl (hb hby d4_36) rfl ?_
    show Steps p.tables e below (s₁.setTop (mkF m 37 #[.val (.long v5), .second] [(.long ((v5.toUInt64 >>> ((30 : Int32) &&& 0x3f).toInt64.toUInt64).toInt64)), (.long v5)])) _
    refine XS.lxor X0.here hx rfl (hb hby d4_37) rfl ?_
    show Steps p.tables e below (s₁.setTop (mkF m 38 #[.val (.long v5), .second] [(.long (v5 ^^^ ((v5.toUInt64 >>> ((30 : Int32) &&& 0x3f).toInt64.toUInt64).toInt64)))])) _
    refine XS.lloadN X0.here hx rfl (hb hby d4_38) rfl  ?_
    show Steps p.tables e below (s₁.setTop (mkF m 39 #[.val (.long v5), .second] [(.long v5), (.long (v5 ^^^ ((v5.toUInt64 >>> ((30 : Int32) &&& 0x3f).toInt64.toUInt64).toInt64)))])) _
    refine XS.bipush X0.here hx rfl (hb hby d4_39) ?_
    show Steps p.tables e below (s₁.setTop (mkF m 41 #[.val (.long v5), .second] [(.int (60 : Int32)), (.long v5), (.long (v5 ^^^ ((v5.toUInt64 >>> ((30 : Int32) &&& 0x3f).toInt64.toUInt64).toInt64)))])) _
    refine XS.lushr X0.here hx rfl (hb hby d4_41) rfl ?_
    show Steps p.tables e below (s₁.setTop (mkF m 42 #[.val (.long v5), .second] [(.long ((v5.toUInt64 >>> ((60 : Int32) &&& 0x3f).toInt64.toUInt64).toInt64)), (.long (v5 ^^^ ((v5.toUInt64 >>> ((30 : Int32) &&& 0x3f).toInt64.toUInt64).toInt64)))])) _
    refine XS.lxor X0.here hx rfl (hb hby d4_42) rfl ?_
    exact k)
  obtain ⟨fs, hr, hrun, hended, hW, hsame⟩ := X0.leave (v := some (.long ((v5 ^^^ ((v5.toUInt64 >>> ((30 : Int32) &&& 0x3f).toInt64.toUInt64).toInt64)) ^^^ ((v5.toUInt64 >>> ((60 : Int32) &&& 0x3f).toInt64.toUInt64).toInt64)))) (fun h => by rw [Bd.returns] at h; cases h)
  refine ⟨_, _, P7 _ ?_, hrun, hended, _, _, rfl, ?_, ⟨_, rfl⟩, hW, hsame.mono (by decide) (by decide)⟩
  · show Steps p.tables e below (s₁.setTop (mkF m 43 #[.val (.long v5), .second] [(.long ((v5 ^^^ ((v5.toUInt64 >>> ((30 : Int32) &&& 0x3f).toInt64.toUInt64).toInt64)) ^^^ ((v5.toUInt64 >>> ((60 : Int32) &&& 0x3f).toInt64.toUInt64).toInt64)))])) _
    exact X0.lreturnOut hx Bd.returns (hb hby d4_43) hr
  · show Q4 Z qx h0 n0 _ s₁.heap _
    rw [e0]
    exact ⟨congrArg (fun z => some (Value.long z)) (show _ = own_unmix qx from by subst hv2 hv5; rfl), N0, rfl⟩
theorem pd_lJrV : parseMethodDescriptor "(J)V" = some ⟨[.long], none⟩ := by decide +kernel
theorem pd_lrJ : parseMethodDescriptor "()J" = some ⟨[], some .long⟩ := by decide +kernel
theorem pd_lJrJ : parseMethodDescriptor "(J)J" = some ⟨[.long], some .long⟩ := by decide +kernel
theorem ef_rm0 (m : MethodId) (ax : Int64) (bx : Int64)  : entryFrame m #[(.long ax), (.long bx)] maxLocals = (mkF m 0 #[.val (.long ax), .second, .val (.long bx), .second, .unset, .unset, .unset, .unset, .unset, .unset, .unset, .unset, .unset, .unset] []) := by first | (simp [entryFrame, mkF, argsToLocals, Value.category, maxLocals]; done) | rfl
def Q0 (Z : State) (ax bx : Int64) (h0 : Heap) (n0 : Nat) (v : Option Value) (h : Heap) (L : List Loc) : Prop := v = some (.int 1) ∧ Fr n0 L
set_option maxRecDepth 65536 in
set_option maxHeartbeats 40000000 in
theorem rm0 (l : Launch) (Z : State) (a0 : Array Value) (hw : ∀ d ∈ tables_1, d.before a0 Z = true) (ws : List Jvm.Cond) (ax bx : Int64) (h0 : Heap) (n0 : Nat) (Z0 : n0 ≤ h0.size)  :
    MetFree l x (head1 (Jvm.Cond.code x code maxLocals ret :: ws) room_1) (fun a U => a = #[(.long ax), (.long bx)] ∧ Z.Warmed39 U.vm ∧ U.heap = h0) (fun _ _ _ _ _ => True) (fun _ U o U' => ∃ v L, o = .returned v ∧ Q0 Z ax bx h0 n0 v U'.heap L ∧ FrameEnd U o U' L room_1.cells room_1.slots) := by
  refine MetFree.of_bodySF (plainFor_of_name pn_com_example_eagerpair_eagerpair_algorithm_SeededRandomNextLongPinLaw) hisR ?_
  intro p e s m args below meth c s₁ Bd hml0 hP hK
  obtain ⟨rfl, hZ, hh⟩ := hP
  have hx := Bd.exec
  have hby := Bd.bytes
  have hml : c.maxLocals = 14 := hml0
  have hown : s.vm.findClass "com/example/eagerpair/eagerpair/algorithm/SeededRandomNextLongPinLaw" = some m.cls := findClass_of_methodNamed Bd.named
  have hnm := (name_of_methodNamed Bd.named Bd.method).1
  have X0 : Stand p l e room_1 s m #[(.long ax), (.long bx)] below meth c s₁ [] 0 0 := Stand.of_body Bd
  have e0 : s₁.heap = h0 := by rw [← hh, Bd.state]; rfl
  have N0 := Fr.nil n0
  have P0 : Wy p.tables e below (s₁.setTop (entryFrame m #[(.long ax), (.long bx)] maxLocals)) (s₁.setTop (mkF m 0 #[.val (.long ax), .second, .val (.long bx), .second, .unset, .unset, .unset, .unset, .unset, .unset, .unset, .unset, .unset, .unset] [])) := fun t k => castTop (ef_rm0 m ax bx) k
  have P1 : Wy p.tables e below (s₁.setTop (entryFrame m #[(.long ax), (.long bx)] maxLocals)) (s₁.setTop (mkF m 5 #[.val (.long ax), .second, .val (.long bx), .second, .val (.long (-7046029254386353131 : Int64)), .second, .unset, .unset, .unset, .unset, .unset, .unset, .unset, .unset] [])) := fun t k => P0 t (by
    show Steps p.tables e below (s₁.setTop (mkF m 0 #[.val (.long ax), .second, .val (.long bx), .second, .unset, .unset, .unset, .unset, .unset, .unset, .unset, .unset, .unset, .unset] [])) _
    refine X0.ldc2Long hx hown (mvT hZ (hw _ (List.mem_of_getElem? (i := 0) rfl))) (g := (mkF m 0 #[.val (.long ax), .second, .val (.long bx), .second, .unset, .unset, .unset, .unset, .unset, .unset, .unset, .unset, .unset, .unset] [])) rfl (hb hby at_0) _ ?_
    show Steps p.tables e below (s₁.setTop (mkF m 3 #[.val (.long ax), .second, .val (.long bx), .second, .unset, .unset, .unset, .unset, .unset, .unset, .unset, .unset, .unset, .unset] [(.long (-7046029254386353131 : Int64))])) _
    refine XS.lstore X0.here hx rfl (hb hby at_3) rfl (l' := #[.val (.long ax), .second, .val (.long bx), .second, .val (.long (-7046029254386353131 : Int64)), .second, .unset, .unset, .unset, .unset, .unset, .unset, .unset, .unset]) rfl ?_
    exact k)
  obtain ⟨T2, h2, X2, e2, E2, A2, D2, -, st2⟩ := newO X0 hx hZ hown (hw _ (List.mem_of_getElem? (i := 1) rfl)) (hw _ (List.mem_of_getElem? (i := 2) rfl)) (hw _ (List.mem_of_getElem? (i := 3) rfl)) e0 (g := (mkF m 5 #[.val (.long ax), .second, .val (.long bx), .second, .val (.long (-7046029254386353131 : Int64)), .second, .unset, .unset, .unset, .unset, .unset, .unset, .unset, .unset] [])) rfl (hb hby at_5) (by decide) (by decide)
  obtain ⟨b2, g2⟩ : ∃ z, z = h0.size := ⟨_, rfl⟩
  rw [← g2] at A2 D2 st2
  have g_b2 : n0 ≤ b2 := Nat.le_trans Z0 (Nat.le_of_eq g2.symm)
  have z2 : n0 ≤ h2.size := Nat.le_trans Z0 E2.1
  have F2_state : Fld Z h2 b2 "com/example/eagerpair/eagerpair/algorithm/SeededRandom" "state" "J" (.long (0 : Int64)) := D2 (Or.inl (hw _ (List.mem_of_getElem? (i := 11) rfl))) (ty := .long) (by decide)
  have P3 : Wy p.tables e below (s₁.setTop (entryFrame m #[(.long ax), (.long bx)] maxLocals)) (T2.setTop (mkF m 8 #[.val (.long ax), .second, .val (.long bx), .second, .val (.long (-7046029254386353131 : Int64)), .second, .unset, .unset, .unset, .unset, .unset, .unset, .unset, .unset] [(.ref b2)])) := fun t k => P1 t (st2 _ k)
  have P4 : Wy p.tables e below (s₁.setTop (entryFrame m #[(.long ax), (.long bx)] maxLocals)) (T2.setTop (mkF m 10 #[.val (.long ax), .second, .val (.long bx), .second, .val (.long (-7046029254386353131 : Int64)), .second, .unset, .unset, .unset, .unset, .unset, .unset, .unset, .unset] [(.long ax), (.ref b2), (.ref b2)])) := fun t k => P3 t (by
    show Steps p.tables e below (T2.setTop (mkF m 8 #[.val (.long ax), .second, .val (.long bx), .second, .val (.long (-7046029254386353131 : Int64)), .second, .unset, .unset, .unset, .unset, .unset, .unset, .unset, .unset] [(.ref b2)])) _
    refine XS.dup X2.here hx rfl (hb hby at_8) rfl rfl ?_
    show Steps p.tables e below (T2.setTop (mkF m 9 #[.val (.long ax), .second, .val (.long bx), .second, .val (.long (-7046029254386353131 : Int64)), .second, .unset, .unset, .unset, .unset, .unset, .unset, .unset, .unset] [(.ref b2), (.ref b2)])) _
    refine XS.lloadN X2.here hx rfl (hb hby at_9) rfl  ?_
    exact k)
  obtain ⟨_, _, ⟨T5, L5, k5, n5⟩, -, X5, ⟨Lc5, hQ5, l5, y5, z5⟩, st5⟩ := X2.specialBack hx (y := (⟨"com/example/eagerpair/eagerpair/algorithm/SeededRandom", "<init>", "(J)V"⟩ : MethodName)) rfl hown (mvT hZ (hw _ (List.mem_of_getElem? (i := 4) rfl))) (mvT hZ (hw _ (List.mem_of_getElem? (i := 5) rfl))) (mvT hZ (hw _ (List.mem_of_getElem? (i := 6) rfl))) (by decide) (backOf (W := 1) (rm1 l Z a0 hw [] b2 ax  h2 n0 z2 A2 F2_state g_b2 ) hZ (hw _ (List.mem_of_getElem? (i := 6) rfl)) (hw _ (List.mem_of_getElem? (i := 3) rfl)) (by decide) (by decide)) (g := (mkF m 10 #[.val (.long ax), .second, .val (.long bx), .second, .val (.long (-7046029254386353131 : Int64)), .second, .unset, .unset, .unset, .unset, .unset, .unset, .unset, .unset] [(.long ax), (.ref b2), (.ref b2)])) rfl (by rw [hml]; rfl) (Steps.refl _) (a := b2) (argsL := [(.long ax)]) (rest := [(.ref b2)]) (lenOf pd_lJrV rfl) rfl (by show 2 * 0 + _ ≤ _; exact Nat.le_of_eq rfl) (hb hby at_10) (fun _ _ => ⟨rfl, e2, (by decide : 1 + 0 ≤ _), (by decide : 1 + 0 ≤ _)⟩)
  dsimp only [Pt.U, Pt.locs, Pt.cells, Pt.slots] at X5 l5 y5 z5 st5 hQ5
  subst l5 y5 z5
  obtain ⟨rfl, N5q, K5q, E5q, F5q_state⟩ := hQ5
  have N5 := Fr.app N0 N5q
  have z5k : n0 ≤ T5.heap.size := Nat.le_trans z2 K5q.1
  have A5_b2 := A2.keep K5q
  have P6 : Wy p.tables e below (s₁.setTop (entryFrame m #[(.long ax), (.long bx)] maxLocals)) (T5.setTop (mkF m 13 #[.val (.long ax), .second, .val (.long bx), .second, .val (.long (-7046029254386353131 : Int64)), .second, .unset, .unset, .unset, .unset, .unset, .unset, .unset, .unset] [(.ref b2)])) := fun t k => P4 t (st5.trans k)
  have P7 : Wy p.tables e below (s₁.setTop (entryFrame m #[(.long ax), (.long bx)] maxLocals)) (T5.setTop (mkF m 15 #[.val (.long ax), .second, .val (.long bx), .second, .val (.long (-7046029254386353131 : Int64)), .second, .val (.ref b2), .unset, .unset, .unset, .unset, .unset, .unset, .unset] [])) := fun t k => P6 t (by
    show Steps p.tables e below (T5.setTop (mkF m 13 #[.val (.long ax), .second, .val (.long bx), .second, .val (.long (-7046029254386353131 : Int64)), .second, .unset, .unset, .unset, .unset, .unset, .unset, .unset, .unset] [(.ref b2)])) _
    refine XS.astore X5.here hx rfl (hb hby at_13) rfl rfl (l' := #[.val (.long ax), .second, .val (.long bx), .second, .val (.long (-7046029254386353131 : Int64)), .second, .val (.ref b2), .unset, .unset, .unset, .unset, .unset, .unset, .unset]) rfl ?_
    exact k)
  obtain ⟨T8, h8, X8, e8, E8, A8, D8, -, st8⟩ := newO X5 hx hZ hown (hw _ (List.mem_of_getElem? (i := 1) rfl)) (hw _ (List.mem_of_getElem? (i := 2) rfl)) (hw _ (List.mem_of_getElem? (i := 3) rfl)) rfl (g := (mkF m 15 #[.val (.long ax), .second, .val (.long bx), .second, .val (.long (-7046029254386353131 : Int64)), .second, .val (.ref b2), .unset, .unset, .unset, .unset, .unset, .unset, .unset] [])) rfl (hb hby at_15) (by decide) (by decide)
  obtain ⟨b8, g8⟩ : ∃ z, z = T5.heap.size := ⟨_, rfl⟩
  rw [← g8] at A8 D8 st8
  have g_b8 : n0 ≤ b8 := Nat.le_trans z5k (Nat.le_of_eq g8.symm)
  have z8 : n0 ≤ h8.size := Nat.le_trans z5k E8.1
  have ne_b2_b8 : b2 ≠ b8 := Nat.ne_of_lt (Nat.lt_of_lt_of_le E5q.lt (Nat.le_of_eq g8.symm))
  have A8_b2 := E5q.ext E8
  have F8_b2_state := F5q_state.ext E8
  have F8_state : Fld Z h8 b8 "com/example/eagerpair/eagerpair/algorithm/SeededRandom" "state" "J" (.long (0 : Int64)) := D8 (Or.inl (hw _ (List.mem_of_getElem? (i := 11) rfl))) (ty := .long) (by decide)
  have P9 : Wy p.tables e below (s₁.setTop (entryFrame m #[(.long ax), (.long bx)] maxLocals)) (T8.setTop (mkF m 18 #[.val (.long ax), .second, .val (.long bx), .second, .val (.long (-7046029254386353131 : Int64)), .second, .val (.ref b2), .unset, .unset, .unset, .unset, .unset, .unset, .unset] [(.ref b8)])) := fun t k => P7 t (st8 _ k)
  have P10 : Wy p.tables e below (s₁.setTop (entryFrame m #[(.long ax), (.long bx)] maxLocals)) (T8.setTop (mkF m 20 #[.val (.long ax), .second, .val (.long bx), .second, .val (.long (-7046029254386353131 : Int64)), .second, .val (.ref b2), .unset, .unset, .unset, .unset, .unset, .unset, .unset] [(.long bx), (.ref b8), (.ref b8)])) := fun t k => P9 t (by
    show Steps p.tables e below (T8.setTop (mkF m 18 #[.val (.long ax), .second, .val (.long bx), .second, .val (.long (-7046029254386353131 : Int64)), .second, .val (.ref b2), .unset, .unset, .unset, .unset, .unset, .unset, .unset] [(.ref b8)])) _
    refine XS.dup X8.here hx rfl (hb hby at_18) rfl rfl ?_
    show Steps p.tables e below (T8.setTop (mkF m 19 #[.val (.long ax), .second, .val (.long bx), .second, .val (.long (-7046029254386353131 : Int64)), .second, .val (.ref b2), .unset, .unset, .unset, .unset, .unset, .unset, .unset] [(.ref b8), (.ref b8)])) _
    refine XS.lloadN X8.here hx rfl (hb hby at_19) rfl  ?_
    exact k)
  obtain ⟨_, _, ⟨T11, L11, k11, n11⟩, -, X11, ⟨Lc11, hQ11, l11, y11, z11⟩, st11⟩ := X8.specialBack hx (y := (⟨"com/example/eagerpair/eagerpair/algorithm/SeededRandom", "<init>", "(J)V"⟩ : MethodName)) rfl hown (mvT hZ (hw _ (List.mem_of_getElem? (i := 4) rfl))) (mvT hZ (hw _ (List.mem_of_getElem? (i := 5) rfl))) (mvT hZ (hw _ (List.mem_of_getElem? (i := 6) rfl))) (by decide) (backOf (W := 1) (rm1 l Z a0 hw [] b8 bx  h8 n0 z8 A8 F8_state g_b8 ) hZ (hw _ (List.mem_of_getElem? (i := 6) rfl)) (hw _ (List.mem_of_getElem? (i := 3) rfl)) (by decide) (by decide)) (g := (mkF m 20 #[.val (.long ax), .second, .val (.long bx), .second, .val (.long (-7046029254386353131 : Int64)), .second, .val (.ref b2), .unset, .unset, .unset, .unset, .unset, .unset, .unset] [(.long bx), (.ref b8), (.ref b8)])) rfl (by rw [hml]; rfl) (Steps.refl _) (a := b8) (argsL := [(.long bx)]) (rest := [(.ref b8)]) (lenOf pd_lJrV rfl) rfl (by show 2 * 0 + _ ≤ _; exact Nat.le_of_eq rfl) (hb hby at_20) (fun _ _ => ⟨rfl, e8, (by decide : 2 + 0 ≤ _), (by decide : 2 + 0 ≤ _)⟩)
  dsimp only [Pt.U, Pt.locs, Pt.cells, Pt.slots] at X11 l11 y11 z11 st11 hQ11
  subst l11 y11 z11
  obtain ⟨rfl, N11q, K11q, E11q, F11q_state⟩ := hQ11
  have N11 := Fr.app N5 N11q
  have z11k : n0 ≤ T11.heap.size := Nat.le_trans z8 K11q.1
  have A11_b2 := A8_b2.keep K11q
  have A11_b8 := A8.keep K11q
  have F11_b2_state := F8_b2_state.keep K11q (own_nm ne_b2_b8)
  have P12 : Wy p.tables e below (s₁.setTop (entryFrame m #[(.long ax), (.long bx)] maxLocals)) (T11.setTop (mkF m 23 #[.val (.long ax), .second, .val (.long bx), .second, .val (.long (-7046029254386353131 : Int64)), .second, .val (.ref b2), .unset, .unset, .unset, .unset, .unset, .unset, .unset] [(.ref b8)])) := fun t k => P10 t (st11.trans k)
  have P13 : Wy p.tables e below (s₁.setTop (entryFrame m #[(.long ax), (.long bx)] maxLocals)) (T11.setTop (mkF m 27 #[.val (.long ax), .second, .val (.long bx), .second, .val (.long (-7046029254386353131 : Int64)), .second, .val (.ref b2), .val (.ref b8), .unset, .unset, .unset, .unset, .unset, .unset] [(.ref b2)])) := fun t k => P12 t (by
    show Steps p.tables e below (T11.setTop (mkF m 23 #[.val (.long ax), .second, .val (.long bx), .second, .val (.long (-7046029254386353131 : Int64)), .second, .val (.ref b2), .unset, .unset, .unset, .unset, .unset, .unset, .unset] [(.ref b8)])) _
    refine XS.astore X11.here hx rfl (hb hby at_23) rfl rfl (l' := #[.val (.long ax), .second, .val (.long bx), .second, .val (.long (-7046029254386353131 : Int64)), .second, .val (.ref b2), .val (.ref b8), .unset, .unset, .unset, .unset, .unset, .unset]) rfl ?_
    show Steps p.tables e below (T11.setTop (mkF m 25 #[.val (.long ax), .second, .val (.long bx), .second, .val (.long (-7046029254386353131 : Int64)), .second, .val (.ref b2), .val (.ref b8), .unset, .unset, .unset, .unset, .unset, .unset] [])) _
    refine XS.aload X11.here hx rfl (hb hby at_25) rfl rfl  ?_
    exact k)
  obtain ⟨cq14, kq14, q14a, q14b, q14c⟩ := isOf hZ rfl A11_b2
  obtain ⟨_, _, ⟨T14, L14, k14, n14⟩, -, X14, ⟨Lc14, hQ14, l14, y14, z14⟩, st14⟩ := X11.virtualBack hx (y := (⟨"com/example/eagerpair/eagerpair/algorithm/SeededRandom", "nextLong", "()J"⟩ : MethodName)) (z := (⟨"com/example/eagerpair/eagerpair/algorithm/SeededRandom", "nextLong", "()J"⟩ : MethodName)) hown (mvT hZ (hw _ (List.mem_of_getElem? (i := 12) rfl))) (mvT hZ (hw _ (List.mem_of_getElem? (i := 13) rfl))) (notFace_of_selects (args := #[]) (mvT hZ (hw _ (List.mem_of_getElem? (i := 15) rfl)))) (mvT hZ (hw _ (List.mem_of_getElem? (i := 15) rfl))) (mvT hZ (hw _ (List.mem_of_getElem? (i := 14) rfl))) (by decide) (backOf (W := 0) (rm3 l Z a0 hw [] b2 ax T11.heap n0 z11k A11_b2 F11_b2_state g_b2 ) hZ (hw _ (List.mem_of_getElem? (i := 16) rfl)) (hw _ (List.mem_of_getElem? (i := 3) rfl)) (by decide) (by decide)) q14a q14c (g := (mkF m 27 #[.val (.long ax), .second, .val (.long bx), .second, .val (.long (-7046029254386353131 : Int64)), .second, .val (.ref b2), .val (.ref b8), .unset, .unset, .unset, .unset, .unset, .unset] [(.ref b2)])) rfl (by rw [hml]; rfl) (Steps.refl _) (argsL := []) (rest := []) (lenOf pd_lrJ rfl) rfl (by show 2 * 0 + _ ≤ _; exact Nat.le_of_eq rfl) (hb hby at_27) (fun _ _ => ⟨rfl, rfl, (by decide : 2 + 0 ≤ _), (by decide : 2 + 0 ≤ _)⟩)
  dsimp only [Pt.U, Pt.locs, Pt.cells, Pt.slots] at X14 l14 y14 z14 st14 hQ14
  subst l14 y14 z14
  obtain ⟨rfl, N14q, K14q, E14q, F14q_state⟩ := hQ14
  have N14 := Fr.app N11 N14q
  have z14k : n0 ≤ T14.heap.size := Nat.le_trans z11k K14q.1
  have A14_b2 := A11_b2.keep K14q
  have A14_b8 := E11q.keep K14q
  have F14_b8_state := F11q_state.keep K14q (own_nm (Ne.symm ne_b2_b8))
  have P15 : Wy p.tables e below (s₁.setTop (entryFrame m #[(.long ax), (.long bx)] maxLocals)) (T14.setTop (mkF m 30 #[.val (.long ax), .second, .val (.long bx), .second, .val (.long (-7046029254386353131 : Int64)), .second, .val (.ref b2), .val (.ref b8), .unset, .unset, .unset, .unset, .unset, .unset] [(.long (own_mix (ax + (-7046029254386353131 : Int64))))])) := fun t k => P13 t (st14.trans k)
  have P16 : Wy p.tables e below (s₁.setTop (entryFrame m #[(.long ax), (.long bx)] maxLocals)) (T14.setTop (mkF m 32 #[.val (.long ax), .second, .val (.long bx), .second, .val (.long (-7046029254386353131 : Int64)), .second, .val (.ref b2), .val (.ref b8), .val (.long (own_mix (ax + (-7046029254386353131 : Int64)))), .second, .unset, .unset, .unset, .unset] [])) := fun t k => P15 t (by
    show Steps p.tables e below (T14.setTop (mkF m 30 #[.val (.long ax), .second, .val (.long bx), .second, .val (.long (-7046029254386353131 : Int64)), .second, .val (.ref b2), .val (.ref b8), .unset, .unset, .unset, .unset, .unset, .unset] [(.long (own_mix (ax + (-7046029254386353131 : Int64))))])) _
    refine XS.lstore X14.here hx rfl (hb hby at_30) rfl (l' := #[.val (.long ax), .second, .val (.long bx), .second, .val (.long (-7046029254386353131 : Int64)), .second, .val (.ref b2), .val (.ref b8), .val (.long (own_mix (ax + (-7046029254386353131 : Int64)))), .second, .unset, .unset, .unset, .unset]) rfl ?_
    exact k)
  obtain ⟨v17, hv17⟩ : ∃ z : Int64, z = (own_mix (ax + (-7046029254386353131 : Int64))) := ⟨_, rfl⟩
  have P18 : Wy p.tables e below (s₁.setTop (entryFrame m #[(.long ax), (.long bx)] maxLocals)) (T14.setTop (mkF m 32 #[.val (.long ax), .second, .val (.long bx), .second, .val (.long (-7046029254386353131 : Int64)), .second, .val (.ref b2), .val (.ref b8), .val (.long v17), .second, .unset, .unset, .unset, .unset] [])) := fun t k => by subst hv17; exact P16 t k
  have P19 : Wy p.tables e below (s₁.setTop (entryFrame m #[(.long ax), (.long bx)] maxLocals)) (T14.setTop (mkF m 34 #[.val (.long ax), .second, .val (.long bx), .second, .val (.long (-7046029254386353131 : Int64)), .second, .val (.ref b2), .val (.ref b8), .val (.long v17), .second, .unset, .unset, .unset, .unset] [(.ref b8)])) := fun t k => P18 t (by
    show Steps p.tables e below (T14.setTop (mkF m 32 #[.val (.long ax), .second, .val (.long bx), .second, .val (.long (-7046029254386353131 : Int64)), .second, .val (.ref b2), .val (.ref b8), .val (.long v17), .second, .unset, .unset, .unset, .unset] [])) _
    refine XS.aload X14.here hx rfl (hb hby at_32) rfl rfl  ?_
    exact k)
  obtain ⟨cq20, kq20, q20a, q20b, q20c⟩ := isOf hZ rfl A14_b8
  obtain ⟨_, _, ⟨T20, L20, k20, n20⟩, -, X20, ⟨Lc20, hQ20, l20, y20, z20⟩, st20⟩ := X14.virtualBack hx (y := (⟨"com/example/eagerpair/eagerpair/algorithm/SeededRandom", "nextLong", "()J"⟩ : MethodName)) (z := (⟨"com/example/eagerpair/eagerpair/algorithm/SeededRandom", "nextLong", "()J"⟩ : MethodName)) hown (mvT hZ (hw _ (List.mem_of_getElem? (i := 12) rfl))) (mvT hZ (hw _ (List.mem_of_getElem? (i := 13) rfl))) (notFace_of_selects (args := #[]) (mvT hZ (hw _ (List.mem_of_getElem? (i := 15) rfl)))) (mvT hZ (hw _ (List.mem_of_getElem? (i := 15) rfl))) (mvT hZ (hw _ (List.mem_of_getElem? (i := 14) rfl))) (by decide) (backOf (W := 0) (rm3 l Z a0 hw [] b8 bx T14.heap n0 z14k A14_b8 F14_b8_state g_b8 ) hZ (hw _ (List.mem_of_getElem? (i := 16) rfl)) (hw _ (List.mem_of_getElem? (i := 3) rfl)) (by decide) (by decide)) q20a q20c (g := (mkF m 34 #[.val (.long ax), .second, .val (.long bx), .second, .val (.long (-7046029254386353131 : Int64)), .second, .val (.ref b2), .val (.ref b8), .val (.long v17), .second, .unset, .unset, .unset, .unset] [(.ref b8)])) rfl (by rw [hml]; rfl) (Steps.refl _) (argsL := []) (rest := []) (lenOf pd_lrJ rfl) rfl (by show 2 * 0 + _ ≤ _; exact Nat.le_of_eq rfl) (hb hby at_34) (fun _ _ => ⟨rfl, rfl, (by decide : 2 + 0 ≤ _), (by decide : 2 + 0 ≤ _)⟩)
  dsimp only [Pt.U, Pt.locs, Pt.cells, Pt.slots] at X20 l20 y20 z20 st20 hQ20
  subst l20 y20 z20
  obtain ⟨rfl, N20q, K20q, E20q, F20q_state⟩ := hQ20
  have N20 := Fr.app N14 N20q
  have z20k : n0 ≤ T20.heap.size := Nat.le_trans z14k K20q.1
  have A20_b2 := E14q.keep K20q
  have A20_b8 := A14_b8.keep K20q
  have F20_b2_state := F14q_state.keep K20q (own_nm ne_b2_b8)
  have P21 : Wy p.tables e below (s₁.setTop (entryFrame m #[(.long ax), (.long bx)] maxLocals)) (T20.setTop (mkF m 37 #[.val (.long ax), .second, .val (.long bx), .second, .val (.long (-7046029254386353131 : Int64)), .second, .val (.ref b2), .val (.ref b8), .val (.long v17), .second, .unset, .unset, .unset, .unset] [(.long (own_mix (bx + (-7046029254386353131 : Int64))))])) := fun t k => P19 t (st20.trans k)
  have P22 : Wy p.tables e below (s₁.setTop (entryFrame m #[(.long ax), (.long bx)] maxLocals)) (T20.setTop (mkF m 39 #[.val (.long ax), .second, .val (.long bx), .second, .val (.long (-7046029254386353131 : Int64)), .second, .val (.ref b2), .val (.ref b8), .val (.long v17), .second, .val (.long (own_mix (bx + (-7046029254386353131 : Int64)))), .second, .unset, .unset] [])) := fun t k => P21 t (by
    show Steps p.tables e below (T20.setTop (mkF m 37 #[.val (.long ax), .second, .val (.long bx), .second, .val (.long (-7046029254386353131 : Int64)), .second, .val (.ref b2), .val (.ref b8), .val (.long v17), .second, .unset, .unset, .unset, .unset] [(.long (own_mix (bx + (-7046029254386353131 : Int64))))])) _
    refine XS.lstore X20.here hx rfl (hb hby at_37) rfl (l' := #[.val (.long ax), .second, .val (.long bx), .second, .val (.long (-7046029254386353131 : Int64)), .second, .val (.ref b2), .val (.ref b8), .val (.long v17), .second, .val (.long (own_mix (bx + (-7046029254386353131 : Int64)))), .second, .unset, .unset]) rfl ?_
    exact k)
  obtain ⟨v23, hv23⟩ : ∃ z : Int64, z = (own_mix (bx + (-7046029254386353131 : Int64))) := ⟨_, rfl⟩
  have P24 : Wy p.tables e below (s₁.setTop (entryFrame m #[(.long ax), (.long bx)] maxLocals)) (T20.setTop (mkF m 39 #[.val (.long ax), .second, .val (.long bx), .second, .val (.long (-7046029254386353131 : Int64)), .second, .val (.ref b2), .val (.ref b8), .val (.long v17), .second, .val (.long v23), .second, .unset, .unset] [])) := fun t k => by subst hv23; exact P22 t k
  have P25 : Wy p.tables e below (s₁.setTop (entryFrame m #[(.long ax), (.long bx)] maxLocals)) (T20.setTop (mkF m 41 #[.val (.long ax), .second, .val (.long bx), .second, .val (.long (-7046029254386353131 : Int64)), .second, .val (.ref b2), .val (.ref b8), .val (.long v17), .second, .val (.long v23), .second, .unset, .unset] [(.ref b2)])) := fun t k => P24 t (by
    show Steps p.tables e below (T20.setTop (mkF m 39 #[.val (.long ax), .second, .val (.long bx), .second, .val (.long (-7046029254386353131 : Int64)), .second, .val (.ref b2), .val (.ref b8), .val (.long v17), .second, .val (.long v23), .second, .unset, .unset] [])) _
    refine XS.aload X20.here hx rfl (hb hby at_39) rfl rfl  ?_
    exact k)
  obtain ⟨cq26, kq26, q26a, q26b, q26c⟩ := isOf hZ rfl A20_b2
  obtain ⟨_, _, ⟨T26, L26, k26, n26⟩, -, X26, ⟨Lc26, hQ26, l26, y26, z26⟩, st26⟩ := X20.virtualBack hx (y := (⟨"com/example/eagerpair/eagerpair/algorithm/SeededRandom", "nextLong", "()J"⟩ : MethodName)) (z := (⟨"com/example/eagerpair/eagerpair/algorithm/SeededRandom", "nextLong", "()J"⟩ : MethodName)) hown (mvT hZ (hw _ (List.mem_of_getElem? (i := 12) rfl))) (mvT hZ (hw _ (List.mem_of_getElem? (i := 13) rfl))) (notFace_of_selects (args := #[]) (mvT hZ (hw _ (List.mem_of_getElem? (i := 15) rfl)))) (mvT hZ (hw _ (List.mem_of_getElem? (i := 15) rfl))) (mvT hZ (hw _ (List.mem_of_getElem? (i := 14) rfl))) (by decide) (backOf (W := 0) (rm3 l Z a0 hw [] b2 (ax + (-7046029254386353131 : Int64)) T20.heap n0 z20k A20_b2 F20_b2_state g_b2 ) hZ (hw _ (List.mem_of_getElem? (i := 16) rfl)) (hw _ (List.mem_of_getElem? (i := 3) rfl)) (by decide) (by decide)) q26a q26c (g := (mkF m 41 #[.val (.long ax), .second, .val (.long bx), .second, .val (.long (-7046029254386353131 : Int64)), .second, .val (.ref b2), .val (.ref b8), .val (.long v17), .second, .val (.long v23), .second, .unset, .unset] [(.ref b2)])) rfl (by rw [hml]; rfl) (Steps.refl _) (argsL := []) (rest := []) (lenOf pd_lrJ rfl) rfl (by show 2 * 0 + _ ≤ _; exact Nat.le_of_eq rfl) (hb hby at_41) (fun _ _ => ⟨rfl, rfl, (by decide : 2 + 0 ≤ _), (by decide : 2 + 0 ≤ _)⟩)
  dsimp only [Pt.U, Pt.locs, Pt.cells, Pt.slots] at X26 l26 y26 z26 st26 hQ26
  subst l26 y26 z26
  obtain ⟨rfl, N26q, K26q, E26q, F26q_state⟩ := hQ26
  have N26 := Fr.app N20 N26q
  have z26k : n0 ≤ T26.heap.size := Nat.le_trans z20k K26q.1
  have A26_b2 := A20_b2.keep K26q
  have A26_b8 := E20q.keep K26q
  have F26_b8_state := F20q_state.keep K26q (own_nm (Ne.symm ne_b2_b8))
  have P27 : Wy p.tables e below (s₁.setTop (entryFrame m #[(.long ax), (.long bx)] maxLocals)) (T26.setTop (mkF m 44 #[.val (.long ax), .second, .val (.long bx), .second, .val (.long (-7046029254386353131 : Int64)), .second, .val (.ref b2), .val (.ref b8), .val (.long v17), .second, .val (.long v23), .second, .unset, .unset] [(.long (own_mix ((ax + (-7046029254386353131 : Int64)) + (-7046029254386353131 : Int64))))])) := fun t k => P25 t (st26.trans k)
  have P28 : Wy p.tables e below (s₁.setTop (entryFrame m #[(.long ax), (.long bx)] maxLocals)) (T26.setTop (mkF m 46 #[.val (.long ax), .second, .val (.long bx), .second, .val (.long (-7046029254386353131 : Int64)), .second, .val (.ref b2), .val (.ref b8), .val (.long v17), .second, .val (.long v23), .second, .val (.long (own_mix ((ax + (-7046029254386353131 : Int64)) + (-7046029254386353131 : Int64)))), .second] [])) := fun t k => P27 t (by
    show Steps p.tables e below (T26.setTop (mkF m 44 #[.val (.long ax), .second, .val (.long bx), .second, .val (.long (-7046029254386353131 : Int64)), .second, .val (.ref b2), .val (.ref b8), .val (.long v17), .second, .val (.long v23), .second, .unset, .unset] [(.long (own_mix ((ax + (-7046029254386353131 : Int64)) + (-7046029254386353131 : Int64))))])) _
    refine XS.lstore X26.here hx rfl (hb hby at_44) rfl (l' := #[.val (.long ax), .second, .val (.long bx), .second, .val (.long (-7046029254386353131 : Int64)), .second, .val (.ref b2), .val (.ref b8), .val (.long v17), .second, .val (.long v23), .second, .val (.long (own_mix ((ax + (-7046029254386353131 : Int64)) + (-7046029254386353131 : Int64)))), .second]) rfl ?_
    exact k)
  obtain ⟨v29, hv29⟩ : ∃ z : Int64, z = (own_mix ((ax + (-7046029254386353131 : Int64)) + (-7046029254386353131 : Int64))) := ⟨_, rfl⟩
  have P30 : Wy p.tables e below (s₁.setTop (entryFrame m #[(.long ax), (.long bx)] maxLocals)) (T26.setTop (mkF m 46 #[.val (.long ax), .second, .val (.long bx), .second, .val (.long (-7046029254386353131 : Int64)), .second, .val (.ref b2), .val (.ref b8), .val (.long v17), .second, .val (.long v23), .second, .val (.long v29), .second] [])) := fun t k => by subst hv29; exact P28 t k
  have P31 : Wy p.tables e below (s₁.setTop (entryFrame m #[(.long ax), (.long bx)] maxLocals)) (T26.setTop (mkF m 48 #[.val (.long ax), .second, .val (.long bx), .second, .val (.long (-7046029254386353131 : Int64)), .second, .val (.ref b2), .val (.ref b8), .val (.long v17), .second, .val (.long v23), .second, .val (.long v29), .second] [(.long v17)])) := fun t k => P30 t (by
    show Steps p.tables e below (T26.setTop (mkF m 46 #[.val (.long ax), .second, .val (.long bx), .second, .val (.long (-7046029254386353131 : Int64)), .second, .val (.ref b2), .val (.ref b8), .val (.long v17), .second, .val (.long v23), .second, .val (.long v29), .second] [])) _
    refine XS.lload X26.here hx rfl (hb hby at_46) rfl  ?_
    exact k)
  obtain ⟨_, _, ⟨T32, L32, k32, n32⟩, -, X32, ⟨Lc32, hQ32, l32, y32, z32⟩, st32⟩ := Jvm.LawKit.callS X26 hx (y := (⟨"com/example/eagerpair/eagerpair/algorithm/SeededRandomNextLongPinLaw", "unmix", "(J)J"⟩ : MethodName)) hown (mvT hZ (hw _ (List.mem_of_getElem? (i := 20) rfl))) (mvT hZ (hw _ (List.mem_of_getElem? (i := 21) rfl))) (mvT hZ (hw _ (List.mem_of_getElem? (i := 22) rfl))) (mvT hZ (hw _ (List.mem_of_getElem? (i := 23) rfl))) (by decide) (backOf (W := 0) (rm4 l Z a0 hw [] v17 T26.heap n0 z26k ) hZ (hw _ (List.mem_of_getElem? (i := 23) rfl)) (hw _ (List.mem_of_getElem? (i := 22) rfl)) (by decide) (by decide)) (g := (mkF m 48 #[.val (.long ax), .second, .val (.long bx), .second, .val (.long (-7046029254386353131 : Int64)), .second, .val (.ref b2), .val (.ref b8), .val (.long v17), .second, .val (.long v23), .second, .val (.long v29), .second] [(.long v17)])) rfl (by rw [hml]; rfl) (argsL := [(.long v17)]) (rest := []) (lenOf pd_lJrJ rfl) rfl (by show 2 * 0 + _ ≤ _; exact Nat.le_of_eq rfl) (hb hby at_48) (fun _ _ => ⟨rfl, rfl, (by decide : 2 + 0 ≤ _), (by decide : 2 + 0 ≤ _)⟩)
  dsimp only [Pt.U, Pt.locs, Pt.cells, Pt.slots] at X32 l32 y32 z32 st32 hQ32
  subst l32 y32 z32
  obtain ⟨rfl, N32q, e32⟩ := hQ32
  have N32 := Fr.app N26 N32q
  have P33 : Wy p.tables e below (s₁.setTop (entryFrame m #[(.long ax), (.long bx)] maxLocals)) (T32.setTop (mkF m 51 #[.val (.long ax), .second, .val (.long bx), .second, .val (.long (-7046029254386353131 : Int64)), .second, .val (.ref b2), .val (.ref b8), .val (.long v17), .second, .val (.long v23), .second, .val (.long v29), .second] [(.long (own_unmix v17))])) := fun t k => P31 t (st32 _ k)
  have P34 : Wy p.tables e below (s₁.setTop (entryFrame m #[(.long ax), (.long bx)] maxLocals)) (T32.setTop (mkF m 61 #[.val (.long ax), .second, .val (.long bx), .second, .val (.long (-7046029254386353131 : Int64)), .second, .val (.ref b2), .val (.ref b8), .val (.long v17), .second, .val (.long v23), .second, .val (.long v29), .second] [(.long v23)])) := fun t k => P33 t (by
    show Steps p.tables e below (T32.setTop (mkF m 51 #[.val (.long ax), .second, .val (.long bx), .second, .val (.long (-7046029254386353131 : Int64)), .second, .val (.ref b2), .val (.ref b8), .val (.long v17), .second, .val (.long v23), .second, .val (.long v29), .second] [(.long (own_unmix v17))])) _
    refine XS.lloadN X32.here hx rfl (hb hby at_51) rfl  ?_
    show Steps p.tables e below (T32.setTop (mkF m 52 #[.val (.long ax), .second, .val (.long bx), .second, .val (.long (-7046029254386353131 : Int64)), .second, .val (.ref b2), .val (.ref b8), .val (.long v17), .second, .val (.long v23), .second, .val (.long v29), .second] [(.long ax), (.long (own_unmix v17))])) _
    refine XS.lload X32.here hx rfl (hb hby at_52) rfl  ?_
    show Steps p.tables e below (T32.setTop (mkF m 54 #[.val (.long ax), .second, .val (.long bx), .second, .val (.long (-7046029254386353131 : Int64)), .second, .val (.ref b2), .val (.ref b8), .val (.long v17), .second, .val (.long v23), .second, .val (.long v29), .second] [(.long (-7046029254386353131 : Int64)), (.long ax), (.long (own_unmix v17))])) _
    refine XS.ladd X32.here hx rfl (hb hby at_54) rfl ?_
    show Steps p.tables e below (T32.setTop (mkF m 55 #[.val (.long ax), .second, .val (.long bx), .second, .val (.long (-7046029254386353131 : Int64)), .second, .val (.ref b2), .val (.ref b8), .val (.long v17), .second, .val (.long v23), .second, .val (.long v29), .second] [(.long (ax + (-7046029254386353131 : Int64))), (.long (own_unmix v17))])) _
    refine XS.lcmp X32.here hx rfl (hb hby at_55) rfl ?_
    show Steps p.tables e below (T32.setTop (mkF m 56 #[.val (.long ax), .second, .val (.long bx), .second, .val (.long (-7046029254386353131 : Int64)), .second, .val (.ref b2), .val (.ref b8), .val (.long v17), .second, .val (.long v23), .second, .val (.long v29), .second] [(.int (lcmpW (own_unmix v17) (ax + (-7046029254386353131 : Int64))))])) _
    refine XS.ifNo X32.here hx rfl (hb hby at_56) rfl ((if0 _ _).trans (teq (own_eq hv17 : (lcmpW (own_unmix v17) (ax + (-7046029254386353131 : Int64))) = (0 : Int32))).2) ?_
    show Steps p.tables e below (T32.setTop (mkF m 59 #[.val (.long ax), .second, .val (.long bx), .second, .val (.long (-7046029254386353131 : Int64)), .second, .val (.ref b2), .val (.ref b8), .val (.long v17), .second, .val (.long v23), .second, .val (.long v29), .second] [])) _
    refine XS.lload X32.here hx rfl (hb hby at_59) rfl  ?_
    exact k)
  obtain ⟨_, _, ⟨T35, L35, k35, n35⟩, -, X35, ⟨Lc35, hQ35, l35, y35, z35⟩, st35⟩ := Jvm.LawKit.callS X32 hx (y := (⟨"com/example/eagerpair/eagerpair/algorithm/SeededRandomNextLongPinLaw", "unmix", "(J)J"⟩ : MethodName)) hown (mvT hZ (hw _ (List.mem_of_getElem? (i := 20) rfl))) (mvT hZ (hw _ (List.mem_of_getElem? (i := 21) rfl))) (mvT hZ (hw _ (List.mem_of_getElem? (i := 22) rfl))) (mvT hZ (hw _ (List.mem_of_getElem? (i := 23) rfl))) (by decide) (backOf (W := 0) (rm4 l Z a0 hw [] v23 T26.heap n0 z26k ) hZ (hw _ (List.mem_of_getElem? (i := 23) rfl)) (hw _ (List.mem_of_getElem? (i := 22) rfl)) (by decide) (by decide)) (g := (mkF m 61 #[.val (.long ax), .second, .val (.long bx), .second, .val (.long (-7046029254386353131 : Int64)), .second, .val (.ref b2), .val (.ref b8), .val (.long v17), .second, .val (.long v23), .second, .val (.long v29), .second] [(.long v23)])) rfl (by rw [hml]; rfl) (argsL := [(.long v23)]) (rest := []) (lenOf pd_lJrJ rfl) rfl (by show 2 * 0 + _ ≤ _; exact Nat.le_of_eq rfl) (hb hby at_61) (fun _ _ => ⟨rfl, e32, (by decide : 2 + 0 ≤ _), (by decide : 2 + 0 ≤ _)⟩)
  dsimp only [Pt.U, Pt.locs, Pt.cells, Pt.slots] at X35 l35 y35 z35 st35 hQ35
  subst l35 y35 z35
  obtain ⟨rfl, N35q, e35⟩ := hQ35
  have N35 := Fr.app N32 N35q
  have P36 : Wy p.tables e below (s₁.setTop (entryFrame m #[(.long ax), (.long bx)] maxLocals)) (T35.setTop (mkF m 64 #[.val (.long ax), .second, .val (.long bx), .second, .val (.long (-7046029254386353131 : Int64)), .second, .val (.ref b2), .val (.ref b8), .val (.long v17), .second, .val (.long v23), .second, .val (.long v29), .second] [(.long (own_unmix v23))])) := fun t k => P34 t (st35 _ k)
  have P37 : Wy p.tables e below (s₁.setTop (entryFrame m #[(.long ax), (.long bx)] maxLocals)) (T35.setTop (mkF m 74 #[.val (.long ax), .second, .val (.long bx), .second, .val (.long (-7046029254386353131 : Int64)), .second, .val (.ref b2), .val (.ref b8), .val (.long v17), .second, .val (.long v23), .second, .val (.long v29), .second] [(.long v29)])) := fun t k => P36 t (by
    show Steps p.tables e below (T35.setTop (mkF m 64 #[.val (.long ax), .second, .val (.long bx), .second, .val (.long (-7046029254386353131 : Int64)), .second, .val (.ref b2), .val (.ref b8), .val (.long v17), .second, .val (.long v23), .second, .val (.long v29), .second] [(.long (own_unmix v23))])) _
    refine XS.lloadN X35.here hx rfl (hb hby at_64) rfl  ?_
    show Steps p.tables e below (T35.setTop (mkF m 65 #[.val (.long ax), .second, .val (.long bx), .second, .val (.long (-7046029254386353131 : Int64)), .second, .val (.ref b2), .val (.ref b8), .val (.long v17), .second, .val (.long v23), .second, .val (.long v29), .second] [(.long bx), (.long (own_unmix v23))])) _
    refine XS.lload X35.here hx rfl (hb hby at_65) rfl  ?_
    show Steps p.tables e below (T35.setTop (mkF m 67 #[.val (.long ax), .second, .val (.long bx), .second, .val (.long (-7046029254386353131 : Int64)), .second, .val (.ref b2), .val (.ref b8), .val (.long v17), .second, .val (.long v23), .second, .val (.long v29), .second] [(.long (-7046029254386353131 : Int64)), (.long bx), (.long (own_unmix v23))])) _
    refine XS.ladd X35.here hx rfl (hb hby at_67) rfl ?_
    show Steps p.tables e below (T35.setTop (mkF m 68 #[.val (.long ax), .second, .val (.long bx), .second, .val (.long (-7046029254386353131 : Int64)), .second, .val (.ref b2), .val (.ref b8), .val (.long v17), .second, .val (.long v23), .second, .val (.long v29), .second] [(.long (bx + (-7046029254386353131 : Int64))), (.long (own_unmix v23))])) _
    refine XS.lcmp X35.here hx rfl (hb hby at_68) rfl ?_
    show Steps p.tables e below (T35.setTop (mkF m 69 #[.val (.long ax), .second, .val (.long bx), .second, .val (.long (-7046029254386353131 : Int64)), .second, .val (.ref b2), .val (.ref b8), .val (.long v17), .second, .val (.long v23), .second, .val (.long v29), .second] [(.int (lcmpW (own_unmix v23) (bx + (-7046029254386353131 : Int64))))])) _
    refine XS.ifNo X35.here hx rfl (hb hby at_69) rfl ((if0 _ _).trans (teq (own_eq hv23 : (lcmpW (own_unmix v23) (bx + (-7046029254386353131 : Int64))) = (0 : Int32))).2) ?_
    show Steps p.tables e below (T35.setTop (mkF m 72 #[.val (.long ax), .second, .val (.long bx), .second, .val (.long (-7046029254386353131 : Int64)), .second, .val (.ref b2), .val (.ref b8), .val (.long v17), .second, .val (.long v23), .second, .val (.long v29), .second] [])) _
    refine XS.lload X35.here hx rfl (hb hby at_72) rfl  ?_
    exact k)
  obtain ⟨_, _, ⟨T38, L38, k38, n38⟩, -, X38, ⟨Lc38, hQ38, l38, y38, z38⟩, st38⟩ := Jvm.LawKit.callS X35 hx (y := (⟨"com/example/eagerpair/eagerpair/algorithm/SeededRandomNextLongPinLaw", "unmix", "(J)J"⟩ : MethodName)) hown (mvT hZ (hw _ (List.mem_of_getElem? (i := 20) rfl))) (mvT hZ (hw _ (List.mem_of_getElem? (i := 21) rfl))) (mvT hZ (hw _ (List.mem_of_getElem? (i := 22) rfl))) (mvT hZ (hw _ (List.mem_of_getElem? (i := 23) rfl))) (by decide) (backOf (W := 0) (rm4 l Z a0 hw [] v29 T26.heap n0 z26k ) hZ (hw _ (List.mem_of_getElem? (i := 23) rfl)) (hw _ (List.mem_of_getElem? (i := 22) rfl)) (by decide) (by decide)) (g := (mkF m 74 #[.val (.long ax), .second, .val (.long bx), .second, .val (.long (-7046029254386353131 : Int64)), .second, .val (.ref b2), .val (.ref b8), .val (.long v17), .second, .val (.long v23), .second, .val (.long v29), .second] [(.long v29)])) rfl (by rw [hml]; rfl) (argsL := [(.long v29)]) (rest := []) (lenOf pd_lJrJ rfl) rfl (by show 2 * 0 + _ ≤ _; exact Nat.le_of_eq rfl) (hb hby at_74) (fun _ _ => ⟨rfl, e35, (by decide : 2 + 0 ≤ _), (by decide : 2 + 0 ≤ _)⟩)
  dsimp only [Pt.U, Pt.locs, Pt.cells, Pt.slots] at X38 l38 y38 z38 st38 hQ38
  subst l38 y38 z38
  obtain ⟨rfl, N38q, e38⟩ := hQ38
  have N38 := Fr.app N35 N38q
  have P39 : Wy p.tables e below (s₁.setTop (entryFrame m #[(.long ax), (.long bx)] maxLocals)) (T38.setTop (mkF m 77 #[.val (.long ax), .second, .val (.long bx), .second, .val (.long (-7046029254386353131 : Int64)), .second, .val (.ref b2), .val (.ref b8), .val (.long v17), .second, .val (.long v23), .second, .val (.long v29), .second] [(.long (own_unmix v29))])) := fun t k => P37 t (st38 _ k)
  have P40 : Wy p.tables e below (s₁.setTop (entryFrame m #[(.long ax), (.long bx)] maxLocals)) (T38.setTop (mkF m 94 #[.val (.long ax), .second, .val (.long bx), .second, .val (.long (-7046029254386353131 : Int64)), .second, .val (.ref b2), .val (.ref b8), .val (.long v17), .second, .val (.long v23), .second, .val (.long v29), .second] [(.int (1 : Int32))])) := fun t k => P39 t (by
    show Steps p.tables e below (T38.setTop (mkF m 77 #[.val (.long ax), .second, .val (.long bx), .second, .val (.long (-7046029254386353131 : Int64)), .second, .val (.ref b2), .val (.ref b8), .val (.long v17), .second, .val (.long v23), .second, .val (.long v29), .second] [(.long (own_unmix v29))])) _
    refine XS.lloadN X38.here hx rfl (hb hby at_77) rfl  ?_
    show Steps p.tables e below (T38.setTop (mkF m 78 #[.val (.long ax), .second, .val (.long bx), .second, .val (.long (-7046029254386353131 : Int64)), .second, .val (.ref b2), .val (.ref b8), .val (.long v17), .second, .val (.long v23), .second, .val (.long v29), .second] [(.long ax), (.long (own_unmix v29))])) _
    refine X38.ldc2Long hx hown (mvT hZ (hw _ (List.mem_of_getElem? (i := 26) rfl))) (g := (mkF m 78 #[.val (.long ax), .second, .val (.long bx), .second, .val (.long (-7046029254386353131 : Int64)), .second, .val (.ref b2), .val (.ref b8), .val (.long v17), .second, .val (.long v23), .second, .val (.long v29), .second] [(.long ax), (.long (own_unmix v29))])) rfl (hb hby at_78) _ ?_
    show Steps p.tables e below (T38.setTop (mkF m 81 #[.val (.long ax), .second, .val (.long bx), .second, .val (.long (-7046029254386353131 : Int64)), .second, .val (.ref b2), .val (.ref b8), .val (.long v17), .second, .val (.long v23), .second, .val (.long v29), .second] [(.long (2 : Int64)), (.long ax), (.long (own_unmix v29))])) _
    refine XS.lload X38.here hx rfl (hb hby at_81) rfl  ?_
    show Steps p.tables e below (T38.setTop (mkF m 83 #[.val (.long ax), .second, .val (.long bx), .second, .val (.long (-7046029254386353131 : Int64)), .second, .val (.ref b2), .val (.ref b8), .val (.long v17), .second, .val (.long v23), .second, .val (.long v29), .second] [(.long (-7046029254386353131 : Int64)), (.long (2 : Int64)), (.long ax), (.long (own_unmix v29))])) _
    refine XS.lmul X38.here hx rfl (hb hby at_83) rfl ?_
    show Steps p.tables e below (T38.setTop (mkF m 84 #[.val (.long ax), .second, .val (.long bx), .second, .val (.long (-7046029254386353131 : Int64)), .second, .val (.ref b2), .val (.ref b8), .val (.long v17), .second, .val (.long v23), .second, .val (.long v29), .second] [(.long ((2 : Int64) * (-7046029254386353131 : Int64))), (.long ax), (.long (own_unmix v29))])) _
    refine XS.ladd X38.here hx rfl (hb hby at_84) rfl ?_
    show Steps p.tables e below (T38.setTop (mkF m 85 #[.val (.long ax), .second, .val (.long bx), .second, .val (.long (-7046029254386353131 : Int64)), .second, .val (.ref b2), .val (.ref b8), .val (.long v17), .second, .val (.long v23), .second, .val (.long v29), .second] [(.long (ax + ((2 : Int64) * (-7046029254386353131 : Int64)))), (.long (own_unmix v29))])) _
    refine XS.lcmp X38.here hx rfl (hb hby at_85) rfl ?_
    show Steps p.tables e below (T38.setTop (mkF m 86 #[.val (.long ax), .second, .val (.long bx), .second, .val (.long (-7046029254386353131 : Int64)), .second, .val (.ref b2), .val (.ref b8), .val (.long v17), .second, .val (.long v23), .second, .val (.long v29), .second] [(.int (lcmpW (own_unmix v29) (ax + ((2 : Int64) * (-7046029254386353131 : Int64)))))])) _
    refine XS.ifNo X38.here hx rfl (hb hby at_86) rfl ((if0 _ _).trans (teq (own_eq2 hv29 : (lcmpW (own_unmix v29) (ax + ((2 : Int64) * (-7046029254386353131 : Int64)))) = (0 : Int32))).2) ?_
    show Steps p.tables e below (T38.setTop (mkF m 89 #[.val (.long ax), .second, .val (.long bx), .second, .val (.long (-7046029254386353131 : Int64)), .second, .val (.ref b2), .val (.ref b8), .val (.long v17), .second, .val (.long v23), .second, .val (.long v29), .second] [])) _
    refine XS.iconst X38.here hx rfl (hb hby at_89) ?_
    show Steps p.tables e below (T38.setTop (mkF m 90 #[.val (.long ax), .second, .val (.long bx), .second, .val (.long (-7046029254386353131 : Int64)), .second, .val (.ref b2), .val (.ref b8), .val (.long v17), .second, .val (.long v23), .second, .val (.long v29), .second] [(.int (1 : Int32))])) _
    refine XS.goto X38.here hx rfl (pc0 := 90) (pc' := 94) rfl (hb hby at_90) (by decide) (by decide) ?_
    exact k)
  obtain ⟨fs, hr, hrun, hended, hW, hsame⟩ := X38.leave (v := some (.int (nar .boolean (1 : Int32)))) (fun h => by rw [Bd.returns] at h; cases h)
  refine ⟨_, _, P40 _ ?_, hrun, hended, _, _, rfl, ?_, ⟨_, rfl⟩, hW, hsame.mono (by decide) (by decide)⟩
  · show Steps p.tables e below (T38.setTop (mkF m 94 #[.val (.long ax), .second, .val (.long bx), .second, .val (.long (-7046029254386353131 : Int64)), .second, .val (.ref b2), .val (.ref b8), .val (.long v17), .second, .val (.long v23), .second, .val (.long v29), .second] [(.int (1 : Int32))])) _
    exact retN X38 hx (t := .boolean) Bd.returns (by simp) (hb hby at_94) hr
  · show Q0 Z ax bx h0 n0 _ T38.heap _
    rw [e38]
    exact ⟨rfl, N38⟩
set_option maxRecDepth 65536 in
set_option maxHeartbeats 40000000 in
theorem comes_1 {Post : Tables → Env → Array Value → State → Outcome → State → Prop} (hpost : ∀ tb e args s v u, (limb_1_1.after args s (.returned v) u = true ∧ limb_1_2.after args s (.returned v) u = true ∧ True) → FrameEnd s (.returned v) u (Jvm.fieldLocs frame_1_writes args s ++ Jvm.arrayLocs frame_1_arrays args s ++ Jvm.staticLocs frame_1_statics s) 16 128 → Post tb e args s (.returned v) u) :
    ArmFor flags0 classFile x code maxLocals ret World_1 tables_1 room_1 Calls_1 rest_1 Pre_1 Post := by
  intro l hfl _ _ p e ha hc hk s m args below hf hA hF happ hP
  obtain ⟨hcalls, hrest, hpre⟩ := hP
  obtain ⟨-, -, -, hnamed, -, -, -, hat⟩ := (Spec.applies_iff hf).mp happ
  obtain ⟨hg, hn⟩ := and_e (Cond.before_iff.mp (show (Jvm.Cond.and given_1 narrow_1).before args s = true from hpre))
  obtain ⟨g1, g2⟩ := and_e hg
  obtain ⟨g3, g4⟩ := and_e g2
  obtain ⟨w0, w1, rfl⟩ : ∃ w0 w1 : Value, args = #[w0, w1] := by
    have hs : args.size = 2 := by simpa [Cond.value, given_1] using g1
    obtain ⟨L⟩ := args
    match L, hs with
    | [w0, w1], _ => exact ⟨w0, w1, rfl⟩
  have hw := fun d (hd : d ∈ tables_1) => atoms_spec (ws := Jvm.Cond.code x code maxLocals ret :: tables_1) hat d (List.mem_cons_of_mem _ hd)
  have hfit : Fit s := fun {y c} hc i hi => by
    obtain ⟨ha, rfl⟩ := Array.getElem?_eq_some_iff.mp hc
    have q := List.all_eq_true.mp ((Array.all_eq_true_iff_forall_mem.mp hF) _ (Array.getElem_mem ha)) i (List.mem_range.mpr hi)
    simpa [Array.getElem?_eq_getElem hi] using q
  obtain ⟨i0, ei0⟩ := isL_v g3
  obtain rfl : w0 = (.long i0) := Option.some.inj ei0
  obtain ⟨i1, ei1⟩ := isL_v g4
  obtain rfl : w1 = (.long i1) := Option.some.inj ei1
  obtain ⟨n, o, h1, h2, h3, _, L, rfl, ⟨rfl, N⟩, hq⟩ := rm0 l s _ hw tables_1 i0 i1 s.heap s.heap.size (Nat.le_refl _)  p e ha hc hk s m _ below hf ((Spec.applies_iff_loose hf).mp happ).1 ⟨rfl, State.Warmed39.refl s, rfl⟩ trivial
  refine ⟨n, _, h1, h2, h3, hpost _ _ _ _ _ _ ⟨Cond.after_iff.mpr rfl, Cond.after_iff.mpr (eq_i res_at (Term.int_eval (1)) rfl), trivial⟩ ⟨hq.1, hq.2.1, (hq.2.2.sift fun y hy => Or.inr (N y hy)).mono (by decide) (by decide)⟩⟩
theorem main_1_1 : Claimed_1_1 := comes_1 fun _ _ _ _ _ _ h hF => ⟨h.1, hF⟩
theorem main_1_2 : Claimed_1_2 := comes_1 fun _ _ _ _ _ _ h hF => ⟨h.2.1, hF⟩
end Jvm.Pilot.@@N@@
namespace Jvm.Pilot.@@N@@
open Jvm Jvm.ClassFile Sem Op Lib Jvm.Free Jvm.Stand Jvm.Pilot.@@N@@.Jvm.D
/-! MADE BY PROGRAM (witnessworld.py) out of the Statement's table words and the real class files: 9 classes; the members and pool entries that the words name. The judged class is class 1, her method 1. -/
namespace start1
open Jvm.ClassFile
def u (s : String) : CpInfo := .utf8 (stringToUtf16 s)
/-- a pool by its gaps: so many unusable entries, then the entry; so many at the end -/
def gap : Nat → List CpInfo → List CpInfo
  | 0, r => r
  | n + 1, r => .unusable :: gap n r
def poolList (es : List (Nat × CpInfo)) (last : Nat) : List CpInfo := es.foldr (fun e r => gap e.1 (e.2 :: r)) (gap last [])
def pool (es : List (Nat × CpInfo)) (last : Nat) : Array CpInfo := ⟨poolList es last⟩
def fileOf (pool : Array CpInfo) (this : Nat) (attrs : Array Attribute := #[]) (ms : Array MethodInfo := #[]) (fl : Nat := 33) (sup : Nat := 0) (ifs : Array Nat := #[]) (fds : Array FieldInfo := #[]) : ClassFile where
  minorVersion := 0
  majorVersion := 65
  constantPool := pool
  accessFlags := fl
  thisClass := this
  superClass := sup
  interfaces := ifs
  fields := fds
  methods := ms
  attributes := attrs
def plain (name : String) (sup : Option ClassId) : Class where
  name := name
  kind := .ordinary
  loader := none
  accessFlags := 33
  super := sup
  interfaces := #[]
  cf := none
  fields := #[]
  methods := #[]
  instanceTypes := #[]
  staticTypes := #[]
  resolved := #[]
  callSites := []
  init := .initialized
  statics := none
  mirror := none

def pool0 : Array CpInfo := pool [(5, u "<init>"), (0, u "()V"), (1, .class_ 10), (1, u "java/lang/Object")] 113

def k0c0 : Code := { maxStack := 0, maxLocals := 1, code := object_method_1_code, exceptionTable := #[], attributes := #[] }
def k0m0 : Method := { name := "<init>", desc := "()V", sig := { parameters := [], returnType := none }, accessFlags := 1, code := some k0c0 }
/-- java/lang/Object -/
def k0 : Class := { plain "java/lang/Object" none with
  accessFlags := 33
  interfaces := #[]
  cf := some (fileOf pool0 8 #[] #[{ accessFlags := 1, nameIndex := 5, descriptorIndex := 6, attributes := #[] }] 33 0 #[] #[])
  fields := #[]
  methods := #[k0m0]
  instanceTypes := #[]
  staticTypes := #[]
  resolved := Array.replicate 124 none
  statics := none }

def pool1 : Array CpInfo := pool [(2, .class_ 4), (1, u "java/lang/Object"), (0, u "<init>"), (0, u "()V"), (0, .long 11400714819323198485), (1, .class_ 10), (0, u "com/example/eagerpair/eagerpair/algorithm/SeededRandom"), (0, .methodref 9 12), (0, .nameAndType 5 13), (0, u "(J)V"), (0, .methodref 9 15), (0, .nameAndType 16 17), (0, u "nextLong"), (0, u "()J"), (0, .methodref 19 20), (0, .class_ 21), (0, .nameAndType 22 23), (0, u "com/example/eagerpair/eagerpair/algorithm/SeededRandomNextLongPinLaw"), (0, u "unmix"), (0, u "(J)J"), (0, .long 2), (1, .long 3573116690164977347), (1, .long 10871156337175269513), (3, u "law"), (0, u "(JJ)Z")] 3

def k1m0 : Method := { name := "<init>", desc := "()V", sig := { parameters := [], returnType := none }, accessFlags := 1, code := none }
def k1c1 : Code := { maxStack := 8, maxLocals := 14, code := code, exceptionTable := #[], attributes := #[] }
def k1m1 : Method := { name := "law", desc := "(JJ)Z", sig := { parameters := [.long, .long], returnType := some .boolean }, accessFlags := 9, code := some k1c1 }
def k1c2 : Code := { maxStack := 5, maxLocals := 2, code := method_3_code, exceptionTable := #[], attributes := #[] }
def k1m2 : Method := { name := "unmix", desc := "(J)J", sig := { parameters := [.long], returnType := some .long }, accessFlags := 10, code := some k1c2 }
/-- com/example/eagerpair/eagerpair/algorithm/SeededRandomNextLongPinLaw -/
def k1 : Class := { plain "com/example/eagerpair/eagerpair/algorithm/SeededRandomNextLongPinLaw" (some 0) with
  accessFlags := 49
  interfaces := #[]
  cf := some (fileOf pool1 19 #[] #[{ accessFlags := 1, nameIndex := 5, descriptorIndex := 6, attributes := #[] }, { accessFlags := 9, nameIndex := 32, descriptorIndex := 33, attributes := #[] }, { accessFlags := 10, nameIndex := 22, descriptorIndex := 23, attributes := #[] }] 49 2 #[] #[])
  fields := #[]
  methods := #[k1m0, k1m1, k1m2]
  instanceTypes := #[]
  staticTypes := #[]
  resolved := Array.replicate 37 none
  statics := none }

def pool2 : Array CpInfo := pool [(1, .methodref 2 3), (0, .class_ 4), (0, .nameAndType 5 6), (0, u "java/lang/Object"), (0, u "<init>"), (0, u "()V"), (0, .fieldref 8 9), (0, .class_ 10), (0, .nameAndType 11 12), (0, u "com/example/eagerpair/eagerpair/algorithm/SeededRandom"), (0, u "state"), (0, u "J"), (9, .long 11400714819323198485), (3, u "(J)V"), (2, u "nextLong"), (0, u "()J"), (0, .long 13787848793156543929), (1, .long 10723151780598845931), (14, u "GOLDEN_GAMMA"), (1, u "LOW_32_BITS")] 30

def k2c0 : Code := { maxStack := 3, maxLocals := 3, code := prog_18_method_1_code, exceptionTable := #[], attributes := #[] }
def k2m0 : Method := { name := "<init>", desc := "(J)V", sig := { parameters := [.long], returnType := none }, accessFlags := 1, code := some k2c0 }
def k2c1 : Code := { maxStack := 5, maxLocals := 3, code := prog_18_method_3_code, exceptionTable := #[], attributes := #[] }
def k2m1 : Method := { name := "nextLong", desc := "()J", sig := { parameters := [], returnType := some .long }, accessFlags := 1, code := some k2c1 }
/-- com/example/eagerpair/eagerpair/algorithm/SeededRandom -/
def k2 : Class := { plain "com/example/eagerpair/eagerpair/algorithm/SeededRandom" (some 0) with
  accessFlags := 49
  interfaces := #[]
  cf := some (fileOf pool2 8 #[] #[{ accessFlags := 1, nameIndex := 5, descriptorIndex := 26, attributes := #[] }, { accessFlags := 1, nameIndex := 29, descriptorIndex := 30, attributes := #[] }] 49 2 #[] #[{ accessFlags := 26, nameIndex := 48, descriptorIndex := 12, attributes := #[] }, { accessFlags := 26, nameIndex := 50, descriptorIndex := 12, attributes := #[] }, { accessFlags := 2, nameIndex := 11, descriptorIndex := 12, attributes := #[] }])
  fields := #[{ name := "GOLDEN_GAMMA", type := .long, accessFlags := 26, slot := 0, constantValue := 0 }, { name := "LOW_32_BITS", type := .long, accessFlags := 26, slot := 1, constantValue := 0 }, { name := "state", type := .long, accessFlags := 2, slot := 0, constantValue := 0 }]
  methods := #[k2m0, k2m1]
  instanceTypes := #[.long]
  staticTypes := #[.long, .long]
  resolved := Array.replicate 81 none
  statics := none }

def pool3 : Array CpInfo := pool [(1, u "java/lang/Cloneable"), (0, .class_ 1), (0, u "java/lang/Object"), (0, .class_ 3)] 3

/-- java/lang/Cloneable -/
def k3 : Class := { plain "java/lang/Cloneable" (some 0) with
  accessFlags := 1537
  interfaces := #[]
  cf := some (fileOf pool3 2 #[] #[] 1537 4 #[] #[])
  fields := #[]
  methods := #[]
  instanceTypes := #[]
  staticTypes := #[]
  resolved := Array.replicate 8 none
  statics := none }

def pool4 : Array CpInfo := pool [(1, u "java/io/Serializable"), (0, .class_ 1), (0, u "java/lang/Object"), (0, .class_ 3)] 3

/-- java/io/Serializable -/
def k4 : Class := { plain "java/io/Serializable" (some 0) with
  accessFlags := 1537
  interfaces := #[]
  cf := some (fileOf pool4 2 #[] #[] 1537 4 #[] #[])
  fields := #[]
  methods := #[]
  instanceTypes := #[]
  staticTypes := #[]
  resolved := Array.replicate 8 none
  statics := none }

/-- the primitive byte -/
def k5 : Class := { plain "byte" none with kind := .primitive 'B', accessFlags := 0x411 }
/-- [B -/
def k6 : Class := { plain "[B" (some 0) with kind := .array 5 .byte, interfaces := #[3, 4], accessFlags := 1041 }

/-- the primitive int -/
def k7 : Class := { plain "int" none with kind := .primitive 'I', accessFlags := 0x411 }
/-- [I -/
def k8 : Class := { plain "[I" (some 0) with kind := .array 7 .int, interfaces := #[3, 4], accessFlags := 1041 }

def heap : Heap := #[]
def classes : Array Class := #[k0, k1, k2, k3, k4, k5, k6, k7, k8]
def interned : List (Array UInt16 × Addr) := []
def slotsUsed : Nat := 0
def theMethod : MethodId := ⟨1, 1⟩
def args0 : Array Value := #[.long 5, .long 7]
def aboutOver (below : List Frame) : State where
  vm := { classes := classes, interned := interned.toArray }
  heap := heap
  slotsUsed := slotsUsed
  threads := #[{ frames := .invoking theMethod args0 :: below }]
def below0 : List Frame := [.native { method := ⟨0, 0⟩, args := #[] }]
def about1 : State := aboutOver below0
def p0 : Program := .bare "" "" ""
def e0 : Env := launch0.env 0 0 0
theorem w_frames : about1.frames = Frame.invoking theMethod args0 :: below0 := rfl
set_option maxRecDepth 65536 in
theorem w_args : argsFit about1.vm theMethod args0 = true := by decide +kernel
set_option maxRecDepth 65536 in
theorem w_heap : heapFits about1 = true := by decide +kernel
set_option maxRecDepth 65536 in
theorem w_runnable : about1.curStatus? = some .runnable := by decide +kernel
set_option maxRecDepth 65536 in
theorem w_alone : about1.alone = true := by decide +kernel
set_option maxRecDepth 65536 in
theorem w_named : about1.methodNamed? x = some theMethod := by decide +kernel
set_option maxRecDepth 65536 in
theorem w_hears : about1.hears theMethod below0 = true := by decide +kernel
set_option maxRecDepth 65536 in
theorem w_ripe : about1.ripe theMethod args0 below0 = true := by decide +kernel
theorem w_running : about1.status = .running := rfl
set_option maxRecDepth 65536 in
theorem w_room : about1.hasRoom e0.platform room_1 = true :=
  launch0.hasRoom_least _ room_1 (by decide +kernel) (by decide +kernel) (by decide +kernel) (by decide +kernel) (by decide +kernel) (by decide +kernel)
theorem allAtoms_all (ts : List Jvm.Cond) (a : Array Jvm.Value) (st : Jvm.State) : (allAtoms ts).before a st = ts.all (fun c => c.before a st) := by
  induction ts with
  | nil => rfl
  | cons c t ih =>
    show (Jvm.Cond.and c (allAtoms t)).before a st = _
    rw [Jvm.Cond.before_and, ih, List.all_cons]
def words1 : List Jvm.Cond := Jvm.Cond.code x code maxLocals ret :: tables_1
/-- a 'code' word, met by the world's own term for the bytes: nothing is compared byte by byte -/
theorem code_word {y : MethodName} {bytes : ByteArray} {mx : Nat} {rt : Option FieldType} {a : Array Value} {s : State} {m : MethodId} {meth : Method} {c : Code} (h1 : s.methodNamed? y = some m) (h2 : s.vm.method? m = some meth) (h3 : meth.code = some c) (h4 : c.code = bytes)
    (h5 : (c.maxLocals == mx && c.exceptionTable.isEmpty && decide (c.maxStack ≤ mostOperands) && decide (meth.sig.returnType = rt) && !meth.locks && decide (parseMethodDescriptor y.desc = some meth.sig)) = true) : (Jvm.Cond.code y bytes mx rt).before a s = true := by
  simp only [Bool.and_eq_true, beq_iff_eq, Bool.not_eq_true', decide_eq_true_eq] at h5
  obtain ⟨⟨⟨⟨⟨g1, g2⟩, g3⟩, g4⟩, g5⟩, g6⟩ := h5
  simp [Cond.before, Cond.holds, Cond.value, h1, h2, h3, h4, g1, g2, g3, g4, g5, g6]
def isCode : Jvm.Cond → Bool
  | .code _ _ _ _ => true
  | _ => false
theorem all_split {L : List Jvm.Cond} {P : Jvm.Cond → Bool} (h1 : L.all (fun c => isCode c || P c) = true) (h2 : ∀ c ∈ L.filter isCode, P c = true) : L.all P = true := by
  refine List.all_eq_true.mpr fun c hc => ?_
  have h := List.all_eq_true.mp h1 c hc
  rcases Bool.eq_false_or_eq_true (isCode c) with hi | hi
  · exact h2 c (List.mem_filter.mpr ⟨hc, hi⟩)
  · simpa [hi] using h
set_option maxRecDepth 65536 in
theorem w_c0 : (Jvm.Cond.code x code maxLocals ret).before args0 about1 = true := code_word (m := ⟨1, 1⟩) (meth := k1m1) (c := k1c1) (by decide +kernel) rfl rfl rfl (by decide +kernel)
set_option maxRecDepth 65536 in
theorem w_c1 : (Jvm.Cond.code ({ cls := "com/example/eagerpair/eagerpair/algorithm/SeededRandom", name := "<init>", desc := "(J)V" } : Jvm.MethodName) prog_18_method_1_code (3 : Nat) (Option.none : Option Jvm.ClassFile.FieldType)).before args0 about1 = true := code_word (m := ⟨2, 0⟩) (meth := k2m0) (c := k2c0) (by decide +kernel) rfl rfl rfl (by decide +kernel)
set_option maxRecDepth 65536 in
theorem w_c2 : (Jvm.Cond.code ({ cls := "java/lang/Object", name := "<init>", desc := "()V" } : Jvm.MethodName) object_method_1_code (1 : Nat) (Option.none : Option Jvm.ClassFile.FieldType)).before args0 about1 = true := code_word (m := ⟨0, 0⟩) (meth := k0m0) (c := k0c0) (by decide +kernel) rfl rfl rfl (by decide +kernel)
set_option maxRecDepth 65536 in
theorem w_c3 : (Jvm.Cond.code ({ cls := "com/example/eagerpair/eagerpair/algorithm/SeededRandom", name := "nextLong", desc := "()J" } : Jvm.MethodName) prog_18_method_3_code (3 : Nat) (Option.some Jvm.ClassFile.FieldType.long)).before args0 about1 = true := code_word (m := ⟨2, 1⟩) (meth := k2m1) (c := k2c1) (by decide +kernel) rfl rfl rfl (by decide +kernel)
set_option maxRecDepth 65536 in
theorem w_c4 : (Jvm.Cond.code ({ cls := "com/example/eagerpair/eagerpair/algorithm/SeededRandomNextLongPinLaw", name := "unmix", desc := "(J)J" } : Jvm.MethodName) method_3_code (2 : Nat) (Option.some Jvm.ClassFile.FieldType.long)).before args0 about1 = true := code_word (m := ⟨1, 2⟩) (meth := k1m2) (c := k1c2) (by decide +kernel) rfl rfl rfl (by decide +kernel)
def codes1 : List Jvm.Cond := [Jvm.Cond.code x code maxLocals ret, Jvm.Cond.code ({ cls := "com/example/eagerpair/eagerpair/algorithm/SeededRandom", name := "<init>", desc := "(J)V" } : Jvm.MethodName) prog_18_method_1_code (3 : Nat) (Option.none : Option Jvm.ClassFile.FieldType), Jvm.Cond.code ({ cls := "java/lang/Object", name := "<init>", desc := "()V" } : Jvm.MethodName) object_method_1_code (1 : Nat) (Option.none : Option Jvm.ClassFile.FieldType), Jvm.Cond.code ({ cls := "com/example/eagerpair/eagerpair/algorithm/SeededRandom", name := "nextLong", desc := "()J" } : Jvm.MethodName) prog_18_method_3_code (3 : Nat) (Option.some Jvm.ClassFile.FieldType.long), Jvm.Cond.code ({ cls := "com/example/eagerpair/eagerpair/algorithm/SeededRandomNextLongPinLaw", name := "unmix", desc := "(J)J" } : Jvm.MethodName) method_3_code (2 : Nat) (Option.some Jvm.ClassFile.FieldType.long)]
set_option maxRecDepth 65536 in
theorem codes_eq : words1.filter isCode = codes1 := rfl
theorem w_codes : ∀ c ∈ words1.filter isCode, c.before args0 about1 = true := by
  rw [codes_eq]
  intro c hc
  simp only [codes1, List.mem_cons, List.not_mem_nil, or_false] at hc
  rcases hc with rfl | rfl | rfl | rfl | rfl
  · exact w_c0
  · exact w_c1
  · exact w_c2
  · exact w_c3
  · exact w_c4
set_option maxRecDepth 65536 in
theorem w_t1 : (words1.take 24).all (fun c => isCode c || c.before args0 about1) = true := by decide +kernel
set_option maxRecDepth 65536 in
theorem w_t2 : (words1.drop 24).all (fun c => isCode c || c.before args0 about1) = true := by decide +kernel
theorem w_tables : (allAtoms (Jvm.Cond.code x code maxLocals ret :: tables_1)).before args0 about1 = true := by
  rw [allAtoms_all]
  show words1.all (fun c => c.before args0 about1) = true
  refine all_split ?_ w_codes
  rw [← List.take_append_drop 24 words1, List.all_append, w_t1, w_t2]
  rfl
set_option maxRecDepth 65536 in
theorem w_case : (Jvm.Cond.and given_1 narrow_1).before args0 about1 = true := by decide +kernel
theorem w_applies : (headSpec (Jvm.Cond.code x code maxLocals ret :: tables_1) room_1).applies x e0.platform about1 = true :=
  (Spec.applies_iff w_frames).mpr ⟨w_running, w_runnable, w_alone, w_named, w_hears, w_ripe, w_room, w_tables⟩
theorem atStart : AtStart classFile x code maxLocals ret World_1 tables_1 room_1 Calls_1 rest_1 Pre_1 launch0 p0 e0 about1 theMethod args0 below0 :=
  ⟨lists_1, trivial, launch0.admits_env _ _ _, launch0.least_env, fairChoices_fair.cas, fairChoices_fair.clock, w_frames, w_args, w_heap, w_applies, trivial, trivial, w_case⟩
end start1
theorem witness_1 : WitnessClaimed_1 := ⟨start1.p0, start1.e0, start1.about1, start1.theMethod, start1.args0, start1.below0, start1.atStart⟩
end Jvm.Pilot.@@N@@
