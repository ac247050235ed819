import JvmDerived
import JvmDerived.Pilot.@@N@@Statement
import JvmDerived.Pilot.@@N@@Code
set_option linter.unusedVariables false
set_option linter.unusedSimpArgs false

namespace Jvm.RoadKit
open Sem ClassFile Op Lib Jvm.Stand Jvm.Free Jvm.LawKit
section New
variable {p : Program} {l : Launch} {e : Env} {R : Room} {s : State} {m : MethodId} {args : Array Value} {below : List Frame} {meth : Method} {c : Code} {T : State} {locs : List Loc} {cells slots : Nat}
theorem retI (X : Stand p l e R s m args below meth c T locs cells slots) (hx : p.tables.exec = Jvm.exec) {pc : Nat} {Ls : Array Slot} {z : Int32} {rest : List Value} (hret : meth.sig.returnType = some .int) (hd : decode c.code pc = .ok (.ireturn, 1)) {fs : List Frame}
    (hl : ∀ (f : JFrame) (acts : List Action), f.method = m → f.locked = none → f.entered = [] → (doReturn e (T.setTop f) acts (some (.int z))).1 = T.setFrames fs) : Steps p.tables e below (T.setTop (mkF m pc Ls (.int z :: rest))) (T.setFrames fs) := by
  have hm' : T.vm.method? m = some meth := X.method'
  have hn : narrow .int (.int z) = .int z := rfl
  show Steps p.tables e below (T.setTop { method := m, pc := pc, locals := Ls, stack := _ :: rest, locked := none }) _
  jvm_step X.here [X.here.top, hx, hd, hm', hret, hn]
  first | (intro acts; rw [hl _ acts rfl rfl rfl]) | rw [hl _ _ rfl rfl rfl]
  exact Steps.refl _
end New
end Jvm.RoadKit
namespace Jvm.Pilot.@@N@@
open Jvm Jvm.ClassFile Sem Op Lib Jvm.Free Jvm.Stand Jvm.LawKit Jvm.RoadKit Bundle Jvm.Pilot.@@N@@.Jvm.D
/-- from A the run comes to B -/
abbrev Wy (tb : Tables) (e : Env) (below : List Frame) (A B : State) : Prop := ∀ t, Steps tb e below B t → Steps tb e below A t
theorem own_nat {c : Int32} (h : 0 ≤ c.toInt) : c = Int32.ofNat c.toInt.toNat := by
  apply Int32.toInt_inj.mp
  have h1 := c.toInt_lt
  rw [Int32.toInt_ofNat_of_lt (by omega)]
  omega
theorem own_lt {a b : Int32} : a < b ↔ a.toInt < b.toInt := Int32.lt_iff_toInt_lt
theorem own_ltF (k : Nat) (c : Int32) (h0 : 0 ≤ c.toInt) (h1 : c.toInt < k) : ∃ n : Fin k, c = Int32.ofNat n.val :=
  ⟨⟨c.toInt.toNat, by omega⟩, own_nat h0⟩
theorem own_rem (x y : Int32) (hx : 0 ≤ x.toInt) (hy : 0 < y.toInt) : (x - (x / y) * y).toInt = x.toInt % y.toInt := by
  have h1 := (c_idiv x y y.toInt rfl (by intro h; rw [h] at hy; exact absurd hy (by decide))).1 hx
  have h2 := c_imul (x / y) y
  have h3 := c_isub x ((x / y) * y)
  have r1 := rng32 ((x / y) * y)
  have r2 := rng32 (x - (x / y) * y)
  have r3 := rng32 x
  have r4 := rng32 y
  have e : x.toInt / y.toInt * y.toInt = x.toInt - x.toInt % y.toInt := by
    have := Int.emod_def x.toInt y.toInt
    rw [Int.mul_comm] at this
    omega
  rw [h1, e] at h2
  have b1 := Int.emod_nonneg x.toInt (show y.toInt ≠ 0 by omega)
  have b2 := Int.emod_lt_of_pos x.toInt hy
  have b3 : x.toInt % y.toInt ≤ x.toInt := by
    by_cases q : x.toInt < y.toInt
    · rw [Int.emod_eq_of_lt hx q]; omega
    · omega
  omega
theorem own_nm {a b : Addr} (h : a ≠ b) : a ∉ [b] := by simpa using h
theorem own_nm2 {a b c : Addr} (h : a ≠ b) (h2 : a ≠ c) : a ∉ [b, c] := by simp [h, h2]

def F1 (ax : Int32) (bx : Int32) (cx : Int32) : Int64 := (((((ax.toInt64) &&& (4294967295 : Int64)) ||| (0 : Int64)) ||| (((bx &&& (255 : Int32)).toInt64) <<< ((40 : Int32) &&& 0x3f).toInt64)) ||| (((cx &&& (65535 : Int32)).toInt64) <<< ((48 : Int32) &&& 0x3f).toInt64))
theorem d1_0 : decode prog_95_method_5_code 0 = .ok (.iload_n 0, 1) := by decide +kernel
theorem d1_1 : decode prog_95_method_5_code 1 = .ok (.i2l, 1) := by decide +kernel
theorem d1_2 : decode prog_95_method_5_code 2 = .ok (.ldc2_w 45, 3) := by decide +kernel
theorem d1_5 : decode prog_95_method_5_code 5 = .ok (.land, 1) := by decide +kernel
theorem d1_6 : decode prog_95_method_5_code 6 = .ok (.lconst 0, 1) := by decide +kernel
theorem d1_7 : decode prog_95_method_5_code 7 = .ok (.lor, 1) := by decide +kernel
theorem d1_8 : decode prog_95_method_5_code 8 = .ok (.iload_n 1, 1) := by decide +kernel
theorem d1_9 : decode prog_95_method_5_code 9 = .ok (.sipush 255, 3) := by decide +kernel
theorem d1_12 : decode prog_95_method_5_code 12 = .ok (.iand, 1) := by decide +kernel
theorem d1_13 : decode prog_95_method_5_code 13 = .ok (.i2l, 1) := by decide +kernel
theorem d1_14 : decode prog_95_method_5_code 14 = .ok (.bipush 40, 2) := by decide +kernel
theorem d1_16 : decode prog_95_method_5_code 16 = .ok (.lshl, 1) := by decide +kernel
theorem d1_17 : decode prog_95_method_5_code 17 = .ok (.lor, 1) := by decide +kernel
theorem d1_18 : decode prog_95_method_5_code 18 = .ok (.iload_n 2, 1) := by decide +kernel
theorem d1_19 : decode prog_95_method_5_code 19 = .ok (.ldc 47, 2) := by decide +kernel
theorem d1_21 : decode prog_95_method_5_code 21 = .ok (.iand, 1) := by decide +kernel
theorem d1_22 : decode prog_95_method_5_code 22 = .ok (.i2l, 1) := by decide +kernel
theorem d1_23 : decode prog_95_method_5_code 23 = .ok (.bipush 48, 2) := by decide +kernel
theorem d1_25 : decode prog_95_method_5_code 25 = .ok (.lshl, 1) := by decide +kernel
theorem d1_26 : decode prog_95_method_5_code 26 = .ok (.lor, 1) := by decide +kernel
theorem d1_27 : decode prog_95_method_5_code 27 = .ok (.lreturn, 1) := by decide +kernel
theorem pn_com_example_fifo3_fifo3_logbuffer_FrameHeader : plainName "com/example/fifo3/fifo3/logbuffer/FrameHeader" = true := by first | (simp [plainName, overriddenIn]; done) | decide +kernel
theorem ef_rm1 (m : MethodId) (ax : Int32) (bx : Int32) (cx : Int32)  : entryFrame m #[(.int ax), (.int bx), (.int cx)] 3 = (mkF m 0 #[.val (.int ax), .val (.int bx), .val (.int cx)] []) := by first | (simp [entryFrame, mkF, argsToLocals, Value.category]; done) | rfl
def Q1 (Z : State) (ax : Int32) (bx : Int32) (cx : Int32) (h0 : Heap) (n0 : Nat) (v : Option Value) (h : Heap) (L : List Loc) : Prop := v = some (.long (F1 ax bx cx)) ∧ Fr n0 L ∧ h = h0
set_option maxRecDepth 65536 in
set_option maxHeartbeats 40000000 in
theorem rm1 (l : Launch) (Z : State) (a0 : Array Value) (hw : ∀ d ∈ tables_1, d.before a0 Z = true) (ws : List Jvm.Cond) (ax : Int32) (bx : Int32) (cx : Int32) (h0 : Heap) (n0 : Nat) (Z0 : n0 ≤ h0.size)  :
    MetFree l (⟨"com/example/fifo3/fifo3/logbuffer/FrameHeader", "head", "(IBS)J"⟩ : MethodName) (head1 (Jvm.Cond.code (⟨"com/example/fifo3/fifo3/logbuffer/FrameHeader", "head", "(IBS)J"⟩ : MethodName) prog_95_method_5_code 3 (some .long) :: ws) ({ frames := 0, cells := 0, slots := 0, locals := 0 } : Room)) (fun a U => a = #[(.int ax), (.int bx), (.int cx)] ∧ Z.Warmed39 U.vm ∧ U.heap = h0) (fun _ _ _ _ _ => True) (fun _ U o U' => ∃ v L, o = .returned v ∧ Q1 Z ax bx cx h0 n0 v U'.heap L ∧ FrameEnd U o U' L ({ frames := 0, cells := 0, slots := 0, locals := 0 } : Room).cells ({ frames := 0, cells := 0, slots := 0, locals := 0 } : Room).slots) := by
  refine MetFree.of_bodySF (plainFor_of_name pn_com_example_fifo3_fifo3_logbuffer_FrameHeader) hisR ?_
  intro p e s m args below meth c s₁ Bd hml0 hP hK
  obtain ⟨rfl, hZ, hh⟩ := hP
  have hx := Bd.exec
  have hby := Bd.bytes
  have hml : c.maxLocals = 3 := hml0
  have hown : s.vm.findClass "com/example/fifo3/fifo3/logbuffer/FrameHeader" = some m.cls := findClass_of_methodNamed Bd.named
  have hnm := (name_of_methodNamed Bd.named Bd.method).1
  have X0 : Stand p l e ({ frames := 0, cells := 0, slots := 0, locals := 0 } : Room) s m #[(.int ax), (.int bx), (.int cx)] below meth c s₁ [] 0 0 := Stand.of_body Bd
  have e0 : s₁.heap = h0 := by rw [← hh, Bd.state]; rfl
  have N0 := Fr.nil n0
  have P0 : Wy p.tables e below (s₁.setTop (entryFrame m #[(.int ax), (.int bx), (.int cx)] 3)) (s₁.setTop (mkF m 0 #[.val (.int ax), .val (.int bx), .val (.int cx)] [])) := fun t k => castTop (ef_rm1 m ax bx cx) k
  have P1 : Wy p.tables e below (s₁.setTop (entryFrame m #[(.int ax), (.int bx), (.int cx)] 3)) (s₁.setTop (mkF m 27 #[.val (.int ax), .val (.int bx), .val (.int cx)] [(.long (((((ax.toInt64) &&& (4294967295 : Int64)) ||| (0 : Int64)) ||| (((bx &&& (255 : Int32)).toInt64) <<< ((40 : Int32) &&& 0x3f).toInt64)) ||| (((cx &&& (65535 : Int32)).toInt64) <<< ((48 : Int32) &&& 0x3f).toInt64)))])) := fun t k => P0 t (by
    show Steps p.tables e below (s₁.setTop (mkF m 0 #[.val (.int ax), .val (.int bx), .val (.int cx)] [])) _
    refine XS.iloadN X0.here hx rfl (hb hby d1_0) rfl  ?_
    show Steps p.tables e below (s₁.setTop (mkF m 1 #[.val (.int ax), .val (.int bx), .val (.int cx)] [(.int ax)])) _
    refine XS.i2l X0.here hx rfl (hb hby d1_1) rfl ?_
    show Steps p.tables e below (s₁.setTop (mkF m 2 #[.val (.int ax), .val (.int bx), .val (.int cx)] [(.long (ax.toInt64))])) _
    refine X0.ldc2Long hx hown (mvT hZ (hw _ (List.mem_of_getElem? (i := 4) rfl))) (g := (mkF m 2 #[.val (.int ax), .val (.int bx), .val (.int cx)] [(.long (ax.toInt64))])) rfl (hb hby d1_2) _ ?_
    show Steps p.tables e below (s₁.setTop (mkF m 5 #[.val (.int ax), .val (.int bx), .val (.int cx)] [(.long (4294967295 : Int64)), (.long (ax.toInt64))])) _
    refine XS.land X0.here hx rfl (hb hby d1_5) rfl ?_
    show Steps p.tables e below (s₁.setTop (mkF m 6 #[.val (.int ax), .val (.int bx), .val (.int cx)] [(.long ((ax.toInt64) &&& (4294967295 : Int64)))])) _
    refine XS.lconst X0.here hx rfl (hb hby d1_6) ?_
    show Steps p.tables e below (s₁.setTop (mkF m 7 #[.val (.int ax), .val (.int bx), .val (.int cx)] [(.long (0 : Int64)), (.long ((ax.toInt64) &&& (4294967295 : Int64)))])) _
    refine XS.lor X0.here hx rfl (hb hby d1_7) rfl ?_
    show Steps p.tables e below (s₁.setTop (mkF m 8 #[.val (.int ax), .val (.int bx), .val (.int cx)] [(.long (((ax.toInt64) &&& (4294967295 : Int64)) ||| (0 : Int64)))])) _
    refine XS.iloadN X0.here hx rfl (hb hby d1_8) rfl  ?_
    show Steps p.tables e below (s₁.setTop (mkF m 9 #[.val (.int ax), .val (.int bx), .val (.int cx)] [(.int bx), (.long (((ax.toInt64) &&& (4294967295 : Int64)) ||| (0 : Int64)))])) _
    refine XS.sipush X0.here hx rfl (hb hby d1_9) ?_
    show Steps p.tables e below (s₁.setTop (mkF m 12 #[.val (.int ax), .val (.int bx), .val (.int cx)] [(.int (255 : Int32)), (.int bx), (.long (((ax.toInt64) &&& (4294967295 : Int64)) ||| (0 : Int64)))])) _
    refine XS.iand X0.here hx rfl (hb hby d1_12) rfl ?_
    show Steps p.tables e below (s₁.setTop (mkF m 13 #[.val (.int ax), .val (.int bx), .val (.int cx)] [(.int (bx &&& (255 : Int32))), (.long (((ax.toInt64) &&& (4294967295 : Int64)) ||| (0 : Int64)))])) _
    refine XS.i2l X0.here hx rfl (hb hby d1_13) rfl ?_
    show Steps p.tables e below (s₁.setTop (mkF m 14 #[.val (.int ax), .val (.int bx), .val (.int cx)] [(.long ((bx &&& (255 : Int32)).toInt64)), (.long (((ax.toInt64) &&& (4294967295 : Int64)) ||| (0 : Int64)))])) _
    refine XS.bipush X0.here hx rfl (hb hby d1_14) ?_
    show Steps p.tables e below (s₁.setTop (mkF m 16 #[.val (.int ax), .val (.int bx), .val (.int cx)] [(.int (40 : Int32)), (.long ((bx &&& (255 : Int32)).toInt64)), (.long (((ax.toInt64) &&& (4294967295 : Int64)) ||| (0 : Int64)))])) _
    refine XS.lshl X0.here hx rfl (hb hby d1_16) rfl ?_
    show Steps p.tables e below (s₁.setTop (mkF m 17 #[.val (.int ax), .val (.int bx), .val (.int cx)] [(.long (((bx &&& (255 : Int32)).toInt64) <<< ((40 : Int32) &&& 0x3f).toInt64)), (.long (((ax.toInt64) &&& (4294967295 : Int64)) ||| (0 : Int64)))])) _
    refine XS.lor X0.here hx rfl (hb hby d1_17) rfl ?_
    show Steps p.tables e below (s₁.setTop (mkF m 18 #[.val (.int ax), .val (.int bx), .val (.int cx)] [(.long ((((ax.toInt64) &&& (4294967295 : Int64)) ||| (0 : Int64)) ||| (((bx &&& (255 : Int32)).toInt64) <<< ((40 : Int32) &&& 0x3f).toInt64)))])) _
    refine XS.iloadN X0.here hx rfl (hb hby d1_18) rfl  ?_
    show Steps p.tables e below (s₁.setTop (mkF m 19 #[.val (.int ax), .val (.int bx), .val (.int cx)] [(.int cx), (.long ((((ax.toInt64) &&& (4294967295 : Int64)) ||| (0 : Int64)) ||| (((bx &&& (255 : Int32)).toInt64) <<< ((40 : Int32) &&& 0x3f).toInt64)))])) _
    refine X0.ldcInt hx hown (mvT hZ (hw _ (List.mem_of_getElem? (i := 5) rfl))) (g := (mkF m 19 #[.val (.int ax), .val (.int bx), .val (.int cx)] [(.int cx), (.long ((((ax.toInt64) &&& (4294967295 : Int64)) ||| (0 : Int64)) ||| (((bx &&& (255 : Int32)).toInt64) <<< ((40 : Int32) &&& 0x3f).toInt64)))])) rfl (hb hby d1_19) _ ?_
    show Steps p.tables e below (s₁.setTop (mkF m 21 #[.val (.int ax), .val (.int bx), .val (.int cx)] [(.int (65535 : Int32)), (.int cx), (.long ((((ax.toInt64) &&& (4294967295 : Int64)) ||| (0 : Int64)) ||| (((bx &&& (255 : Int32)).toInt64) <<< ((40 : Int32) &&& 0x3f).toInt64)))])) _
    refine XS.iand X0.here hx rfl (hb hby d1_21) rfl ?_
    show Steps p.tables e below (s₁.setTop (mkF m 22 #[.val (.int ax), .val (.int bx), .val (.int cx)] [(.int (cx &&& (65535 : Int32))), (.long ((((ax.toInt64) &&& (4294967295 : Int64)) ||| (0 : Int64)) ||| (((bx &&& (255 : Int32)).toInt64) <<< ((40 : Int32) &&& 0x3f).toInt64)))])) _
    refine XS.i2l X0.here hx rfl (hb hby d1_22) rfl ?_
    show Steps p.tables e below (s₁.setTop (mkF m 23 #[.val (.int ax), .val (.int bx), .val (.int cx)] [(.long ((cx &&& (65535 : Int32)).toInt64)), (.long ((((ax.toInt64) &&& (4294967295 : Int64)) ||| (0 : Int64)) ||| (((bx &&& (255 : Int32)).toInt64) <<< ((40 : Int32) &&& 0x3f).toInt64)))])) _
    refine XS.bipush X0.here hx rfl (hb hby d1_23) ?_
    show Steps p.tables e below (s₁.setTop (mkF m 25 #[.val (.int ax), .val (.int bx), .val (.int cx)] [(.int (48 : Int32)), (.long ((cx &&& (65535 : Int32)).toInt64)), (.long ((((ax.toInt64) &&& (4294967295 : Int64)) ||| (0 : Int64)) ||| (((bx &&& (255 : Int32)).toInt64) <<< ((40 : Int32) &&& 0x3f).toInt64)))])) _
    refine XS.lshl X0.here hx rfl (hb hby d1_25) rfl ?_
    show Steps p.tables e below (s₁.setTop (mkF m 26 #[.val (.int ax), .val (.int bx), .val (.int cx)] [(.long (((cx &&& (65535 : Int32)).toInt64) <<< ((48 : Int32) &&& 0x3f).toInt64)), (.long ((((ax.toInt64) &&& (4294967295 : Int64)) ||| (0 : Int64)) ||| (((bx &&& (255 : Int32)).toInt64) <<< ((40 : Int32) &&& 0x3f).toInt64)))])) _
    refine XS.lor X0.here hx rfl (hb hby d1_26) rfl ?_
    exact k)
  obtain ⟨fs, hr, hrun, hended, hW, hsame⟩ := X0.leave (v := some (.long (((((ax.toInt64) &&& (4294967295 : Int64)) ||| (0 : Int64)) ||| (((bx &&& (255 : Int32)).toInt64) <<< ((40 : Int32) &&& 0x3f).toInt64)) ||| (((cx &&& (65535 : Int32)).toInt64) <<< ((48 : Int32) &&& 0x3f).toInt64)))) (fun h => by rw [Bd.returns] at h; cases h)
  refine ⟨_, _, P1 _ ?_, hrun, hended, _, _, rfl, ?_, ⟨_, rfl⟩, hW, hsame.mono (by decide) (by decide)⟩
  · show Steps p.tables e below (s₁.setTop (mkF m 27 #[.val (.int ax), .val (.int bx), .val (.int cx)] [(.long (((((ax.toInt64) &&& (4294967295 : Int64)) ||| (0 : Int64)) ||| (((bx &&& (255 : Int32)).toInt64) <<< ((40 : Int32) &&& 0x3f).toInt64)) ||| (((cx &&& (65535 : Int32)).toInt64) <<< ((48 : Int32) &&& 0x3f).toInt64)))])) _
    exact X0.lreturnOut hx Bd.returns (hb hby d1_27) hr
  · show Q1 Z ax bx cx h0 n0 _ s₁.heap _
    rw [e0]
    exact ⟨congrArg (fun z => some (Value.long z)) (show _ = F1 ax bx cx from by rfl), N0, rfl⟩
theorem own_nn (x : Int64) : x.toInt % 18446744073709551616 = (x.toBitVec.toNat : Int) := by
  have h : x.toInt = x.toBitVec.toInt := rfl
  have q := BitVec.toInt_eq_toNat_cond (x := x.toBitVec)
  have b := x.toBitVec.isLt
  rw [h, q]
  split <;> omega
/-- bits that don't meet: their 'or' is their sum -/
theorem own_orL (x y : Int64) (k : Nat) (q : Nat) (hx : x.toInt % 18446744073709551616 < ((2 ^ k : Nat) : Int)) (hy : y.toInt % 18446744073709551616 = ((2 ^ k * q : Nat) : Int)) :
    (x ||| y).toInt % 18446744073709551616 = x.toInt % 18446744073709551616 + y.toInt % 18446744073709551616 := by
  rw [own_nn] at hx hy
  rw [own_nn, own_nn, own_nn, Int64.toBitVec_or, BitVec.toNat_or]
  have h1 : x.toBitVec.toNat < 2 ^ k := by omega
  have h2 : y.toBitVec.toNat = 2 ^ k * q := by omega
  rw [h2, Nat.or_comm, ← Nat.two_pow_add_eq_or_of_lt h1]
  omega
theorem own_val {ax b c : Int32} {v : Int64} (hv : v = F1 ax b c) : v.toInt % 18446744073709551616 = ax.toInt % 4294967296 + (b.toInt % 256) * 1099511627776 + (c.toInt % 65536) * 281474976710656 := by
  have a1 := c_maskL ax.toInt64 4294967295 32 (by decide) (by decide)
  rw [c_i2l] at a1
  have b1 := c_mask b 255 8 (by decide) (by decide)
  have c1 := c_mask c 65535 16 (by decide) (by decide)
  have b2 := c_lshl (b &&& 255).toInt64 40 40 (by decide)
  have c2 := c_lshl (c &&& 65535).toInt64 48 48 (by decide)
  rw [c_i2l] at b2 c2
  rw [hv]
  unfold F1
  have z : (ax.toInt64 &&& (4294967295 : Int64)) ||| (0 : Int64) = ax.toInt64 &&& 4294967295 := by simp
  rw [z]
  generalize (ax.toInt64 &&& (4294967295 : Int64)) = A at *
  generalize ((b &&& (255 : Int32)).toInt64 <<< ((40 : Int32) &&& 0x3f).toInt64) = B at *
  generalize ((c &&& (65535 : Int32)).toInt64 <<< ((48 : Int32) &&& 0x3f).toInt64) = D at *
  have e1 : (2 ^ 40 : Nat) = 1099511627776 := rfl
  have e2 : (2 ^ 48 : Nat) = 281474976710656 := rfl
  have e3 : (2 ^ 32 : Nat) = 4294967296 := rfl
  have e4 : (2 ^ 8 : Nat) = 256 := rfl
  have e5 : (2 ^ 16 : Nat) = 65536 := rfl
  rw [e1] at b2
  rw [e2] at c2
  rw [e3] at a1
  rw [e4] at b1
  rw [e5] at c1
  have o1 := own_orL A B 40 (b.toInt % 256).toNat (by omega) (by omega)
  have o2 := own_orL (A ||| B) D 48 (c.toInt % 65536).toNat (by omega) (by omega)
  omega
theorem own_len {ax bx cx b c : Int32} {v : Int64} (hb : b = bx.toInt8.toInt32) (hc : c = cx.toInt16.toInt32) (hv : v = F1 ax b c) : v.toInt32 = ax := by
  apply Int32.toInt_inj.mp
  have h := own_val hv
  have h1 := c_l2i v
  have r1 := rng32 v.toInt32
  have r2 := rng32 ax
  omega
theorem own_ver {ax bx cx b c : Int32} {v : Int64} (hb : b = bx.toInt8.toInt32) (hc : c = cx.toInt16.toInt32) (hv : v = F1 ax b c) : (((v.toUInt64 >>> ((32 : Int32) &&& 0x3f).toInt64.toUInt64).toInt64) &&& (255 : Int64)).toInt32 = (0 : Int32) := by
  apply Int32.toInt_inj.mp
  have h := own_val hv
  have s := c_lushr v 32 32 (by decide) (by decide)
  generalize ((v.toUInt64 >>> ((32 : Int32) &&& 0x3f).toInt64.toUInt64).toInt64) = w at *
  have k := c_maskL w 255 8 (by decide) (by decide)
  have h1 := c_l2i (w &&& 255)
  have r1 := rng32 (w &&& 255).toInt32
  rw [show (2 ^ 32 : Nat) = 4294967296 from rfl] at s
  rw [show (2 ^ 8 : Nat) = 256 from rfl] at k
  show _ = (0 : Int)
  omega
theorem own_flg {ax bx cx b c : Int32} {v : Int64} (hb : b = bx.toInt8.toInt32) (hc : c = cx.toInt16.toInt32) (hv : v = F1 ax b c) : (((v.toUInt64 >>> ((40 : Int32) &&& 0x3f).toInt64.toUInt64).toInt64) &&& (255 : Int64)).toInt32.toInt8.toInt32 = b := by
  apply Int32.toInt_inj.mp
  have h := own_val hv
  have s := c_lushr v 40 40 (by decide) (by decide)
  generalize ((v.toUInt64 >>> ((40 : Int32) &&& 0x3f).toInt64.toUInt64).toInt64) = w at *
  have k := c_maskL w 255 8 (by decide) (by decide)
  have h1 := c_l2i (w &&& 255)
  have r1 := rng32 (w &&& 255).toInt32
  have h2 := c_i2b (w &&& 255).toInt32
  have h3 := c_i2b bx
  rw [← hb] at h3
  rw [show (2 ^ 40 : Nat) = 1099511627776 from rfl] at s
  rw [show (2 ^ 8 : Nat) = 256 from rfl] at k
  omega
theorem own_typ {ax bx cx b c : Int32} {v : Int64} (hb : b = bx.toInt8.toInt32) (hc : c = cx.toInt16.toInt32) (hv : v = F1 ax b c) : (((v.toUInt64 >>> ((48 : Int32) &&& 0x3f).toInt64.toUInt64).toInt64) &&& (65535 : Int64)).toInt32.toInt16.toInt32 = c := by
  apply Int32.toInt_inj.mp
  have h := own_val hv
  have s := c_lushr v 48 48 (by decide) (by decide)
  generalize ((v.toUInt64 >>> ((48 : Int32) &&& 0x3f).toInt64.toUInt64).toInt64) = w at *
  have k := c_maskL w 65535 16 (by decide) (by decide)
  have h1 := c_l2i (w &&& 65535)
  have r1 := rng32 (w &&& 65535).toInt32
  have h2 := c_i2s (w &&& 65535).toInt32
  have h3 := c_i2s cx
  rw [← hc] at h3
  rw [show (2 ^ 48 : Nat) = 281474976710656 from rfl] at s
  rw [show (2 ^ 16 : Nat) = 65536 from rfl] at k
  omega

theorem pn_com_example_fifo3_fifo3_logbuffer_FrameHeaderHeadPinLaw : plainName "com/example/fifo3/fifo3/logbuffer/FrameHeaderHeadPinLaw" = true := by first | (simp [plainName, overriddenIn]; done) | decide +kernel
theorem pd_lIBSrJ : parseMethodDescriptor "(IBS)J" = some ⟨[.int, .byte, .short], some .long⟩ := by decide +kernel
theorem ef_rm0 (m : MethodId) (ax : Int32) (bx : Int32) (cx : Int32)  : entryFrame m #[(.int ax), (.int bx), (.int cx)] maxLocals = (mkF m 0 #[.val (.int ax), .val (.int bx), .val (.int cx), .unset, .unset, .unset, .unset, .unset, .unset, .unset, .unset] []) := by first | (simp [entryFrame, mkF, argsToLocals, Value.category, maxLocals]; done) | rfl
def Q0 (Z : State) (ax bx cx : Int32) (h0 : Heap) (n0 : Nat) (v : Option Value) (h : Heap) (L : List Loc) : Prop := v = some (.int 1) ∧ Fr n0 L
set_option maxRecDepth 65536 in
set_option maxHeartbeats 40000000 in
theorem rm0 (l : Launch) (Z : State) (a0 : Array Value) (hw : ∀ d ∈ tables_1, d.before a0 Z = true) (ws : List Jvm.Cond) (ax bx cx : Int32) (h0 : Heap) (n0 : Nat) (Z0 : n0 ≤ h0.size)  :
    MetFree l x (head1 (Jvm.Cond.code x code maxLocals ret :: ws) room_1) (fun a U => a = #[(.int ax), (.int bx), (.int cx)] ∧ Z.Warmed39 U.vm ∧ U.heap = h0) (fun _ _ _ _ _ => True) (fun _ U o U' => ∃ v L, o = .returned v ∧ Q0 Z ax bx cx h0 n0 v U'.heap L ∧ FrameEnd U o U' L room_1.cells room_1.slots) := by
  refine MetFree.of_bodySF (plainFor_of_name pn_com_example_fifo3_fifo3_logbuffer_FrameHeaderHeadPinLaw) hisR ?_
  intro p e s m args below meth c s₁ Bd hml0 hP hK
  obtain ⟨rfl, hZ, hh⟩ := hP
  have hx := Bd.exec
  have hby := Bd.bytes
  have hml : c.maxLocals = 11 := hml0
  have hown : s.vm.findClass "com/example/fifo3/fifo3/logbuffer/FrameHeaderHeadPinLaw" = some m.cls := findClass_of_methodNamed Bd.named
  have hnm := (name_of_methodNamed Bd.named Bd.method).1
  have X0 : Stand p l e room_1 s m #[(.int ax), (.int bx), (.int cx)] below meth c s₁ [] 0 0 := Stand.of_body Bd
  have e0 : s₁.heap = h0 := by rw [← hh, Bd.state]; rfl
  have N0 := Fr.nil n0
  have P0 : Wy p.tables e below (s₁.setTop (entryFrame m #[(.int ax), (.int bx), (.int cx)] maxLocals)) (s₁.setTop (mkF m 0 #[.val (.int ax), .val (.int bx), .val (.int cx), .unset, .unset, .unset, .unset, .unset, .unset, .unset, .unset] [])) := fun t k => castTop (ef_rm0 m ax bx cx) k
  have P1 : Wy p.tables e below (s₁.setTop (entryFrame m #[(.int ax), (.int bx), (.int cx)] maxLocals)) (s₁.setTop (mkF m 3 #[.val (.int ax), .val (.int bx), .val (.int cx), .val (.int (bx.toInt8.toInt32)), .unset, .unset, .unset, .unset, .unset, .unset, .unset] [])) := fun t k => P0 t (by
    show Steps p.tables e below (s₁.setTop (mkF m 0 #[.val (.int ax), .val (.int bx), .val (.int cx), .unset, .unset, .unset, .unset, .unset, .unset, .unset, .unset] [])) _
    refine XS.iloadN X0.here hx rfl (hb hby at_0) rfl  ?_
    show Steps p.tables e below (s₁.setTop (mkF m 1 #[.val (.int ax), .val (.int bx), .val (.int cx), .unset, .unset, .unset, .unset, .unset, .unset, .unset, .unset] [(.int bx)])) _
    refine XS.i2b X0.here hx rfl (hb hby at_1) rfl ?_
    show Steps p.tables e below (s₁.setTop (mkF m 2 #[.val (.int ax), .val (.int bx), .val (.int cx), .unset, .unset, .unset, .unset, .unset, .unset, .unset, .unset] [(.int (bx.toInt8.toInt32))])) _
    refine XS.istoreN X0.here hx rfl (hb hby at_2) rfl (l' := #[.val (.int ax), .val (.int bx), .val (.int cx), .val (.int (bx.toInt8.toInt32)), .unset, .unset, .unset, .unset, .unset, .unset, .unset]) rfl ?_
    exact k)
  obtain ⟨v2, hv2⟩ : ∃ z : Int32, z = (bx.toInt8.toInt32) := ⟨_, rfl⟩
  have P3 : Wy p.tables e below (s₁.setTop (entryFrame m #[(.int ax), (.int bx), (.int cx)] maxLocals)) (s₁.setTop (mkF m 3 #[.val (.int ax), .val (.int bx), .val (.int cx), .val (.int v2), .unset, .unset, .unset, .unset, .unset, .unset, .unset] [])) := fun t k => by subst hv2; exact P1 t k
  have P4 : Wy p.tables e below (s₁.setTop (entryFrame m #[(.int ax), (.int bx), (.int cx)] maxLocals)) (s₁.setTop (mkF m 7 #[.val (.int ax), .val (.int bx), .val (.int cx), .val (.int v2), .val (.int (cx.toInt16.toInt32)), .unset, .unset, .unset, .unset, .unset, .unset] [])) := fun t k => P3 t (by
    show Steps p.tables e below (s₁.setTop (mkF m 3 #[.val (.int ax), .val (.int bx), .val (.int cx), .val (.int v2), .unset, .unset, .unset, .unset, .unset, .unset, .unset] [])) _
    refine XS.iloadN X0.here hx rfl (hb hby at_3) rfl  ?_
    show Steps p.tables e below (s₁.setTop (mkF m 4 #[.val (.int ax), .val (.int bx), .val (.int cx), .val (.int v2), .unset, .unset, .unset, .unset, .unset, .unset, .unset] [(.int cx)])) _
    refine XS.i2s X0.here hx rfl (hb hby at_4) rfl ?_
    show Steps p.tables e below (s₁.setTop (mkF m 5 #[.val (.int ax), .val (.int bx), .val (.int cx), .val (.int v2), .unset, .unset, .unset, .unset, .unset, .unset, .unset] [(.int (cx.toInt16.toInt32))])) _
    refine XS.istore X0.here hx rfl (hb hby at_5) rfl (l' := #[.val (.int ax), .val (.int bx), .val (.int cx), .val (.int v2), .val (.int (cx.toInt16.toInt32)), .unset, .unset, .unset, .unset, .unset, .unset]) rfl ?_
    exact k)
  obtain ⟨v5, hv5⟩ : ∃ z : Int32, z = (cx.toInt16.toInt32) := ⟨_, rfl⟩
  have P6 : Wy p.tables e below (s₁.setTop (entryFrame m #[(.int ax), (.int bx), (.int cx)] maxLocals)) (s₁.setTop (mkF m 7 #[.val (.int ax), .val (.int bx), .val (.int cx), .val (.int v2), .val (.int v5), .unset, .unset, .unset, .unset, .unset, .unset] [])) := fun t k => by subst hv5; exact P4 t k
  have P7 : Wy p.tables e below (s₁.setTop (entryFrame m #[(.int ax), (.int bx), (.int cx)] maxLocals)) (s₁.setTop (mkF m 11 #[.val (.int ax), .val (.int bx), .val (.int cx), .val (.int v2), .val (.int v5), .unset, .unset, .unset, .unset, .unset, .unset] [(.int v5), (.int v2), (.int ax)])) := fun t k => P6 t (by
    show Steps p.tables e below (s₁.setTop (mkF m 7 #[.val (.int ax), .val (.int bx), .val (.int cx), .val (.int v2), .val (.int v5), .unset, .unset, .unset, .unset, .unset, .unset] [])) _
    refine XS.iloadN X0.here hx rfl (hb hby at_7) rfl  ?_
    show Steps p.tables e below (s₁.setTop (mkF m 8 #[.val (.int ax), .val (.int bx), .val (.int cx), .val (.int v2), .val (.int v5), .unset, .unset, .unset, .unset, .unset, .unset] [(.int ax)])) _
    refine XS.iloadN X0.here hx rfl (hb hby at_8) rfl  ?_
    show Steps p.tables e below (s₁.setTop (mkF m 9 #[.val (.int ax), .val (.int bx), .val (.int cx), .val (.int v2), .val (.int v5), .unset, .unset, .unset, .unset, .unset, .unset] [(.int v2), (.int ax)])) _
    refine XS.iload X0.here hx rfl (hb hby at_9) rfl  ?_
    exact k)
  obtain ⟨_, _, ⟨T8, L8, k8, n8⟩, -, X8, ⟨Lc8, hQ8, l8, y8, z8⟩, st8⟩ := Jvm.LawKit.callS X0 hx (y := (⟨"com/example/fifo3/fifo3/logbuffer/FrameHeader", "head", "(IBS)J"⟩ : MethodName)) hown (mvT hZ (hw _ (List.mem_of_getElem? (i := 0) rfl))) (mvT hZ (hw _ (List.mem_of_getElem? (i := 1) rfl))) (mvT hZ (hw _ (List.mem_of_getElem? (i := 2) rfl))) (mvT hZ (hw _ (List.mem_of_getElem? (i := 3) rfl))) (by decide) (backOf (W := 0) (rm1 l Z a0 hw [] ax v2 v5 h0 n0 Z0 ) hZ (hw _ (List.mem_of_getElem? (i := 3) rfl)) (hw _ (List.mem_of_getElem? (i := 2) rfl)) (by decide) (by decide)) (g := (mkF m 11 #[.val (.int ax), .val (.int bx), .val (.int cx), .val (.int v2), .val (.int v5), .unset, .unset, .unset, .unset, .unset, .unset] [(.int v5), (.int v2), (.int ax)])) rfl (by rw [hml]; rfl) (argsL := [(.int ax), (.int v2), (.int v5)]) (rest := []) (lenOf pd_lIBSrJ rfl) rfl (by show 2 * 0 + _ ≤ _; exact Nat.le_of_eq rfl) (hb hby at_11) (fun _ _ => ⟨rfl, e0, (by decide : 0 + 0 ≤ _), (by decide : 0 + 0 ≤ _)⟩)
  dsimp only [Pt.U, Pt.locs, Pt.cells, Pt.slots] at X8 l8 y8 z8 st8 hQ8
  subst l8 y8 z8
  obtain ⟨rfl, N8q, e8⟩ := hQ8
  have N8 := Fr.app N0 N8q
  have P9 : Wy p.tables e below (s₁.setTop (entryFrame m #[(.int ax), (.int bx), (.int cx)] maxLocals)) (T8.setTop (mkF m 14 #[.val (.int ax), .val (.int bx), .val (.int cx), .val (.int v2), .val (.int v5), .unset, .unset, .unset, .unset, .unset, .unset] [(.long (F1 ax v2 v5))])) := fun t k => P7 t (st8 _ k)
  have P10 : Wy p.tables e below (s₁.setTop (entryFrame m #[(.int ax), (.int bx), (.int cx)] maxLocals)) (T8.setTop (mkF m 16 #[.val (.int ax), .val (.int bx), .val (.int cx), .val (.int v2), .val (.int v5), .val (.long (F1 ax v2 v5)), .second, .unset, .unset, .unset, .unset] [])) := fun t k => P9 t (by
    show Steps p.tables e below (T8.setTop (mkF m 14 #[.val (.int ax), .val (.int bx), .val (.int cx), .val (.int v2), .val (.int v5), .unset, .unset, .unset, .unset, .unset, .unset] [(.long (F1 ax v2 v5))])) _
    refine XS.lstore X8.here hx rfl (hb hby at_14) rfl (l' := #[.val (.int ax), .val (.int bx), .val (.int cx), .val (.int v2), .val (.int v5), .val (.long (F1 ax v2 v5)), .second, .unset, .unset, .unset, .unset]) rfl ?_
    exact k)
  obtain ⟨v11, hv11⟩ : ∃ z : Int64, z = (F1 ax v2 v5) := ⟨_, rfl⟩
  have P12 : Wy p.tables e below (s₁.setTop (entryFrame m #[(.int ax), (.int bx), (.int cx)] maxLocals)) (T8.setTop (mkF m 16 #[.val (.int ax), .val (.int bx), .val (.int cx), .val (.int v2), .val (.int v5), .val (.long v11), .second, .unset, .unset, .unset, .unset] [])) := fun t k => by subst hv11; exact P10 t k
  have P13 : Wy p.tables e below (s₁.setTop (entryFrame m #[(.int ax), (.int bx), (.int cx)] maxLocals)) (T8.setTop (mkF m 120 #[.val (.int ax), .val (.int bx), .val (.int cx), .val (.int v2), .val (.int v5), .val (.long v11), .second, .val (.int (1 : Int32)), .val (.int (1 : Int32)), .val (.int (1 : Int32)), .val (.int (1 : Int32))] [(.int (1 : Int32))])) := fun t k => P12 t (by
    show Steps p.tables e below (T8.setTop (mkF m 16 #[.val (.int ax), .val (.int bx), .val (.int cx), .val (.int v2), .val (.int v5), .val (.long v11), .second, .unset, .unset, .unset, .unset] [])) _
    refine XS.lload X8.here hx rfl (hb hby at_16) rfl  ?_
    show Steps p.tables e below (T8.setTop (mkF m 18 #[.val (.int ax), .val (.int bx), .val (.int cx), .val (.int v2), .val (.int v5), .val (.long v11), .second, .unset, .unset, .unset, .unset] [(.long v11)])) _
    refine XS.l2i X8.here hx rfl (hb hby at_18) rfl ?_
    show Steps p.tables e below (T8.setTop (mkF m 19 #[.val (.int ax), .val (.int bx), .val (.int cx), .val (.int v2), .val (.int v5), .val (.long v11), .second, .unset, .unset, .unset, .unset] [(.int (v11.toInt32))])) _
    refine XS.iloadN X8.here hx rfl (hb hby at_19) rfl  ?_
    show Steps p.tables e below (T8.setTop (mkF m 20 #[.val (.int ax), .val (.int bx), .val (.int cx), .val (.int v2), .val (.int v5), .val (.long v11), .second, .unset, .unset, .unset, .unset] [(.int ax), (.int (v11.toInt32))])) _
    refine XS.icmpNo X8.here hx rfl (hb hby at_20) rfl (teq (own_len hv2 hv5 hv11 : (v11.toInt32) = ax)).2 ?_
    show Steps p.tables e below (T8.setTop (mkF m 23 #[.val (.int ax), .val (.int bx), .val (.int cx), .val (.int v2), .val (.int v5), .val (.long v11), .second, .unset, .unset, .unset, .unset] [])) _
    refine XS.iconst X8.here hx rfl (hb hby at_23) ?_
    show Steps p.tables e below (T8.setTop (mkF m 24 #[.val (.int ax), .val (.int bx), .val (.int cx), .val (.int v2), .val (.int v5), .val (.long v11), .second, .unset, .unset, .unset, .unset] [(.int (1 : Int32))])) _
    refine XS.goto X8.here hx rfl (pc0 := 24) (pc' := 28) rfl (hb hby at_24) (by decide) (by decide) ?_
    show Steps p.tables e below (T8.setTop (mkF m 28 #[.val (.int ax), .val (.int bx), .val (.int cx), .val (.int v2), .val (.int v5), .val (.long v11), .second, .unset, .unset, .unset, .unset] [(.int (1 : Int32))])) _
    refine XS.istore X8.here hx rfl (hb hby at_28) rfl (l' := #[.val (.int ax), .val (.int bx), .val (.int cx), .val (.int v2), .val (.int v5), .val (.long v11), .second, .val (.int (1 : Int32)), .unset, .unset, .unset]) rfl ?_
    show Steps p.tables e below (T8.setTop (mkF m 30 #[.val (.int ax), .val (.int bx), .val (.int cx), .val (.int v2), .val (.int v5), .val (.long v11), .second, .val (.int (1 : Int32)), .unset, .unset, .unset] [])) _
    refine XS.lload X8.here hx rfl (hb hby at_30) rfl  ?_
    show Steps p.tables e below (T8.setTop (mkF m 32 #[.val (.int ax), .val (.int bx), .val (.int cx), .val (.int v2), .val (.int v5), .val (.long v11), .second, .val (.int (1 : Int32)), .unset, .unset, .unset] [(.long v11)])) _
    refine XS.bipush X8.here hx rfl (hb hby at_32) ?_
    show Steps p.tables e below (T8.setTop (mkF m 34 #[.val (.int ax), .val (.int bx), .val (.int cx), .val (.int v2), .val (.int v5), .val (.long v11), .second, .val (.int (1 : Int32)), .unset, .unset, .unset] [(.int (32 : Int32)), (.long v11)])) _
    refine XS.lushr X8.here hx rfl (hb hby at_34) rfl ?_
    show Steps p.tables e below (T8.setTop (mkF m 35 #[.val (.int ax), .val (.int bx), .val (.int cx), .val (.int v2), .val (.int v5), .val (.long v11), .second, .val (.int (1 : Int32)), .unset, .unset, .unset] [(.long ((v11.toUInt64 >>> ((32 : Int32) &&& 0x3f).toInt64.toUInt64).toInt64))])) _
    refine X8.ldc2Long hx hown (mvT hZ (hw _ (List.mem_of_getElem? (i := 6) rfl))) (g := (mkF m 35 #[.val (.int ax), .val (.int bx), .val (.int cx), .val (.int v2), .val (.int v5), .val (.long v11), .second, .val (.int (1 : Int32)), .unset, .unset, .unset] [(.long ((v11.toUInt64 >>> ((32 : Int32) &&& 0x3f).toInt64.toUInt64).toInt64))])) rfl (hb hby at_35) _ ?_
    show Steps p.tables e below (T8.setTop (mkF m 38 #[.val (.int ax), .val (.int bx), .val (.int cx), .val (.int v2), .val (.int v5), .val (.long v11), .second, .val (.int (1 : Int32)), .unset, .unset, .unset] [(.long (255 : Int64)), (.long ((v11.toUInt64 >>> ((32 : Int32) &&& 0x3f).toInt64.toUInt64).toInt64))])) _
    refine XS.land X8.here hx rfl (hb hby at_38) rfl ?_
    show Steps p.tables e below (T8.setTop (mkF m 39 #[.val (.int ax), .val (.int bx), .val (.int cx), .val (.int v2), .val (.int v5), .val (.long v11), .second, .val (.int (1 : Int32)), .unset, .unset, .unset] [(.long (((v11.toUInt64 >>> ((32 : Int32) &&& 0x3f).toInt64.toUInt64).toInt64) &&& (255 : Int64)))])) _
    refine XS.l2i X8.here hx rfl (hb hby at_39) rfl ?_
    show Steps p.tables e below (T8.setTop (mkF m 40 #[.val (.int ax), .val (.int bx), .val (.int cx), .val (.int v2), .val (.int v5), .val (.long v11), .second, .val (.int (1 : Int32)), .unset, .unset, .unset] [(.int ((((v11.toUInt64 >>> ((32 : Int32) &&& 0x3f).toInt64.toUInt64).toInt64) &&& (255 : Int64)).toInt32))])) _
    refine XS.ifNo X8.here hx rfl (hb hby at_40) rfl ((if0 _ _).trans (teq (own_ver hv2 hv5 hv11 : ((((v11.toUInt64 >>> ((32 : Int32) &&& 0x3f).toInt64.toUInt64).toInt64) &&& (255 : Int64)).toInt32) = (0 : Int32))).2) ?_
    show Steps p.tables e below (T8.setTop (mkF m 43 #[.val (.int ax), .val (.int bx), .val (.int cx), .val (.int v2), .val (.int v5), .val (.long v11), .second, .val (.int (1 : Int32)), .unset, .unset, .unset] [])) _
    refine XS.iconst X8.here hx rfl (hb hby at_43) ?_
    show Steps p.tables e below (T8.setTop (mkF m 44 #[.val (.int ax), .val (.int bx), .val (.int cx), .val (.int v2), .val (.int v5), .val (.long v11), .second, .val (.int (1 : Int32)), .unset, .unset, .unset] [(.int (1 : Int32))])) _
    refine XS.goto X8.here hx rfl (pc0 := 44) (pc' := 48) rfl (hb hby at_44) (by decide) (by decide) ?_
    show Steps p.tables e below (T8.setTop (mkF m 48 #[.val (.int ax), .val (.int bx), .val (.int cx), .val (.int v2), .val (.int v5), .val (.long v11), .second, .val (.int (1 : Int32)), .unset, .unset, .unset] [(.int (1 : Int32))])) _
    refine XS.istore X8.here hx rfl (hb hby at_48) rfl (l' := #[.val (.int ax), .val (.int bx), .val (.int cx), .val (.int v2), .val (.int v5), .val (.long v11), .second, .val (.int (1 : Int32)), .val (.int (1 : Int32)), .unset, .unset]) rfl ?_
    show Steps p.tables e below (T8.setTop (mkF m 50 #[.val (.int ax), .val (.int bx), .val (.int cx), .val (.int v2), .val (.int v5), .val (.long v11), .second, .val (.int (1 : Int32)), .val (.int (1 : Int32)), .unset, .unset] [])) _
    refine XS.lload X8.here hx rfl (hb hby at_50) rfl  ?_
    show Steps p.tables e below (T8.setTop (mkF m 52 #[.val (.int ax), .val (.int bx), .val (.int cx), .val (.int v2), .val (.int v5), .val (.long v11), .second, .val (.int (1 : Int32)), .val (.int (1 : Int32)), .unset, .unset] [(.long v11)])) _
    refine XS.bipush X8.here hx rfl (hb hby at_52) ?_
    show Steps p.tables e below (T8.setTop (mkF m 54 #[.val (.int ax), .val (.int bx), .val (.int cx), .val (.int v2), .val (.int v5), .val (.long v11), .second, .val (.int (1 : Int32)), .val (.int (1 : Int32)), .unset, .unset] [(.int (40 : Int32)), (.long v11)])) _
    refine XS.lushr X8.here hx rfl (hb hby at_54) rfl ?_
    show Steps p.tables e below (T8.setTop (mkF m 55 #[.val (.int ax), .val (.int bx), .val (.int cx), .val (.int v2), .val (.int v5), .val (.long v11), .second, .val (.int (1 : Int32)), .val (.int (1 : Int32)), .unset, .unset] [(.long ((v11.toUInt64 >>> ((40 : Int32) &&& 0x3f).toInt64.toUInt64).toInt64))])) _
    refine X8.ldc2Long hx hown (mvT hZ (hw _ (List.mem_of_getElem? (i := 6) rfl))) (g := (mkF m 55 #[.val (.int ax), .val (.int bx), .val (.int cx), .val (.int v2), .val (.int v5), .val (.long v11), .second, .val (.int (1 : Int32)), .val (.int (1 : Int32)), .unset, .unset] [(.long ((v11.toUInt64 >>> ((40 : Int32) &&& 0x3f).toInt64.toUInt64).toInt64))])) rfl (hb hby at_55) _ ?_
    show Steps p.tables e below (T8.setTop (mkF m 58 #[.val (.int ax), .val (.int bx), .val (.int cx), .val (.int v2), .val (.int v5), .val (.long v11), .second, .val (.int (1 : Int32)), .val (.int (1 : Int32)), .unset, .unset] [(.long (255 : Int64)), (.long ((v11.toUInt64 >>> ((40 : Int32) &&& 0x3f).toInt64.toUInt64).toInt64))])) _
    refine XS.land X8.here hx rfl (hb hby at_58) rfl ?_
    show Steps p.tables e below (T8.setTop (mkF m 59 #[.val (.int ax), .val (.int bx), .val (.int cx), .val (.int v2), .val (.int v5), .val (.long v11), .second, .val (.int (1 : Int32)), .val (.int (1 : Int32)), .unset, .unset] [(.long (((v11.toUInt64 >>> ((40 : Int32) &&& 0x3f).toInt64.toUInt64).toInt64) &&& (255 : Int64)))])) _
    refine XS.l2i X8.here hx rfl (hb hby at_59) rfl ?_
    show Steps p.tables e below (T8.setTop (mkF m 60 #[.val (.int ax), .val (.int bx), .val (.int cx), .val (.int v2), .val (.int v5), .val (.long v11), .second, .val (.int (1 : Int32)), .val (.int (1 : Int32)), .unset, .unset] [(.int ((((v11.toUInt64 >>> ((40 : Int32) &&& 0x3f).toInt64.toUInt64).toInt64) &&& (255 : Int64)).toInt32))])) _
    refine XS.i2b X8.here hx rfl (hb hby at_60) rfl ?_
    show Steps p.tables e below (T8.setTop (mkF m 61 #[.val (.int ax), .val (.int bx), .val (.int cx), .val (.int v2), .val (.int v5), .val (.long v11), .second, .val (.int (1 : Int32)), .val (.int (1 : Int32)), .unset, .unset] [(.int (((((v11.toUInt64 >>> ((40 : Int32) &&& 0x3f).toInt64.toUInt64).toInt64) &&& (255 : Int64)).toInt32).toInt8.toInt32))])) _
    refine XS.iloadN X8.here hx rfl (hb hby at_61) rfl  ?_
    show Steps p.tables e below (T8.setTop (mkF m 62 #[.val (.int ax), .val (.int bx), .val (.int cx), .val (.int v2), .val (.int v5), .val (.long v11), .second, .val (.int (1 : Int32)), .val (.int (1 : Int32)), .unset, .unset] [(.int v2), (.int (((((v11.toUInt64 >>> ((40 : Int32) &&& 0x3f).toInt64.toUInt64).toInt64) &&& (255 : Int64)).toInt32).toInt8.toInt32))])) _
    refine XS.icmpNo X8.here hx rfl (hb hby at_62) rfl (teq (own_flg hv2 hv5 hv11 : (((((v11.toUInt64 >>> ((40 : Int32) &&& 0x3f).toInt64.toUInt64).toInt64) &&& (255 : Int64)).toInt32).toInt8.toInt32) = v2)).2 ?_
    show Steps p.tables e below (T8.setTop (mkF m 65 #[.val (.int ax), .val (.int bx), .val (.int cx), .val (.int v2), .val (.int v5), .val (.long v11), .second, .val (.int (1 : Int32)), .val (.int (1 : Int32)), .unset, .unset] [])) _
    refine XS.iconst X8.here hx rfl (hb hby at_65) ?_
    show Steps p.tables e below (T8.setTop (mkF m 66 #[.val (.int ax), .val (.int bx), .val (.int cx), .val (.int v2), .val (.int v5), .val (.long v11), .second, .val (.int (1 : Int32)), .val (.int (1 : Int32)), .unset, .unset] [(.int (1 : Int32))])) _
    refine XS.goto X8.here hx rfl (pc0 := 66) (pc' := 70) rfl (hb hby at_66) (by decide) (by decide) ?_
    show Steps p.tables e below (T8.setTop (mkF m 70 #[.val (.int ax), .val (.int bx), .val (.int cx), .val (.int v2), .val (.int v5), .val (.long v11), .second, .val (.int (1 : Int32)), .val (.int (1 : Int32)), .unset, .unset] [(.int (1 : Int32))])) _
    refine XS.istore X8.here hx rfl (hb hby at_70) rfl (l' := #[.val (.int ax), .val (.int bx), .val (.int cx), .val (.int v2), .val (.int v5), .val (.long v11), .second, .val (.int (1 : Int32)), .val (.int (1 : Int32)), .val (.int (1 : Int32)), .unset]) rfl ?_
    show Steps p.tables e below (T8.setTop (mkF m 72 #[.val (.int ax), .val (.int bx), .val (.int cx), .val (.int v2), .val (.int v5), .val (.long v11), .second, .val (.int (1 : Int32)), .val (.int (1 : Int32)), .val (.int (1 : Int32)), .unset] [])) _
    refine XS.lload X8.here hx rfl (hb hby at_72) rfl  ?_
    show Steps p.tables e below (T8.setTop (mkF m 74 #[.val (.int ax), .val (.int bx), .val (.int cx), .val (.int v2), .val (.int v5), .val (.long v11), .second, .val (.int (1 : Int32)), .val (.int (1 : Int32)), .val (.int (1 : Int32)), .unset] [(.long v11)])) _
    refine XS.bipush X8.here hx rfl (hb hby at_74) ?_
    show Steps p.tables e below (T8.setTop (mkF m 76 #[.val (.int ax), .val (.int bx), .val (.int cx), .val (.int v2), .val (.int v5), .val (.long v11), .second, .val (.int (1 : Int32)), .val (.int (1 : Int32)), .val (.int (1 : Int32)), .unset] [(.int (48 : Int32)), (.long v11)])) _
    refine XS.lushr X8.here hx rfl (hb hby at_76) rfl ?_
    show Steps p.tables e below (T8.setTop (mkF m 77 #[.val (.int ax), .val (.int bx), .val (.int cx), .val (.int v2), .val (.int v5), .val (.long v11), .second, .val (.int (1 : Int32)), .val (.int (1 : Int32)), .val (.int (1 : Int32)), .unset] [(.long ((v11.toUInt64 >>> ((48 : Int32) &&& 0x3f).toInt64.toUInt64).toInt64))])) _
    refine X8.ldc2Long hx hown (mvT hZ (hw _ (List.mem_of_getElem? (i := 7) rfl))) (g := (mkF m 77 #[.val (.int ax), .val (.int bx), .val (.int cx), .val (.int v2), .val (.int v5), .val (.long v11), .second, .val (.int (1 : Int32)), .val (.int (1 : Int32)), .val (.int (1 : Int32)), .unset] [(.long ((v11.toUInt64 >>> ((48 : Int32) &&& 0x3f).toInt64.toUInt64).toInt64))])) rfl (hb hby at_77) _ ?_
    show Steps p.tables e below (T8.setTop (mkF m 80 #[.val (.int ax), .val (.int bx), .val (.int cx), .val (.int v2), .val (.int v5), .val (.long v11), .second, .val (.int (1 : Int32)), .val (.int (1 : Int32)), .val (.int (1 : Int32)), .unset] [(.long (65535 : Int64)), (.long ((v11.toUInt64 >>> ((48 : Int32) &&& 0x3f).toInt64.toUInt64).toInt64))])) _
    refine XS.land X8.here hx rfl (hb hby at_80) rfl ?_
    show Steps p.tables e below (T8.setTop (mkF m 81 #[.val (.int ax), .val (.int bx), .val (.int cx), .val (.int v2), .val (.int v5), .val (.long v11), .second, .val (.int (1 : Int32)), .val (.int (1 : Int32)), .val (.int (1 : Int32)), .unset] [(.long (((v11.toUInt64 >>> ((48 : Int32) &&& 0x3f).toInt64.toUInt64).toInt64) &&& (65535 : Int64)))])) _
    refine XS.l2i X8.here hx rfl (hb hby at_81) rfl ?_
    show Steps p.tables e below (T8.setTop (mkF m 82 #[.val (.int ax), .val (.int bx), .val (.int cx), .val (.int v2), .val (.int v5), .val (.long v11), .second, .val (.int (1 : Int32)), .val (.int (1 : Int32)), .val (.int (1 : Int32)), .unset] [(.int ((((v11.toUInt64 >>> ((48 : Int32) &&& 0x3f).toInt64.toUInt64).toInt64) &&& (65535 : Int64)).toInt32))])) _
    refine XS.i2s X8.here hx rfl (hb hby at_82) rfl ?_
    show Steps p.tables e below (T8.setTop (mkF m 83 #[.val (.int ax), .val (.int bx), .val (.int cx), .val (.int v2), .val (.int v5), .val (.long v11), .second, .val (.int (1 : Int32)), .val (.int (1 : Int32)), .val (.int (1 : Int32)), .unset] [(.int (((((v11.toUInt64 >>> ((48 : Int32) &&& 0x3f).toInt64.toUInt64).toInt64) &&& (65535 : Int64)).toInt32).toInt16.toInt32))])) _
    refine XS.iload X8.here hx rfl (hb hby at_83) rfl  ?_
    show Steps p.tables e below (T8.setTop (mkF m 85 #[.val (.int ax), .val (.int bx), .val (.int cx), .val (.int v2), .val (.int v5), .val (.long v11), .second, .val (.int (1 : Int32)), .val (.int (1 : Int32)), .val (.int (1 : Int32)), .unset] [(.int v5), (.int (((((v11.toUInt64 >>> ((48 : Int32) &&& 0x3f).toInt64.toUInt64).toInt64) &&& (65535 : Int64)).toInt32).toInt16.toInt32))])) _
    refine XS.icmpNo X8.here hx rfl (hb hby at_85) rfl (teq (own_typ hv2 hv5 hv11 : (((((v11.toUInt64 >>> ((48 : Int32) &&& 0x3f).toInt64.toUInt64).toInt64) &&& (65535 : Int64)).toInt32).toInt16.toInt32) = v5)).2 ?_
    show Steps p.tables e below (T8.setTop (mkF m 88 #[.val (.int ax), .val (.int bx), .val (.int cx), .val (.int v2), .val (.int v5), .val (.long v11), .second, .val (.int (1 : Int32)), .val (.int (1 : Int32)), .val (.int (1 : Int32)), .unset] [])) _
    refine XS.iconst X8.here hx rfl (hb hby at_88) ?_
    show Steps p.tables e below (T8.setTop (mkF m 89 #[.val (.int ax), .val (.int bx), .val (.int cx), .val (.int v2), .val (.int v5), .val (.long v11), .second, .val (.int (1 : Int32)), .val (.int (1 : Int32)), .val (.int (1 : Int32)), .unset] [(.int (1 : Int32))])) _
    refine XS.goto X8.here hx rfl (pc0 := 89) (pc' := 93) rfl (hb hby at_89) (by decide) (by decide) ?_
    show Steps p.tables e below (T8.setTop (mkF m 93 #[.val (.int ax), .val (.int bx), .val (.int cx), .val (.int v2), .val (.int v5), .val (.long v11), .second, .val (.int (1 : Int32)), .val (.int (1 : Int32)), .val (.int (1 : Int32)), .unset] [(.int (1 : Int32))])) _
    refine XS.istore X8.here hx rfl (hb hby at_93) rfl (l' := #[.val (.int ax), .val (.int bx), .val (.int cx), .val (.int v2), .val (.int v5), .val (.long v11), .second, .val (.int (1 : Int32)), .val (.int (1 : Int32)), .val (.int (1 : Int32)), .val (.int (1 : Int32))]) rfl ?_
    show Steps p.tables e below (T8.setTop (mkF m 95 #[.val (.int ax), .val (.int bx), .val (.int cx), .val (.int v2), .val (.int v5), .val (.long v11), .second, .val (.int (1 : Int32)), .val (.int (1 : Int32)), .val (.int (1 : Int32)), .val (.int (1 : Int32))] [])) _
    refine XS.iload X8.here hx rfl (hb hby at_95) rfl  ?_
    show Steps p.tables e below (T8.setTop (mkF m 97 #[.val (.int ax), .val (.int bx), .val (.int cx), .val (.int v2), .val (.int v5), .val (.long v11), .second, .val (.int (1 : Int32)), .val (.int (1 : Int32)), .val (.int (1 : Int32)), .val (.int (1 : Int32))] [(.int (1 : Int32))])) _
    refine XS.ifNo X8.here hx rfl (hb hby at_97) rfl ((if0 _ _).trans (feq (by decide : ¬ ((1 : Int32) = (0 : Int32)))).1) ?_
    show Steps p.tables e below (T8.setTop (mkF m 100 #[.val (.int ax), .val (.int bx), .val (.int cx), .val (.int v2), .val (.int v5), .val (.long v11), .second, .val (.int (1 : Int32)), .val (.int (1 : Int32)), .val (.int (1 : Int32)), .val (.int (1 : Int32))] [])) _
    refine XS.iload X8.here hx rfl (hb hby at_100) rfl  ?_
    show Steps p.tables e below (T8.setTop (mkF m 102 #[.val (.int ax), .val (.int bx), .val (.int cx), .val (.int v2), .val (.int v5), .val (.long v11), .second, .val (.int (1 : Int32)), .val (.int (1 : Int32)), .val (.int (1 : Int32)), .val (.int (1 : Int32))] [(.int (1 : Int32))])) _
    refine XS.ifNo X8.here hx rfl (hb hby at_102) rfl ((if0 _ _).trans (feq (by decide : ¬ ((1 : Int32) = (0 : Int32)))).1) ?_
    show Steps p.tables e below (T8.setTop (mkF m 105 #[.val (.int ax), .val (.int bx), .val (.int cx), .val (.int v2), .val (.int v5), .val (.long v11), .second, .val (.int (1 : Int32)), .val (.int (1 : Int32)), .val (.int (1 : Int32)), .val (.int (1 : Int32))] [])) _
    refine XS.iload X8.here hx rfl (hb hby at_105) rfl  ?_
    show Steps p.tables e below (T8.setTop (mkF m 107 #[.val (.int ax), .val (.int bx), .val (.int cx), .val (.int v2), .val (.int v5), .val (.long v11), .second, .val (.int (1 : Int32)), .val (.int (1 : Int32)), .val (.int (1 : Int32)), .val (.int (1 : Int32))] [(.int (1 : Int32))])) _
    refine XS.ifNo X8.here hx rfl (hb hby at_107) rfl ((if0 _ _).trans (feq (by decide : ¬ ((1 : Int32) = (0 : Int32)))).1) ?_
    show Steps p.tables e below (T8.setTop (mkF m 110 #[.val (.int ax), .val (.int bx), .val (.int cx), .val (.int v2), .val (.int v5), .val (.long v11), .second, .val (.int (1 : Int32)), .val (.int (1 : Int32)), .val (.int (1 : Int32)), .val (.int (1 : Int32))] [])) _
    refine XS.iload X8.here hx rfl (hb hby at_110) rfl  ?_
    show Steps p.tables e below (T8.setTop (mkF m 112 #[.val (.int ax), .val (.int bx), .val (.int cx), .val (.int v2), .val (.int v5), .val (.long v11), .second, .val (.int (1 : Int32)), .val (.int (1 : Int32)), .val (.int (1 : Int32)), .val (.int (1 : Int32))] [(.int (1 : Int32))])) _
    refine XS.ifNo X8.here hx rfl (hb hby at_112) rfl ((if0 _ _).trans (feq (by decide : ¬ ((1 : Int32) = (0 : Int32)))).1) ?_
    show Steps p.tables e below (T8.setTop (mkF m 115 #[.val (.int ax), .val (.int bx), .val (.int cx), .val (.int v2), .val (.int v5), .val (.long v11), .second, .val (.int (1 : Int32)), .val (.int (1 : Int32)), .val (.int (1 : Int32)), .val (.int (1 : Int32))] [])) _
    refine XS.iconst X8.here hx rfl (hb hby at_115) ?_
    show Steps p.tables e below (T8.setTop (mkF m 116 #[.val (.int ax), .val (.int bx), .val (.int cx), .val (.int v2), .val (.int v5), .val (.long v11), .second, .val (.int (1 : Int32)), .val (.int (1 : Int32)), .val (.int (1 : Int32)), .val (.int (1 : Int32))] [(.int (1 : Int32))])) _
    refine XS.goto X8.here hx rfl (pc0 := 116) (pc' := 120) rfl (hb hby at_116) (by decide) (by decide) ?_
    exact k)
  obtain ⟨fs, hr, hrun, hended, hW, hsame⟩ := X8.leave (v := some (.int (nar .boolean (1 : Int32)))) (fun h => by rw [Bd.returns] at h; cases h)
  refine ⟨_, _, P13 _ ?_, hrun, hended, _, _, rfl, ?_, ⟨_, rfl⟩, hW, hsame.mono (by decide) (by decide)⟩
  · show Steps p.tables e below (T8.setTop (mkF m 120 #[.val (.int ax), .val (.int bx), .val (.int cx), .val (.int v2), .val (.int v5), .val (.long v11), .second, .val (.int (1 : Int32)), .val (.int (1 : Int32)), .val (.int (1 : Int32)), .val (.int (1 : Int32))] [(.int (1 : Int32))])) _
    exact retN X8 hx (t := .boolean) Bd.returns (by simp) (hb hby at_120) hr
  · show Q0 Z ax bx cx h0 n0 _ T8.heap _
    rw [e8]
    exact ⟨rfl, N8⟩
set_option maxRecDepth 65536 in
set_option maxHeartbeats 40000000 in
theorem comes_1 {Post : Tables → Env → Array Value → State → Outcome → State → Prop} (hpost : ∀ tb e args s v u, (limb_1_1.after args s (.returned v) u = true ∧ limb_1_2.after args s (.returned v) u = true ∧ True) → FrameEnd s (.returned v) u (Jvm.fieldLocs frame_1_writes args s ++ Jvm.arrayLocs frame_1_arrays args s ++ Jvm.staticLocs frame_1_statics s) 0 0 → Post tb e args s (.returned v) u) :
    ArmFor flags0 classFile x code maxLocals ret World_1 tables_1 room_1 Calls_1 rest_1 Pre_1 Post := by
  intro l hfl _ _ p e ha hc hk s m args below hf hA hF happ hP
  obtain ⟨hcalls, hrest, hpre⟩ := hP
  obtain ⟨-, -, -, hnamed, -, -, -, hat⟩ := (Spec.applies_iff hf).mp happ
  obtain ⟨hg, hn⟩ := and_e (Cond.before_iff.mp (show (Jvm.Cond.and given_1 narrow_1).before args s = true from hpre))
  obtain ⟨g1, g2⟩ := and_e hg
  obtain ⟨g3, g4⟩ := and_e g2
  obtain ⟨g5, g6⟩ := and_e g4
  obtain ⟨w0, w1, w2, rfl⟩ : ∃ w0 w1 w2 : Value, args = #[w0, w1, w2] := by
    have hs : args.size = 3 := by simpa [Cond.value, given_1] using g1
    obtain ⟨L⟩ := args
    match L, hs with
    | [w0, w1, w2], _ => exact ⟨w0, w1, w2, rfl⟩
  have hw := fun d (hd : d ∈ tables_1) => atoms_spec (ws := Jvm.Cond.code x code maxLocals ret :: tables_1) hat d (List.mem_cons_of_mem _ hd)
  have hfit : Fit s := fun {y c} hc i hi => by
    obtain ⟨ha, rfl⟩ := Array.getElem?_eq_some_iff.mp hc
    have q := List.all_eq_true.mp ((Array.all_eq_true_iff_forall_mem.mp hF) _ (Array.getElem_mem ha)) i (List.mem_range.mpr hi)
    simpa [Array.getElem?_eq_getElem hi] using q
  obtain ⟨i0, ei0⟩ := is_v g3
  obtain rfl : w0 = (.int i0) := Option.some.inj ei0
  obtain ⟨i1, ei1⟩ := is_v g5
  obtain rfl : w1 = (.int i1) := Option.some.inj ei1
  obtain ⟨i2, ei2⟩ := is_v g6
  obtain rfl : w2 = (.int i2) := Option.some.inj ei2
  obtain ⟨n, o, h1, h2, h3, _, L, rfl, ⟨rfl, N⟩, hq⟩ := rm0 l s _ hw tables_1 i0 i1 i2 s.heap s.heap.size (Nat.le_refl _)  p e ha hc hk s m _ below hf ((Spec.applies_iff_loose hf).mp happ).1 ⟨rfl, State.Warmed39.refl s, rfl⟩ trivial
  refine ⟨n, _, h1, h2, h3, hpost _ _ _ _ _ _ ⟨Cond.after_iff.mpr rfl, Cond.after_iff.mpr (eq_i res_at (Term.int_eval (1)) rfl), trivial⟩ ⟨hq.1, hq.2.1, (hq.2.2.sift fun y hy => Or.inr (N y hy)).mono (by decide) (by decide)⟩⟩
theorem main_1_1 : Claimed_1_1 := comes_1 fun _ _ _ _ _ _ h hF => ⟨h.1, hF⟩
theorem main_1_2 : Claimed_1_2 := comes_1 fun _ _ _ _ _ _ h hF => ⟨h.2.1, hF⟩
end Jvm.Pilot.@@N@@
namespace Jvm.Pilot.@@N@@
open Jvm Jvm.ClassFile Sem Op Lib Jvm.Free Jvm.Stand Jvm.Pilot.@@N@@.Jvm.D
/-! MADE BY PROGRAM (witnessworld.py) out of the Statement's table words and the real class files: 9 classes; the members and pool entries that the words name. The judged class is class 1, her method 1. -/
namespace start1
open Jvm.ClassFile
def u (s : String) : CpInfo := .utf8 (stringToUtf16 s)
/-- a pool by its gaps: so many unusable entries, then the entry; so many at the end -/
def gap : Nat → List CpInfo → List CpInfo
  | 0, r => r
  | n + 1, r => .unusable :: gap n r
def poolList (es : List (Nat × CpInfo)) (last : Nat) : List CpInfo := es.foldr (fun e r => gap e.1 (e.2 :: r)) (gap last [])
def pool (es : List (Nat × CpInfo)) (last : Nat) : Array CpInfo := ⟨poolList es last⟩
def fileOf (pool : Array CpInfo) (this : Nat) (attrs : Array Attribute := #[]) (ms : Array MethodInfo := #[]) (fl : Nat := 33) (sup : Nat := 0) (ifs : Array Nat := #[]) (fds : Array FieldInfo := #[]) : ClassFile where
  minorVersion := 0
  majorVersion := 65
  constantPool := pool
  accessFlags := fl
  thisClass := this
  superClass := sup
  interfaces := ifs
  fields := fds
  methods := ms
  attributes := attrs
def plain (name : String) (sup : Option ClassId) : Class where
  name := name
  kind := .ordinary
  loader := none
  accessFlags := 33
  super := sup
  interfaces := #[]
  cf := none
  fields := #[]
  methods := #[]
  instanceTypes := #[]
  staticTypes := #[]
  resolved := #[]
  callSites := []
  init := .initialized
  statics := none
  mirror := none

def pool0 : Array CpInfo := pool [(5, u "<init>"), (0, u "()V"), (1, .class_ 10), (1, u "java/lang/Object")] 113

def k0m0 : Method := { name := "<init>", desc := "()V", sig := { parameters := [], returnType := none }, accessFlags := 1, code := none }
/-- java/lang/Object -/
def k0 : Class := { plain "java/lang/Object" none with
  accessFlags := 33
  interfaces := #[]
  cf := some (fileOf pool0 8 #[] #[{ accessFlags := 1, nameIndex := 5, descriptorIndex := 6, attributes := #[] }] 33 0 #[] #[])
  fields := #[]
  methods := #[k0m0]
  instanceTypes := #[]
  staticTypes := #[]
  resolved := Array.replicate 124 none
  statics := none }

def pool1 : Array CpInfo := pool [(2, .class_ 4), (1, u "java/lang/Object"), (0, u "<init>"), (0, u "()V"), (0, .methodref 8 9), (0, .class_ 10), (0, .nameAndType 11 12), (0, u "com/example/fifo3/fifo3/logbuffer/FrameHeader"), (0, u "head"), (0, u "(IBS)J"), (0, .long 255), (1, .long 65535), (1, .class_ 18), (0, u "com/example/fifo3/fifo3/logbuffer/FrameHeaderHeadPinLaw"), (2, u "law"), (0, u "(III)Z")] 3

def k1m0 : Method := { name := "<init>", desc := "()V", sig := { parameters := [], returnType := none }, accessFlags := 2, code := none }
def k1c1 : Code := { maxStack := 4, maxLocals := 11, code := code, exceptionTable := #[], attributes := #[] }
def k1m1 : Method := { name := "law", desc := "(III)Z", sig := { parameters := [.int, .int, .int], returnType := some .boolean }, accessFlags := 9, code := some k1c1 }
/-- com/example/fifo3/fifo3/logbuffer/FrameHeaderHeadPinLaw -/
def k1 : Class := { plain "com/example/fifo3/fifo3/logbuffer/FrameHeaderHeadPinLaw" (some 0) with
  accessFlags := 49
  interfaces := #[]
  cf := some (fileOf pool1 17 #[] #[{ accessFlags := 2, nameIndex := 5, descriptorIndex := 6, attributes := #[] }, { accessFlags := 9, nameIndex := 21, descriptorIndex := 22, attributes := #[] }] 49 2 #[] #[])
  fields := #[]
  methods := #[k1m0, k1m1]
  instanceTypes := #[]
  staticTypes := #[]
  resolved := Array.replicate 26 none
  statics := none }

def pool2 : Array CpInfo := pool [(1, .class_ 2), (0, u "com/example/fifo3/fifo3/logbuffer/FrameHeader"), (3, .class_ 8), (1, u "java/lang/Object"), (0, u "<init>"), (0, u "()V"), (34, .long 4294967295), (1, .integer 65535), (48, u "LENGTH"), (0, u "I"), (2, u "ALIGNMENT"), (0, u "CURRENT_VERSION"), (0, u "B"), (1, u "BEGIN_FLAG"), (1, u "END_FLAG"), (1, u "UNFRAGMENTED"), (1, u "TYPE_PADDING"), (0, u "S"), (0, u "TYPE_DATA"), (1, u "FRAME_LENGTH_OFFSET"), (0, u "VERSION_OFFSET"), (1, u "FLAGS_OFFSET"), (1, u "TYPE_OFFSET"), (1, u "TERM_OFFSET_OFFSET"), (1, u "SESSION_ID_OFFSET"), (1, u "STREAM_ID_OFFSET"), (1, u "TERM_ID_OFFSET"), (1, u "RESERVED_VALUE_OFFSET"), (1, u "MAX_ALIGNABLE_LENGTH"), (7, u "head"), (0, u "(IBS)J")] 37

def k2m0 : Method := { name := "<init>", desc := "()V", sig := { parameters := [], returnType := none }, accessFlags := 2, code := none }
def k2c1 : Code := { maxStack := 5, maxLocals := 3, code := prog_95_method_5_code, exceptionTable := #[], attributes := #[] }
def k2m1 : Method := { name := "head", desc := "(IBS)J", sig := { parameters := [.int, .byte, .short], returnType := some .long }, accessFlags := 9, code := some k2c1 }
/-- com/example/fifo3/fifo3/logbuffer/FrameHeader -/
def k2 : Class := { plain "com/example/fifo3/fifo3/logbuffer/FrameHeader" (some 0) with
  accessFlags := 33
  interfaces := #[]
  cf := some (fileOf pool2 1 #[] #[{ accessFlags := 2, nameIndex := 9, descriptorIndex := 10, attributes := #[] }, { accessFlags := 9, nameIndex := 139, descriptorIndex := 140, attributes := #[] }] 33 6 #[] #[{ accessFlags := 25, nameIndex := 96, descriptorIndex := 97, attributes := #[] }, { accessFlags := 25, nameIndex := 100, descriptorIndex := 97, attributes := #[] }, { accessFlags := 25, nameIndex := 101, descriptorIndex := 102, attributes := #[] }, { accessFlags := 25, nameIndex := 104, descriptorIndex := 102, attributes := #[] }, { accessFlags := 25, nameIndex := 106, descriptorIndex := 102, attributes := #[] }, { accessFlags := 25, nameIndex := 108, descriptorIndex := 102, attributes := #[] }, { accessFlags := 25, nameIndex := 110, descriptorIndex := 111, attributes := #[] }, { accessFlags := 25, nameIndex := 112, descriptorIndex := 111, attributes := #[] }, { accessFlags := 26, nameIndex := 114, descriptorIndex := 97, attributes := #[] }, { accessFlags := 26, nameIndex := 115, descriptorIndex := 97, attributes := #[] }, { accessFlags := 26, nameIndex := 117, descriptorIndex := 97, attributes := #[] }, { accessFlags := 26, nameIndex := 119, descriptorIndex := 97, attributes := #[] }, { accessFlags := 26, nameIndex := 121, descriptorIndex := 97, attributes := #[] }, { accessFlags := 26, nameIndex := 123, descriptorIndex := 97, attributes := #[] }, { accessFlags := 26, nameIndex := 125, descriptorIndex := 97, attributes := #[] }, { accessFlags := 26, nameIndex := 127, descriptorIndex := 97, attributes := #[] }, { accessFlags := 26, nameIndex := 129, descriptorIndex := 97, attributes := #[] }, { accessFlags := 26, nameIndex := 131, descriptorIndex := 97, attributes := #[] }])
  fields := #[{ name := "LENGTH", type := .int, accessFlags := 25, slot := 0, constantValue := 0 }, { name := "ALIGNMENT", type := .int, accessFlags := 25, slot := 1, constantValue := 0 }, { name := "CURRENT_VERSION", type := .byte, accessFlags := 25, slot := 2, constantValue := 0 }, { name := "BEGIN_FLAG", type := .byte, accessFlags := 25, slot := 3, constantValue := 0 }, { name := "END_FLAG", type := .byte, accessFlags := 25, slot := 4, constantValue := 0 }, { name := "UNFRAGMENTED", type := .byte, accessFlags := 25, slot := 5, constantValue := 0 }, { name := "TYPE_PADDING", type := .short, accessFlags := 25, slot := 6, constantValue := 0 }, { name := "TYPE_DATA", type := .short, accessFlags := 25, slot := 7, constantValue := 0 }, { name := "FRAME_LENGTH_OFFSET", type := .int, accessFlags := 26, slot := 8, constantValue := 0 }, { name := "VERSION_OFFSET", type := .int, accessFlags := 26, slot := 9, constantValue := 0 }, { name := "FLAGS_OFFSET", type := .int, accessFlags := 26, slot := 10, constantValue := 0 }, { name := "TYPE_OFFSET", type := .int, accessFlags := 26, slot := 11, constantValue := 0 }, { name := "TERM_OFFSET_OFFSET", type := .int, accessFlags := 26, slot := 12, constantValue := 0 }, { name := "SESSION_ID_OFFSET", type := .int, accessFlags := 26, slot := 13, constantValue := 0 }, { name := "STREAM_ID_OFFSET", type := .int, accessFlags := 26, slot := 14, constantValue := 0 }, { name := "TERM_ID_OFFSET", type := .int, accessFlags := 26, slot := 15, constantValue := 0 }, { name := "RESERVED_VALUE_OFFSET", type := .int, accessFlags := 26, slot := 16, constantValue := 0 }, { name := "MAX_ALIGNABLE_LENGTH", type := .int, accessFlags := 26, slot := 17, constantValue := 0 }]
  methods := #[k2m0, k2m1]
  instanceTypes := #[]
  staticTypes := #[.int, .int, .byte, .byte, .byte, .byte, .short, .short, .int, .int, .int, .int, .int, .int, .int, .int, .int, .int]
  resolved := Array.replicate 178 none
  statics := none }

def pool3 : Array CpInfo := pool [(1, u "java/lang/Cloneable"), (0, .class_ 1), (0, u "java/lang/Object"), (0, .class_ 3)] 3

/-- java/lang/Cloneable -/
def k3 : Class := { plain "java/lang/Cloneable" (some 0) with
  accessFlags := 1537
  interfaces := #[]
  cf := some (fileOf pool3 2 #[] #[] 1537 4 #[] #[])
  fields := #[]
  methods := #[]
  instanceTypes := #[]
  staticTypes := #[]
  resolved := Array.replicate 8 none
  statics := none }

def pool4 : Array CpInfo := pool [(1, u "java/io/Serializable"), (0, .class_ 1), (0, u "java/lang/Object"), (0, .class_ 3)] 3

/-- java/io/Serializable -/
def k4 : Class := { plain "java/io/Serializable" (some 0) with
  accessFlags := 1537
  interfaces := #[]
  cf := some (fileOf pool4 2 #[] #[] 1537 4 #[] #[])
  fields := #[]
  methods := #[]
  instanceTypes := #[]
  staticTypes := #[]
  resolved := Array.replicate 8 none
  statics := none }

/-- the primitive byte -/
def k5 : Class := { plain "byte" none with kind := .primitive 'B', accessFlags := 0x411 }
/-- [B -/
def k6 : Class := { plain "[B" (some 0) with kind := .array 5 .byte, interfaces := #[3, 4], accessFlags := 1041 }

/-- the primitive int -/
def k7 : Class := { plain "int" none with kind := .primitive 'I', accessFlags := 0x411 }
/-- [I -/
def k8 : Class := { plain "[I" (some 0) with kind := .array 7 .int, interfaces := #[3, 4], accessFlags := 1041 }

def heap : Heap := #[]
def classes : Array Class := #[k0, k1, k2, k3, k4, k5, k6, k7, k8]
def interned : List (Array UInt16 × Addr) := []
def slotsUsed : Nat := 0
def theMethod : MethodId := ⟨1, 1⟩
def args0 : Array Value := #[.int 5, .int 7, .int 3]
def aboutOver (below : List Frame) : State where
  vm := { classes := classes, interned := interned.toArray }
  heap := heap
  slotsUsed := slotsUsed
  threads := #[{ frames := .invoking theMethod args0 :: below }]
def below0 : List Frame := [.native { method := ⟨0, 0⟩, args := #[] }]
def about1 : State := aboutOver below0
def p0 : Program := .bare "" "" ""
def e0 : Env := launch0.env 0 0 0
theorem w_frames : about1.frames = Frame.invoking theMethod args0 :: below0 := rfl
set_option maxRecDepth 65536 in
theorem w_args : argsFit about1.vm theMethod args0 = true := by decide +kernel
set_option maxRecDepth 65536 in
theorem w_heap : heapFits about1 = true := by decide +kernel
set_option maxRecDepth 65536 in
theorem w_runnable : about1.curStatus? = some .runnable := by decide +kernel
set_option maxRecDepth 65536 in
theorem w_alone : about1.alone = true := by decide +kernel
set_option maxRecDepth 65536 in
theorem w_named : about1.methodNamed? x = some theMethod := by decide +kernel
set_option maxRecDepth 65536 in
theorem w_hears : about1.hears theMethod below0 = true := by decide +kernel
set_option maxRecDepth 65536 in
theorem w_ripe : about1.ripe theMethod args0 below0 = true := by decide +kernel
theorem w_running : about1.status = .running := rfl
set_option maxRecDepth 65536 in
theorem w_room : about1.hasRoom e0.platform room_1 = true :=
  launch0.hasRoom_least _ room_1 (by decide +kernel) (by decide +kernel) (by decide +kernel) (by decide +kernel) (by decide +kernel) (by decide +kernel)
theorem allAtoms_all (ts : List Jvm.Cond) (a : Array Jvm.Value) (st : Jvm.State) : (allAtoms ts).before a st = ts.all (fun c => c.before a st) := by
  induction ts with
  | nil => rfl
  | cons c t ih =>
    show (Jvm.Cond.and c (allAtoms t)).before a st = _
    rw [Jvm.Cond.before_and, ih, List.all_cons]
def words1 : List Jvm.Cond := Jvm.Cond.code x code maxLocals ret :: tables_1
/-- a 'code' word, met by the world's own term for the bytes: nothing is compared byte by byte -/
theorem code_word {y : MethodName} {bytes : ByteArray} {mx : Nat} {rt : Option FieldType} {a : Array Value} {s : State} {m : MethodId} {meth : Method} {c : Code} (h1 : s.methodNamed? y = some m) (h2 : s.vm.method? m = some meth) (h3 : meth.code = some c) (h4 : c.code = bytes)
    (h5 : (c.maxLocals == mx && c.exceptionTable.isEmpty && decide (c.maxStack ≤ mostOperands) && decide (meth.sig.returnType = rt) && !meth.locks && decide (parseMethodDescriptor y.desc = some meth.sig)) = true) : (Jvm.Cond.code y bytes mx rt).before a s = true := by
  simp only [Bool.and_eq_true, beq_iff_eq, Bool.not_eq_true', decide_eq_true_eq] at h5
  obtain ⟨⟨⟨⟨⟨g1, g2⟩, g3⟩, g4⟩, g5⟩, g6⟩ := h5
  simp [Cond.before, Cond.holds, Cond.value, h1, h2, h3, h4, g1, g2, g3, g4, g5, g6]
def isCode : Jvm.Cond → Bool
  | .code _ _ _ _ => true
  | _ => false
theorem all_split {L : List Jvm.Cond} {P : Jvm.Cond → Bool} (h1 : L.all (fun c => isCode c || P c) = true) (h2 : ∀ c ∈ L.filter isCode, P c = true) : L.all P = true := by
  refine List.all_eq_true.mpr fun c hc => ?_
  have h := List.all_eq_true.mp h1 c hc
  rcases Bool.eq_false_or_eq_true (isCode c) with hi | hi
  · exact h2 c (List.mem_filter.mpr ⟨hc, hi⟩)
  · simpa [hi] using h
set_option maxRecDepth 65536 in
theorem w_c0 : (Jvm.Cond.code x code maxLocals ret).before args0 about1 = true := code_word (m := ⟨1, 1⟩) (meth := k1m1) (c := k1c1) (by decide +kernel) rfl rfl rfl (by decide +kernel)
set_option maxRecDepth 65536 in
theorem w_c1 : (Jvm.Cond.code ({ cls := "com/example/fifo3/fifo3/logbuffer/FrameHeader", name := "head", desc := "(IBS)J" } : Jvm.MethodName) prog_95_method_5_code (3 : Nat) (Option.some Jvm.ClassFile.FieldType.long)).before args0 about1 = true := code_word (m := ⟨2, 1⟩) (meth := k2m1) (c := k2c1) (by decide +kernel) rfl rfl rfl (by decide +kernel)
def codes1 : List Jvm.Cond := [Jvm.Cond.code x code maxLocals ret, Jvm.Cond.code ({ cls := "com/example/fifo3/fifo3/logbuffer/FrameHeader", name := "head", desc := "(IBS)J" } : Jvm.MethodName) prog_95_method_5_code (3 : Nat) (Option.some Jvm.ClassFile.FieldType.long)]
set_option maxRecDepth 65536 in
theorem codes_eq : words1.filter isCode = codes1 := rfl
theorem w_codes : ∀ c ∈ words1.filter isCode, c.before args0 about1 = true := by
  rw [codes_eq]
  intro c hc
  simp only [codes1, List.mem_cons, List.not_mem_nil, or_false] at hc
  rcases hc with rfl | rfl
  · exact w_c0
  · exact w_c1
set_option maxRecDepth 65536 in
theorem w_t1 : words1.all (fun c => isCode c || c.before args0 about1) = true := by decide +kernel
theorem w_tables : (allAtoms (Jvm.Cond.code x code maxLocals ret :: tables_1)).before args0 about1 = true := by
  rw [allAtoms_all]
  show words1.all (fun c => c.before args0 about1) = true
  refine all_split ?_ w_codes
  rw [w_t1]
set_option maxRecDepth 65536 in
theorem w_case : (Jvm.Cond.and given_1 narrow_1).before args0 about1 = true := by decide +kernel
theorem w_applies : (headSpec (Jvm.Cond.code x code maxLocals ret :: tables_1) room_1).applies x e0.platform about1 = true :=
  (Spec.applies_iff w_frames).mpr ⟨w_running, w_runnable, w_alone, w_named, w_hears, w_ripe, w_room, w_tables⟩
theorem atStart : AtStart classFile x code maxLocals ret World_1 tables_1 room_1 Calls_1 rest_1 Pre_1 launch0 p0 e0 about1 theMethod args0 below0 :=
  ⟨lists_1, trivial, launch0.admits_env _ _ _, launch0.least_env, fairChoices_fair.cas, fairChoices_fair.clock, w_frames, w_args, w_heap, w_applies, trivial, trivial, w_case⟩
end start1
theorem witness_1 : WitnessClaimed_1 := ⟨start1.p0, start1.e0, start1.about1, start1.theMethod, start1.args0, start1.below0, start1.atStart⟩
end Jvm.Pilot.@@N@@
