import JvmDerived
import JvmDerived.Pilot.@@N@@Statement
import JvmDerived.Pilot.@@N@@Code
set_option linter.unusedVariables false
set_option linter.unusedSimpArgs false

namespace Jvm.RoadKit
open Sem ClassFile Op Lib Jvm.Stand Jvm.Free Jvm.LawKit
section New
variable {p : Program} {l : Launch} {e : Env} {R : Room} {s : State} {m : MethodId} {args : Array Value} {below : List Frame} {meth : Method} {c : Code} {T : State} {locs : List Loc} {cells slots : Nat}
theorem retI (X : Stand p l e R s m args below meth c T locs cells slots) (hx : p.tables.exec = Jvm.exec) {pc : Nat} {Ls : Array Slot} {z : Int32} {rest : List Value} (hret : meth.sig.returnType = some .int) (hd : decode c.code pc = .ok (.ireturn, 1)) {fs : List Frame}
    (hl : ∀ (f : JFrame) (acts : List Action), f.method = m → f.locked = none → f.entered = [] → (doReturn e (T.setTop f) acts (some (.int z))).1 = T.setFrames fs) : Steps p.tables e below (T.setTop (mkF m pc Ls (.int z :: rest))) (T.setFrames fs) := by
  have hm' : T.vm.method? m = some meth := X.method'
  have hn : narrow .int (.int z) = .int z := rfl
  show Steps p.tables e below (T.setTop { method := m, pc := pc, locals := Ls, stack := _ :: rest, locked := none }) _
  jvm_step X.here [X.here.top, hx, hd, hm', hret, hn]
  first | (intro acts; rw [hl _ acts rfl rfl rfl]) | rw [hl _ _ rfl rfl rfl]
  exact Steps.refl _
end New
end Jvm.RoadKit
namespace Jvm.Pilot.@@N@@
open Jvm Jvm.ClassFile Sem Op Lib Jvm.Free Jvm.Stand Jvm.LawKit Jvm.RoadKit Bundle Jvm.Pilot.@@N@@.Jvm.D
/-- from A the run comes to B -/
abbrev Wy (tb : Tables) (e : Env) (below : List Frame) (A B : State) : Prop := ∀ t, Steps tb e below B t → Steps tb e below A t
theorem own_nat {c : Int32} (h : 0 ≤ c.toInt) : c = Int32.ofNat c.toInt.toNat := by
  apply Int32.toInt_inj.mp
  have h1 := c.toInt_lt
  rw [Int32.toInt_ofNat_of_lt (by omega)]
  omega
theorem own_lt {a b : Int32} : a < b ↔ a.toInt < b.toInt := Int32.lt_iff_toInt_lt
theorem own_ltF (k : Nat) (c : Int32) (h0 : 0 ≤ c.toInt) (h1 : c.toInt < k) : ∃ n : Fin k, c = Int32.ofNat n.val :=
  ⟨⟨c.toInt.toNat, by omega⟩, own_nat h0⟩
theorem own_rem (x y : Int32) (hx : 0 ≤ x.toInt) (hy : 0 < y.toInt) : (x - (x / y) * y).toInt = x.toInt % y.toInt := by
  have h1 := (c_idiv x y y.toInt rfl (by intro h; rw [h] at hy; exact absurd hy (by decide))).1 hx
  have h2 := c_imul (x / y) y
  have h3 := c_isub x ((x / y) * y)
  have r1 := rng32 ((x / y) * y)
  have r2 := rng32 (x - (x / y) * y)
  have r3 := rng32 x
  have r4 := rng32 y
  have e : x.toInt / y.toInt * y.toInt = x.toInt - x.toInt % y.toInt := by
    have := Int.emod_def x.toInt y.toInt
    rw [Int.mul_comm] at this
    omega
  rw [h1, e] at h2
  have b1 := Int.emod_nonneg x.toInt (show y.toInt ≠ 0 by omega)
  have b2 := Int.emod_lt_of_pos x.toInt hy
  have b3 : x.toInt % y.toInt ≤ x.toInt := by
    by_cases q : x.toInt < y.toInt
    · rw [Int.emod_eq_of_lt hx q]; omega
    · omega
  omega
theorem own_nm {a b : Addr} (h : a ≠ b) : a ∉ [b] := by simpa using h
theorem own_nm2 {a b c : Addr} (h : a ≠ b) (h2 : a ≠ c) : a ∉ [b, c] := by simp [h, h2]

def F1 (ax : Int32) (bx : Int32) : Int64 := ((((((((((3 : Int32) + ax) + (8 : Int32)) + (8 : Int32)) + (4 : Int32)) + (8 : Int32)) + (32 : Int32)) + bx) + (4 : Int32)).toInt64)
theorem d1_0 : decode prog_4_method_4_code 0 = .ok (.iconst 3, 1) := by decide +kernel
theorem d1_1 : decode prog_4_method_4_code 1 = .ok (.iload_n 0, 1) := by decide +kernel
theorem d1_2 : decode prog_4_method_4_code 2 = .ok (.iadd, 1) := by decide +kernel
theorem d1_3 : decode prog_4_method_4_code 3 = .ok (.bipush 8, 2) := by decide +kernel
theorem d1_5 : decode prog_4_method_4_code 5 = .ok (.iadd, 1) := by decide +kernel
theorem d1_6 : decode prog_4_method_4_code 6 = .ok (.bipush 8, 2) := by decide +kernel
theorem d1_8 : decode prog_4_method_4_code 8 = .ok (.iadd, 1) := by decide +kernel
theorem d1_9 : decode prog_4_method_4_code 9 = .ok (.iconst 4, 1) := by decide +kernel
theorem d1_10 : decode prog_4_method_4_code 10 = .ok (.iadd, 1) := by decide +kernel
theorem d1_11 : decode prog_4_method_4_code 11 = .ok (.bipush 8, 2) := by decide +kernel
theorem d1_13 : decode prog_4_method_4_code 13 = .ok (.iadd, 1) := by decide +kernel
theorem d1_14 : decode prog_4_method_4_code 14 = .ok (.bipush 32, 2) := by decide +kernel
theorem d1_16 : decode prog_4_method_4_code 16 = .ok (.iadd, 1) := by decide +kernel
theorem d1_17 : decode prog_4_method_4_code 17 = .ok (.iload_n 1, 1) := by decide +kernel
theorem d1_18 : decode prog_4_method_4_code 18 = .ok (.iadd, 1) := by decide +kernel
theorem d1_19 : decode prog_4_method_4_code 19 = .ok (.iconst 4, 1) := by decide +kernel
theorem d1_20 : decode prog_4_method_4_code 20 = .ok (.iadd, 1) := by decide +kernel
theorem d1_21 : decode prog_4_method_4_code 21 = .ok (.i2l, 1) := by decide +kernel
theorem d1_22 : decode prog_4_method_4_code 22 = .ok (.lreturn, 1) := by decide +kernel
theorem pn_com_example_leafpack_leafpack_ArchiveFormat : plainName "com/example/leafpack/leafpack/ArchiveFormat" = true := by first | (simp [plainName, overriddenIn]; done) | decide +kernel
theorem ef_rm1 (m : MethodId) (ax : Int32) (bx : Int32)  : entryFrame m #[(.int ax), (.int bx)] 2 = (mkF m 0 #[.val (.int ax), .val (.int bx)] []) := by first | (simp [entryFrame, mkF, argsToLocals, Value.category]; done) | rfl
def Q1 (Z : State) (ax : Int32) (bx : Int32) (h0 : Heap) (n0 : Nat) (v : Option Value) (h : Heap) (L : List Loc) : Prop := v = some (.long (F1 ax bx)) ∧ Fr n0 L ∧ h = h0
set_option maxRecDepth 65536 in
set_option maxHeartbeats 40000000 in
theorem rm1 (l : Launch) (Z : State) (a0 : Array Value) (hw : ∀ d ∈ tables_1, d.before a0 Z = true) (ws : List Jvm.Cond) (ax : Int32) (bx : Int32) (h0 : Heap) (n0 : Nat) (Z0 : n0 ≤ h0.size)  :
    MetFree l (⟨"com/example/leafpack/leafpack/ArchiveFormat", "fileHeaderBytes", "(II)J"⟩ : MethodName) (head1 (Jvm.Cond.code (⟨"com/example/leafpack/leafpack/ArchiveFormat", "fileHeaderBytes", "(II)J"⟩ : MethodName) prog_4_method_4_code 2 (some .long) :: ws) ({ frames := 0, cells := 0, slots := 0, locals := 0 } : Room)) (fun a U => a = #[(.int ax), (.int bx)] ∧ Z.Warmed39 U.vm ∧ U.heap = h0) (fun _ _ _ _ _ => True) (fun _ U o U' => ∃ v L, o = .returned v ∧ Q1 Z ax bx h0 n0 v U'.heap L ∧ FrameEnd U o U' L ({ frames := 0, cells := 0, slots := 0, locals := 0 } : Room).cells ({ frames := 0, cells := 0, slots := 0, locals := 0 } : Room).slots) := by
  refine MetFree.of_bodySF (plainFor_of_name pn_com_example_leafpack_leafpack_ArchiveFormat) hisR ?_
  intro p e s m args below meth c s₁ Bd hml0 hP hK
  obtain ⟨rfl, hZ, hh⟩ := hP
  have hx := Bd.exec
  have hby := Bd.bytes
  have hml : c.maxLocals = 2 := hml0
  have hown : s.vm.findClass "com/example/leafpack/leafpack/ArchiveFormat" = some m.cls := findClass_of_methodNamed Bd.named
  have hnm := (name_of_methodNamed Bd.named Bd.method).1
  have X0 : Stand p l e ({ frames := 0, cells := 0, slots := 0, locals := 0 } : Room) s m #[(.int ax), (.int bx)] below meth c s₁ [] 0 0 := Stand.of_body Bd
  have e0 : s₁.heap = h0 := by rw [← hh, Bd.state]; rfl
  have N0 := Fr.nil n0
  have P0 : Wy p.tables e below (s₁.setTop (entryFrame m #[(.int ax), (.int bx)] 2)) (s₁.setTop (mkF m 0 #[.val (.int ax), .val (.int bx)] [])) := fun t k => castTop (ef_rm1 m ax bx) k
  have P1 : Wy p.tables e below (s₁.setTop (entryFrame m #[(.int ax), (.int bx)] 2)) (s₁.setTop (mkF m 22 #[.val (.int ax), .val (.int bx)] [(.long ((((((((((3 : Int32) + ax) + (8 : Int32)) + (8 : Int32)) + (4 : Int32)) + (8 : Int32)) + (32 : Int32)) + bx) + (4 : Int32)).toInt64))])) := fun t k => P0 t (by
    show Steps p.tables e below (s₁.setTop (mkF m 0 #[.val (.int ax), .val (.int bx)] [])) _
    refine XS.iconst X0.here hx rfl (hb hby d1_0) ?_
    show Steps p.tables e below (s₁.setTop (mkF m 1 #[.val (.int ax), .val (.int bx)] [(.int (3 : Int32))])) _
    refine XS.iloadN X0.here hx rfl (hb hby d1_1) rfl  ?_
    show Steps p.tables e below (s₁.setTop (mkF m 2 #[.val (.int ax), .val (.int bx)] [(.int ax), (.int (3 : Int32))])) _
    refine XS.iadd X0.here hx rfl (hb hby d1_2) rfl ?_
    show Steps p.tables e below (s₁.setTop (mkF m 3 #[.val (.int ax), .val (.int bx)] [(.int ((3 : Int32) + ax))])) _
    refine XS.bipush X0.here hx rfl (hb hby d1_3) ?_
    show Steps p.tables e below (s₁.setTop (mkF m 5 #[.val (.int ax), .val (.int bx)] [(.int (8 : Int32)), (.int ((3 : Int32) + ax))])) _
    refine XS.iadd X0.here hx rfl (hb hby d1_5) rfl ?_
    show Steps p.tables e below (s₁.setTop (mkF m 6 #[.val (.int ax), .val (.int bx)] [(.int (((3 : Int32) + ax) + (8 : Int32)))])) _
    refine XS.bipush X0.here hx rfl (hb hby d1_6) ?_
    show Steps p.tables e below (s₁.setTop (mkF m 8 #[.val (.int ax), .val (.int bx)] [(.int (8 : Int32)), (.int (((3 : Int32) + ax) + (8 : Int32)))])) _
    refine XS.iadd X0.here hx rfl (hb hby d1_8) rfl ?_
    show Steps p.tables e below (s₁.setTop (mkF m 9 #[.val (.int ax), .val (.int bx)] [(.int ((((3 : Int32) + ax) + (8 : Int32)) + (8 : Int32)))])) _
    refine XS.iconst X0.here hx rfl (hb hby d1_9) ?_
    show Steps p.tables e below (s₁.setTop (mkF m 10 #[.val (.int ax), .val (.int bx)] [(.int (4 : Int32)), (.int ((((3 : Int32) + ax) + (8 : Int32)) + (8 : Int32)))])) _
    refine XS.iadd X0.here hx rfl (hb hby d1_10) rfl ?_
    show Steps p.tables e below (s₁.setTop (mkF m 11 #[.val (.int ax), .val (.int bx)] [(.int (((((3 : Int32) + ax) + (8 : Int32)) + (8 : Int32)) + (4 : Int32)))])) _
    refine XS.bipush X0.here hx rfl (hb hby d1_11) ?_
    show Steps p.tables e below (s₁.setTop (mkF m 13 #[.val (.int ax), .val (.int bx)] [(.int (8 : Int32)), (.int (((((3 : Int32) + ax) + (8 : Int32)) + (8 : Int32)) + (4 : Int32)))])) _
    refine XS.iadd X0.here hx rfl (hb hby d1_13) rfl ?_
    show Steps p.tables e below (s₁.setTop (mkF m 14 #[.val (.int ax), .val (.int bx)] [(.int ((((((3 : Int32) + ax) + (8 : Int32)) + (8 : Int32)) + (4 : Int32)) + (8 : Int32)))])) _
    refine XS.bipush X0.here hx rfl (hb hby d1_14) ?_
    show Steps p.tables e below (s₁.setTop (mkF m 16 #[.val (.int ax), .val (.int bx)] [(.int (32 : Int32)), (.int ((((((3 : Int32) + ax) + (8 : Int32)) + (8 : Int32)) + (4 : Int32)) + (8 : Int32)))])) _
    refine XS.iadd X0.here hx rfl (hb hby d1_16) rfl ?_
    show Steps p.tables e below (s₁.setTop (mkF m 17 #[.val (.int ax), .val (.int bx)] [(.int (((((((3 : Int32) + ax) + (8 : Int32)) + (8 : Int32)) + (4 : Int32)) + (8 : Int32)) + (32 : Int32)))])) _
    refine XS.iloadN X0.here hx rfl (hb hby d1_17) rfl  ?_
    show Steps p.tables e below (s₁.setTop (mkF m 18 #[.val (.int ax), .val (.int bx)] [(.int bx), (.int (((((((3 : Int32) + ax) + (8 : Int32)) + (8 : Int32)) + (4 : Int32)) + (8 : Int32)) + (32 : Int32)))])) _
    refine XS.iadd X0.here hx rfl (hb hby d1_18) rfl ?_
    show Steps p.tables e below (s₁.setTop (mkF m 19 #[.val (.int ax), .val (.int bx)] [(.int ((((((((3 : Int32) + ax) + (8 : Int32)) + (8 : Int32)) + (4 : Int32)) + (8 : Int32)) + (32 : Int32)) + bx))])) _
    refine XS.iconst X0.here hx rfl (hb hby d1_19) ?_
    show Steps p.tables e below (s₁.setTop (mkF m 20 #[.val (.int ax), .val (.int bx)] [(.int (4 : Int32)), (.int ((((((((3 : Int32) + ax) + (8 : Int32)) + (8 : Int32)) + (4 : Int32)) + (8 : Int32)) + (32 : Int32)) + bx))])) _
    refine XS.iadd X0.here hx rfl (hb hby d1_20) rfl ?_
    show Steps p.tables e below (s₁.setTop (mkF m 21 #[.val (.int ax), .val (.int bx)] [(.int (((((((((3 : Int32) + ax) + (8 : Int32)) + (8 : Int32)) + (4 : Int32)) + (8 : Int32)) + (32 : Int32)) + bx) + (4 : Int32)))])) _
    refine XS.i2l X0.here hx rfl (hb hby d1_21) rfl ?_
    exact k)
  obtain ⟨fs, hr, hrun, hended, hW, hsame⟩ := X0.leave (v := some (.long ((((((((((3 : Int32) + ax) + (8 : Int32)) + (8 : Int32)) + (4 : Int32)) + (8 : Int32)) + (32 : Int32)) + bx) + (4 : Int32)).toInt64))) (fun h => by rw [Bd.returns] at h; cases h)
  refine ⟨_, _, P1 _ ?_, hrun, hended, _, _, rfl, ?_, ⟨_, rfl⟩, hW, hsame.mono (by decide) (by decide)⟩
  · show Steps p.tables e below (s₁.setTop (mkF m 22 #[.val (.int ax), .val (.int bx)] [(.long ((((((((((3 : Int32) + ax) + (8 : Int32)) + (8 : Int32)) + (4 : Int32)) + (8 : Int32)) + (32 : Int32)) + bx) + (4 : Int32)).toInt64))])) _
    exact X0.lreturnOut hx Bd.returns (hb hby d1_22) hr
  · show Q1 Z ax bx h0 n0 _ s₁.heap _
    rw [e0]
    exact ⟨congrArg (fun z => some (Value.long z)) (show _ = F1 ax bx from by rfl), N0, rfl⟩
theorem own_F (a b : Int32) (a0 : 0 ≤ a.toInt) (a1 : a.toInt < 65536) (b0 : 0 ≤ b.toInt) (b1 : b.toInt < 257) : (F1 a b).toInt = 67 + a.toInt + b.toInt := by
  unfold F1
  rw [c_i2l]
  have e3 : (3 : Int32).toInt = 3 := rfl
  have e8 : (8 : Int32).toInt = 8 := rfl
  have e4 : (4 : Int32).toInt = 4 := rfl
  have e32 : (32 : Int32).toInt = 32 := rfl
  have h1 := c_iadd 3 a
  have r1 := rng32 (3 + a)
  generalize (3 + a) = x1 at *
  have h2 := c_iadd x1 8
  have r2 := rng32 (x1 + 8)
  generalize (x1 + 8) = x2 at *
  have h3 := c_iadd x2 8
  have r3 := rng32 (x2 + 8)
  generalize (x2 + 8) = x3 at *
  have h4 := c_iadd x3 4
  have r4 := rng32 (x3 + 4)
  generalize (x3 + 4) = x4 at *
  have h5 := c_iadd x4 8
  have r5 := rng32 (x4 + 8)
  generalize (x4 + 8) = x5 at *
  have h6 := c_iadd x5 32
  have r6 := rng32 (x5 + 32)
  generalize (x5 + 32) = x6 at *
  have h7 := c_iadd x6 b
  have r7 := rng32 (x6 + b)
  generalize (x6 + b) = x7 at *
  have h8 := c_iadd x7 4
  have r8 := rng32 (x7 + 4)
  omega
theorem own_rngs {ax bx a b : Int32} (ha : a = (ax &&& (65535 : Int32))) (hb : b = ((bx &&& (2147483647 : Int32)) - ((bx &&& (2147483647 : Int32)) / (257 : Int32)) * (257 : Int32))) :
    0 ≤ a.toInt ∧ a.toInt < 65536 ∧ 0 ≤ b.toInt ∧ b.toInt < 257 := by
  have h1 := c_and bx 2147483647 (by decide)
  have h2 := own_rem (bx &&& 2147483647) 257 h1.1 (by decide)
  rw [← hb, show (257 : Int32).toInt = 257 from rfl] at h2
  have h3 := c_and ax 65535 (by decide)
  rw [← ha, show (65535 : Int32).toInt = 65535 from rfl] at h3
  omega
theorem own_2 {ax bx a b : Int32} {got empty : Int64} (ha : a = (ax &&& (65535 : Int32))) (hb : b = ((bx &&& (2147483647 : Int32)) - ((bx &&& (2147483647 : Int32)) / (257 : Int32)) * (257 : Int32))) (hg : got = F1 a b) (he : empty = F1 (0 : Int32) (0 : Int32)) :
    lcmpW empty (67 : Int64) = (0 : Int32) := by
  subst he
  exact (lw_eq _ _).mpr (by decide)
theorem own_3 {ax bx a b : Int32} {got empty : Int64} (ha : a = (ax &&& (65535 : Int32))) (hb : b = ((bx &&& (2147483647 : Int32)) - ((bx &&& (2147483647 : Int32)) / (257 : Int32)) * (257 : Int32))) (hg : got = F1 a b) (he : empty = F1 (0 : Int32) (0 : Int32)) :
    lcmpW got (((67 : Int64) + (a.toInt64)) + (b.toInt64)) = (0 : Int32) := by
  refine (lw_eq _ _).mpr (Int64.toInt_inj.mp ?_)
  obtain ⟨k1, k2, k3, k4⟩ := own_rngs ha hb
  rw [hg, own_F a b k1 k2 k3 k4]
  have h1 := c_ladd 67 a.toInt64
  have h2 := c_ladd (67 + a.toInt64) b.toInt64
  have r1 := rng64 (67 + a.toInt64)
  have r2 := rng64 (67 + a.toInt64 + b.toInt64)
  have e : (67 : Int64).toInt = 67 := rfl
  rw [c_i2l] at h1 h2
  omega
theorem own_4 {ax bx a b : Int32} {got empty : Int64} (ha : a = (ax &&& (65535 : Int32))) (hb : b = ((bx &&& (2147483647 : Int32)) - ((bx &&& (2147483647 : Int32)) / (257 : Int32)) * (257 : Int32))) (hg : got = F1 a b) (he : empty = F1 (0 : Int32) (0 : Int32)) :
    lcmpW (got - empty) ((a.toInt64) + (b.toInt64)) = (0 : Int32) := by
  refine (lw_eq _ _).mpr (Int64.toInt_inj.mp ?_)
  obtain ⟨k1, k2, k3, k4⟩ := own_rngs ha hb
  have h0 := own_F a b k1 k2 k3 k4
  rw [← hg] at h0
  have h1 : empty.toInt = 67 := by subst he; decide
  have h2 := c_lsub got empty
  have h3 := c_ladd a.toInt64 b.toInt64
  have r1 := rng64 (got - empty)
  have r2 := rng64 (a.toInt64 + b.toInt64)
  rw [c_i2l, c_i2l] at h3
  omega

theorem pn_com_example_leafpack_leafpack_ArchiveFormatFileHeaderBytesPinLaw : plainName "com/example/leafpack/leafpack/ArchiveFormatFileHeaderBytesPinLaw" = true := by first | (simp [plainName, overriddenIn]; done) | decide +kernel
theorem pd_lIIrJ : parseMethodDescriptor "(II)J" = some ⟨[.int, .int], some .long⟩ := by decide +kernel
theorem ef_rm0 (m : MethodId) (ax : Int32) (bx : Int32)  : entryFrame m #[(.int ax), (.int bx)] maxLocals = (mkF m 0 #[.val (.int ax), .val (.int bx), .unset, .unset, .unset, .unset, .unset, .unset, .unset, .unset] []) := by first | (simp [entryFrame, mkF, argsToLocals, Value.category, maxLocals]; done) | rfl
def Q0 (Z : State) (ax bx : Int32) (h0 : Heap) (n0 : Nat) (v : Option Value) (h : Heap) (L : List Loc) : Prop := v = some (.int 1) ∧ Fr n0 L
set_option maxRecDepth 65536 in
set_option maxHeartbeats 40000000 in
theorem rm0 (l : Launch) (Z : State) (a0 : Array Value) (hw : ∀ d ∈ tables_1, d.before a0 Z = true) (ws : List Jvm.Cond) (ax bx : Int32) (h0 : Heap) (n0 : Nat) (Z0 : n0 ≤ h0.size)  :
    MetFree l x (head1 (Jvm.Cond.code x code maxLocals ret :: ws) room_1) (fun a U => a = #[(.int ax), (.int bx)] ∧ Z.Warmed39 U.vm ∧ U.heap = h0) (fun _ _ _ _ _ => True) (fun _ U o U' => ∃ v L, o = .returned v ∧ Q0 Z ax bx h0 n0 v U'.heap L ∧ FrameEnd U o U' L room_1.cells room_1.slots) := by
  refine MetFree.of_bodySF (plainFor_of_name pn_com_example_leafpack_leafpack_ArchiveFormatFileHeaderBytesPinLaw) hisR ?_
  intro p e s m args below meth c s₁ Bd hml0 hP hK
  obtain ⟨rfl, hZ, hh⟩ := hP
  have hx := Bd.exec
  have hby := Bd.bytes
  have hml : c.maxLocals = 10 := hml0
  have hown : s.vm.findClass "com/example/leafpack/leafpack/ArchiveFormatFileHeaderBytesPinLaw" = some m.cls := findClass_of_methodNamed Bd.named
  have hnm := (name_of_methodNamed Bd.named Bd.method).1
  have X0 : Stand p l e room_1 s m #[(.int ax), (.int bx)] below meth c s₁ [] 0 0 := Stand.of_body Bd
  have e0 : s₁.heap = h0 := by rw [← hh, Bd.state]; rfl
  have N0 := Fr.nil n0
  have P0 : Wy p.tables e below (s₁.setTop (entryFrame m #[(.int ax), (.int bx)] maxLocals)) (s₁.setTop (mkF m 0 #[.val (.int ax), .val (.int bx), .unset, .unset, .unset, .unset, .unset, .unset, .unset, .unset] [])) := fun t k => castTop (ef_rm0 m ax bx) k
  have P1 : Wy p.tables e below (s₁.setTop (entryFrame m #[(.int ax), (.int bx)] maxLocals)) (s₁.setTop (mkF m 5 #[.val (.int ax), .val (.int bx), .val (.int (ax &&& (65535 : Int32))), .unset, .unset, .unset, .unset, .unset, .unset, .unset] [])) := fun t k => P0 t (by
    show Steps p.tables e below (s₁.setTop (mkF m 0 #[.val (.int ax), .val (.int bx), .unset, .unset, .unset, .unset, .unset, .unset, .unset, .unset] [])) _
    refine XS.iloadN X0.here hx rfl (hb hby at_0) rfl  ?_
    show Steps p.tables e below (s₁.setTop (mkF m 1 #[.val (.int ax), .val (.int bx), .unset, .unset, .unset, .unset, .unset, .unset, .unset, .unset] [(.int ax)])) _
    refine X0.ldcInt hx hown (mvT hZ (hw _ (List.mem_of_getElem? (i := 0) rfl))) (g := (mkF m 1 #[.val (.int ax), .val (.int bx), .unset, .unset, .unset, .unset, .unset, .unset, .unset, .unset] [(.int ax)])) rfl (hb hby at_1) _ ?_
    show Steps p.tables e below (s₁.setTop (mkF m 3 #[.val (.int ax), .val (.int bx), .unset, .unset, .unset, .unset, .unset, .unset, .unset, .unset] [(.int (65535 : Int32)), (.int ax)])) _
    refine XS.iand X0.here hx rfl (hb hby at_3) rfl ?_
    show Steps p.tables e below (s₁.setTop (mkF m 4 #[.val (.int ax), .val (.int bx), .unset, .unset, .unset, .unset, .unset, .unset, .unset, .unset] [(.int (ax &&& (65535 : Int32)))])) _
    refine XS.istoreN X0.here hx rfl (hb hby at_4) rfl (l' := #[.val (.int ax), .val (.int bx), .val (.int (ax &&& (65535 : Int32))), .unset, .unset, .unset, .unset, .unset, .unset, .unset]) rfl ?_
    exact k)
  obtain ⟨v2, hv2⟩ : ∃ z : Int32, z = (ax &&& (65535 : Int32)) := ⟨_, rfl⟩
  have P3 : Wy p.tables e below (s₁.setTop (entryFrame m #[(.int ax), (.int bx)] maxLocals)) (s₁.setTop (mkF m 5 #[.val (.int ax), .val (.int bx), .val (.int v2), .unset, .unset, .unset, .unset, .unset, .unset, .unset] [])) := fun t k => by subst hv2; exact P1 t k
  have P4 : Wy p.tables e below (s₁.setTop (entryFrame m #[(.int ax), (.int bx)] maxLocals)) (s₁.setTop (mkF m 14 #[.val (.int ax), .val (.int bx), .val (.int v2), .val (.int ((bx &&& (2147483647 : Int32)) - ((bx &&& (2147483647 : Int32)) / (257 : Int32)) * (257 : Int32))), .unset, .unset, .unset, .unset, .unset, .unset] [])) := fun t k => P3 t (by
    show Steps p.tables e below (s₁.setTop (mkF m 5 #[.val (.int ax), .val (.int bx), .val (.int v2), .unset, .unset, .unset, .unset, .unset, .unset, .unset] [])) _
    refine XS.iloadN X0.here hx rfl (hb hby at_5) rfl  ?_
    show Steps p.tables e below (s₁.setTop (mkF m 6 #[.val (.int ax), .val (.int bx), .val (.int v2), .unset, .unset, .unset, .unset, .unset, .unset, .unset] [(.int bx)])) _
    refine X0.ldcInt hx hown (mvT hZ (hw _ (List.mem_of_getElem? (i := 1) rfl))) (g := (mkF m 6 #[.val (.int ax), .val (.int bx), .val (.int v2), .unset, .unset, .unset, .unset, .unset, .unset, .unset] [(.int bx)])) rfl (hb hby at_6) _ ?_
    show Steps p.tables e below (s₁.setTop (mkF m 8 #[.val (.int ax), .val (.int bx), .val (.int v2), .unset, .unset, .unset, .unset, .unset, .unset, .unset] [(.int (2147483647 : Int32)), (.int bx)])) _
    refine XS.iand X0.here hx rfl (hb hby at_8) rfl ?_
    show Steps p.tables e below (s₁.setTop (mkF m 9 #[.val (.int ax), .val (.int bx), .val (.int v2), .unset, .unset, .unset, .unset, .unset, .unset, .unset] [(.int (bx &&& (2147483647 : Int32)))])) _
    refine XS.sipush X0.here hx rfl (hb hby at_9) ?_
    show Steps p.tables e below (s₁.setTop (mkF m 12 #[.val (.int ax), .val (.int bx), .val (.int v2), .unset, .unset, .unset, .unset, .unset, .unset, .unset] [(.int (257 : Int32)), (.int (bx &&& (2147483647 : Int32)))])) _
    refine XS.irem X0.here hx rfl (hb hby at_12) rfl (by decide) ?_
    show Steps p.tables e below (s₁.setTop (mkF m 13 #[.val (.int ax), .val (.int bx), .val (.int v2), .unset, .unset, .unset, .unset, .unset, .unset, .unset] [(.int ((bx &&& (2147483647 : Int32)) - ((bx &&& (2147483647 : Int32)) / (257 : Int32)) * (257 : Int32)))])) _
    refine XS.istoreN X0.here hx rfl (hb hby at_13) rfl (l' := #[.val (.int ax), .val (.int bx), .val (.int v2), .val (.int ((bx &&& (2147483647 : Int32)) - ((bx &&& (2147483647 : Int32)) / (257 : Int32)) * (257 : Int32))), .unset, .unset, .unset, .unset, .unset, .unset]) rfl ?_
    exact k)
  obtain ⟨v5, hv5⟩ : ∃ z : Int32, z = ((bx &&& (2147483647 : Int32)) - ((bx &&& (2147483647 : Int32)) / (257 : Int32)) * (257 : Int32)) := ⟨_, rfl⟩
  have P6 : Wy p.tables e below (s₁.setTop (entryFrame m #[(.int ax), (.int bx)] maxLocals)) (s₁.setTop (mkF m 14 #[.val (.int ax), .val (.int bx), .val (.int v2), .val (.int v5), .unset, .unset, .unset, .unset, .unset, .unset] [])) := fun t k => by subst hv5; exact P4 t k
  have P7 : Wy p.tables e below (s₁.setTop (entryFrame m #[(.int ax), (.int bx)] maxLocals)) (s₁.setTop (mkF m 21 #[.val (.int ax), .val (.int bx), .val (.int v2), .val (.int v5), .val (.long (67 : Int64)), .second, .unset, .unset, .unset, .unset] [(.int v5), (.int v2)])) := fun t k => P6 t (by
    show Steps p.tables e below (s₁.setTop (mkF m 14 #[.val (.int ax), .val (.int bx), .val (.int v2), .val (.int v5), .unset, .unset, .unset, .unset, .unset, .unset] [])) _
    refine X0.ldc2Long hx hown (mvT hZ (hw _ (List.mem_of_getElem? (i := 2) rfl))) (g := (mkF m 14 #[.val (.int ax), .val (.int bx), .val (.int v2), .val (.int v5), .unset, .unset, .unset, .unset, .unset, .unset] [])) rfl (hb hby at_14) _ ?_
    show Steps p.tables e below (s₁.setTop (mkF m 17 #[.val (.int ax), .val (.int bx), .val (.int v2), .val (.int v5), .unset, .unset, .unset, .unset, .unset, .unset] [(.long (67 : Int64))])) _
    refine XS.lstore X0.here hx rfl (hb hby at_17) rfl (l' := #[.val (.int ax), .val (.int bx), .val (.int v2), .val (.int v5), .val (.long (67 : Int64)), .second, .unset, .unset, .unset, .unset]) rfl ?_
    show Steps p.tables e below (s₁.setTop (mkF m 19 #[.val (.int ax), .val (.int bx), .val (.int v2), .val (.int v5), .val (.long (67 : Int64)), .second, .unset, .unset, .unset, .unset] [])) _
    refine XS.iloadN X0.here hx rfl (hb hby at_19) rfl  ?_
    show Steps p.tables e below (s₁.setTop (mkF m 20 #[.val (.int ax), .val (.int bx), .val (.int v2), .val (.int v5), .val (.long (67 : Int64)), .second, .unset, .unset, .unset, .unset] [(.int v2)])) _
    refine XS.iloadN X0.here hx rfl (hb hby at_20) rfl  ?_
    exact k)
  obtain ⟨_, _, ⟨T8, L8, k8, n8⟩, -, X8, ⟨Lc8, hQ8, l8, y8, z8⟩, st8⟩ := Jvm.LawKit.callS X0 hx (y := (⟨"com/example/leafpack/leafpack/ArchiveFormat", "fileHeaderBytes", "(II)J"⟩ : MethodName)) hown (mvT hZ (hw _ (List.mem_of_getElem? (i := 3) rfl))) (mvT hZ (hw _ (List.mem_of_getElem? (i := 4) rfl))) (mvT hZ (hw _ (List.mem_of_getElem? (i := 5) rfl))) (mvT hZ (hw _ (List.mem_of_getElem? (i := 6) rfl))) (by decide) (backOf (W := 0) (rm1 l Z a0 hw [] v2 v5 h0 n0 Z0 ) hZ (hw _ (List.mem_of_getElem? (i := 6) rfl)) (hw _ (List.mem_of_getElem? (i := 5) rfl)) (by decide) (by decide)) (g := (mkF m 21 #[.val (.int ax), .val (.int bx), .val (.int v2), .val (.int v5), .val (.long (67 : Int64)), .second, .unset, .unset, .unset, .unset] [(.int v5), (.int v2)])) rfl (by rw [hml]; rfl) (argsL := [(.int v2), (.int v5)]) (rest := []) (lenOf pd_lIIrJ rfl) rfl (by show 2 * 0 + _ ≤ _; exact Nat.le_of_eq rfl) (hb hby at_21) (fun _ _ => ⟨rfl, e0, (by decide : 0 + 0 ≤ _), (by decide : 0 + 0 ≤ _)⟩)
  dsimp only [Pt.U, Pt.locs, Pt.cells, Pt.slots] at X8 l8 y8 z8 st8 hQ8
  subst l8 y8 z8
  obtain ⟨rfl, N8q, e8⟩ := hQ8
  have N8 := Fr.app N0 N8q
  have P9 : Wy p.tables e below (s₁.setTop (entryFrame m #[(.int ax), (.int bx)] maxLocals)) (T8.setTop (mkF m 24 #[.val (.int ax), .val (.int bx), .val (.int v2), .val (.int v5), .val (.long (67 : Int64)), .second, .unset, .unset, .unset, .unset] [(.long (F1 v2 v5))])) := fun t k => P7 t (st8 _ k)
  have P10 : Wy p.tables e below (s₁.setTop (entryFrame m #[(.int ax), (.int bx)] maxLocals)) (T8.setTop (mkF m 26 #[.val (.int ax), .val (.int bx), .val (.int v2), .val (.int v5), .val (.long (67 : Int64)), .second, .val (.long (F1 v2 v5)), .second, .unset, .unset] [])) := fun t k => P9 t (by
    show Steps p.tables e below (T8.setTop (mkF m 24 #[.val (.int ax), .val (.int bx), .val (.int v2), .val (.int v5), .val (.long (67 : Int64)), .second, .unset, .unset, .unset, .unset] [(.long (F1 v2 v5))])) _
    refine XS.lstore X8.here hx rfl (hb hby at_24) rfl (l' := #[.val (.int ax), .val (.int bx), .val (.int v2), .val (.int v5), .val (.long (67 : Int64)), .second, .val (.long (F1 v2 v5)), .second, .unset, .unset]) rfl ?_
    exact k)
  obtain ⟨v11, hv11⟩ : ∃ z : Int64, z = (F1 v2 v5) := ⟨_, rfl⟩
  have P12 : Wy p.tables e below (s₁.setTop (entryFrame m #[(.int ax), (.int bx)] maxLocals)) (T8.setTop (mkF m 26 #[.val (.int ax), .val (.int bx), .val (.int v2), .val (.int v5), .val (.long (67 : Int64)), .second, .val (.long v11), .second, .unset, .unset] [])) := fun t k => by subst hv11; exact P10 t k
  have P13 : Wy p.tables e below (s₁.setTop (entryFrame m #[(.int ax), (.int bx)] maxLocals)) (T8.setTop (mkF m 28 #[.val (.int ax), .val (.int bx), .val (.int v2), .val (.int v5), .val (.long (67 : Int64)), .second, .val (.long v11), .second, .unset, .unset] [(.int (0 : Int32)), (.int (0 : Int32))])) := fun t k => P12 t (by
    show Steps p.tables e below (T8.setTop (mkF m 26 #[.val (.int ax), .val (.int bx), .val (.int v2), .val (.int v5), .val (.long (67 : Int64)), .second, .val (.long v11), .second, .unset, .unset] [])) _
    refine XS.iconst X8.here hx rfl (hb hby at_26) ?_
    show Steps p.tables e below (T8.setTop (mkF m 27 #[.val (.int ax), .val (.int bx), .val (.int v2), .val (.int v5), .val (.long (67 : Int64)), .second, .val (.long v11), .second, .unset, .unset] [(.int (0 : Int32))])) _
    refine XS.iconst X8.here hx rfl (hb hby at_27) ?_
    exact k)
  obtain ⟨_, _, ⟨T14, L14, k14, n14⟩, -, X14, ⟨Lc14, hQ14, l14, y14, z14⟩, st14⟩ := Jvm.LawKit.callS X8 hx (y := (⟨"com/example/leafpack/leafpack/ArchiveFormat", "fileHeaderBytes", "(II)J"⟩ : MethodName)) hown (mvT hZ (hw _ (List.mem_of_getElem? (i := 3) rfl))) (mvT hZ (hw _ (List.mem_of_getElem? (i := 4) rfl))) (mvT hZ (hw _ (List.mem_of_getElem? (i := 5) rfl))) (mvT hZ (hw _ (List.mem_of_getElem? (i := 6) rfl))) (by decide) (backOf (W := 0) (rm1 l Z a0 hw [] (0 : Int32) (0 : Int32) h0 n0 Z0 ) hZ (hw _ (List.mem_of_getElem? (i := 6) rfl)) (hw _ (List.mem_of_getElem? (i := 5) rfl)) (by decide) (by decide)) (g := (mkF m 28 #[.val (.int ax), .val (.int bx), .val (.int v2), .val (.int v5), .val (.long (67 : Int64)), .second, .val (.long v11), .second, .unset, .unset] [(.int (0 : Int32)), (.int (0 : Int32))])) rfl (by rw [hml]; rfl) (argsL := [(.int (0 : Int32)), (.int (0 : Int32))]) (rest := []) (lenOf pd_lIIrJ rfl) rfl (by show 2 * 0 + _ ≤ _; exact Nat.le_of_eq rfl) (hb hby at_28) (fun _ _ => ⟨rfl, e8, (by decide : 0 + 0 ≤ _), (by decide : 0 + 0 ≤ _)⟩)
  dsimp only [Pt.U, Pt.locs, Pt.cells, Pt.slots] at X14 l14 y14 z14 st14 hQ14
  subst l14 y14 z14
  obtain ⟨rfl, N14q, e14⟩ := hQ14
  have N14 := Fr.app N8 N14q
  have P15 : Wy p.tables e below (s₁.setTop (entryFrame m #[(.int ax), (.int bx)] maxLocals)) (T14.setTop (mkF m 31 #[.val (.int ax), .val (.int bx), .val (.int v2), .val (.int v5), .val (.long (67 : Int64)), .second, .val (.long v11), .second, .unset, .unset] [(.long (F1 (0 : Int32) (0 : Int32)))])) := fun t k => P13 t (st14 _ k)
  have P16 : Wy p.tables e below (s₁.setTop (entryFrame m #[(.int ax), (.int bx)] maxLocals)) (T14.setTop (mkF m 33 #[.val (.int ax), .val (.int bx), .val (.int v2), .val (.int v5), .val (.long (67 : Int64)), .second, .val (.long v11), .second, .val (.long (F1 (0 : Int32) (0 : Int32))), .second] [])) := fun t k => P15 t (by
    show Steps p.tables e below (T14.setTop (mkF m 31 #[.val (.int ax), .val (.int bx), .val (.int v2), .val (.int v5), .val (.long (67 : Int64)), .second, .val (.long v11), .second, .unset, .unset] [(.long (F1 (0 : Int32) (0 : Int32)))])) _
    refine XS.lstore X14.here hx rfl (hb hby at_31) rfl (l' := #[.val (.int ax), .val (.int bx), .val (.int v2), .val (.int v5), .val (.long (67 : Int64)), .second, .val (.long v11), .second, .val (.long (F1 (0 : Int32) (0 : Int32))), .second]) rfl ?_
    exact k)
  obtain ⟨v17, hv17⟩ : ∃ z : Int64, z = (F1 (0 : Int32) (0 : Int32)) := ⟨_, rfl⟩
  have P18 : Wy p.tables e below (s₁.setTop (entryFrame m #[(.int ax), (.int bx)] maxLocals)) (T14.setTop (mkF m 33 #[.val (.int ax), .val (.int bx), .val (.int v2), .val (.int v5), .val (.long (67 : Int64)), .second, .val (.long v11), .second, .val (.long v17), .second] [])) := fun t k => by subst hv17; exact P16 t k
  have P19 : Wy p.tables e below (s₁.setTop (entryFrame m #[(.int ax), (.int bx)] maxLocals)) (T14.setTop (mkF m 83 #[.val (.int ax), .val (.int bx), .val (.int v2), .val (.int v5), .val (.long (67 : Int64)), .second, .val (.long v11), .second, .val (.long v17), .second] [(.int (1 : Int32))])) := fun t k => P18 t (by
    show Steps p.tables e below (T14.setTop (mkF m 33 #[.val (.int ax), .val (.int bx), .val (.int v2), .val (.int v5), .val (.long (67 : Int64)), .second, .val (.long v11), .second, .val (.long v17), .second] [])) _
    refine XS.lload X14.here hx rfl (hb hby at_33) rfl  ?_
    show Steps p.tables e below (T14.setTop (mkF m 35 #[.val (.int ax), .val (.int bx), .val (.int v2), .val (.int v5), .val (.long (67 : Int64)), .second, .val (.long v11), .second, .val (.long v17), .second] [(.long (67 : Int64))])) _
    refine X14.ldc2Long hx hown (mvT hZ (hw _ (List.mem_of_getElem? (i := 2) rfl))) (g := (mkF m 35 #[.val (.int ax), .val (.int bx), .val (.int v2), .val (.int v5), .val (.long (67 : Int64)), .second, .val (.long v11), .second, .val (.long v17), .second] [(.long (67 : Int64))])) rfl (hb hby at_35) _ ?_
    show Steps p.tables e below (T14.setTop (mkF m 38 #[.val (.int ax), .val (.int bx), .val (.int v2), .val (.int v5), .val (.long (67 : Int64)), .second, .val (.long v11), .second, .val (.long v17), .second] [(.long (67 : Int64)), (.long (67 : Int64))])) _
    refine XS.lcmp X14.here hx rfl (hb hby at_38) rfl ?_
    show Steps p.tables e below (T14.setTop (mkF m 39 #[.val (.int ax), .val (.int bx), .val (.int v2), .val (.int v5), .val (.long (67 : Int64)), .second, .val (.long v11), .second, .val (.long v17), .second] [(.int (lcmpW (67 : Int64) (67 : Int64)))])) _
    refine XS.ifNo X14.here hx rfl (hb hby at_39) rfl ((if0 _ _).trans (teq (by decide : (lcmpW (67 : Int64) (67 : Int64)) = (0 : Int32))).2) ?_
    show Steps p.tables e below (T14.setTop (mkF m 42 #[.val (.int ax), .val (.int bx), .val (.int v2), .val (.int v5), .val (.long (67 : Int64)), .second, .val (.long v11), .second, .val (.long v17), .second] [])) _
    refine XS.lload X14.here hx rfl (hb hby at_42) rfl  ?_
    show Steps p.tables e below (T14.setTop (mkF m 44 #[.val (.int ax), .val (.int bx), .val (.int v2), .val (.int v5), .val (.long (67 : Int64)), .second, .val (.long v11), .second, .val (.long v17), .second] [(.long v17)])) _
    refine XS.lload X14.here hx rfl (hb hby at_44) rfl  ?_
    show Steps p.tables e below (T14.setTop (mkF m 46 #[.val (.int ax), .val (.int bx), .val (.int v2), .val (.int v5), .val (.long (67 : Int64)), .second, .val (.long v11), .second, .val (.long v17), .second] [(.long (67 : Int64)), (.long v17)])) _
    refine XS.lcmp X14.here hx rfl (hb hby at_46) rfl ?_
    show Steps p.tables e below (T14.setTop (mkF m 47 #[.val (.int ax), .val (.int bx), .val (.int v2), .val (.int v5), .val (.long (67 : Int64)), .second, .val (.long v11), .second, .val (.long v17), .second] [(.int (lcmpW v17 (67 : Int64)))])) _
    refine XS.ifNo X14.here hx rfl (hb hby at_47) rfl ((if0 _ _).trans (teq (own_2 hv2 hv5 hv11 hv17 : (lcmpW v17 (67 : Int64)) = (0 : Int32))).2) ?_
    show Steps p.tables e below (T14.setTop (mkF m 50 #[.val (.int ax), .val (.int bx), .val (.int v2), .val (.int v5), .val (.long (67 : Int64)), .second, .val (.long v11), .second, .val (.long v17), .second] [])) _
    refine XS.lload X14.here hx rfl (hb hby at_50) rfl  ?_
    show Steps p.tables e below (T14.setTop (mkF m 52 #[.val (.int ax), .val (.int bx), .val (.int v2), .val (.int v5), .val (.long (67 : Int64)), .second, .val (.long v11), .second, .val (.long v17), .second] [(.long v11)])) _
    refine XS.lload X14.here hx rfl (hb hby at_52) rfl  ?_
    show Steps p.tables e below (T14.setTop (mkF m 54 #[.val (.int ax), .val (.int bx), .val (.int v2), .val (.int v5), .val (.long (67 : Int64)), .second, .val (.long v11), .second, .val (.long v17), .second] [(.long (67 : Int64)), (.long v11)])) _
    refine XS.iloadN X14.here hx rfl (hb hby at_54) rfl  ?_
    show Steps p.tables e below (T14.setTop (mkF m 55 #[.val (.int ax), .val (.int bx), .val (.int v2), .val (.int v5), .val (.long (67 : Int64)), .second, .val (.long v11), .second, .val (.long v17), .second] [(.int v2), (.long (67 : Int64)), (.long v11)])) _
    refine XS.i2l X14.here hx rfl (hb hby at_55) rfl ?_
    show Steps p.tables e below (T14.setTop (mkF m 56 #[.val (.int ax), .val (.int bx), .val (.int v2), .val (.int v5), .val (.long (67 : Int64)), .second, .val (.long v11), .second, .val (.long v17), .second] [(.long (v2.toInt64)), (.long (67 : Int64)), (.long v11)])) _
    refine XS.ladd X14.here hx rfl (hb hby at_56) rfl ?_
    show Steps p.tables e below (T14.setTop (mkF m 57 #[.val (.int ax), .val (.int bx), .val (.int v2), .val (.int v5), .val (.long (67 : Int64)), .second, .val (.long v11), .second, .val (.long v17), .second] [(.long ((67 : Int64) + (v2.toInt64))), (.long v11)])) _
    refine XS.iloadN X14.here hx rfl (hb hby at_57) rfl  ?_
    show Steps p.tables e below (T14.setTop (mkF m 58 #[.val (.int ax), .val (.int bx), .val (.int v2), .val (.int v5), .val (.long (67 : Int64)), .second, .val (.long v11), .second, .val (.long v17), .second] [(.int v5), (.long ((67 : Int64) + (v2.toInt64))), (.long v11)])) _
    refine XS.i2l X14.here hx rfl (hb hby at_58) rfl ?_
    show Steps p.tables e below (T14.setTop (mkF m 59 #[.val (.int ax), .val (.int bx), .val (.int v2), .val (.int v5), .val (.long (67 : Int64)), .second, .val (.long v11), .second, .val (.long v17), .second] [(.long (v5.toInt64)), (.long ((67 : Int64) + (v2.toInt64))), (.long v11)])) _
    refine XS.ladd X14.here hx rfl (hb hby at_59) rfl ?_
    show Steps p.tables e below (T14.setTop (mkF m 60 #[.val (.int ax), .val (.int bx), .val (.int v2), .val (.int v5), .val (.long (67 : Int64)), .second, .val (.long v11), .second, .val (.long v17), .second] [(.long (((67 : Int64) + (v2.toInt64)) + (v5.toInt64))), (.long v11)])) _
    refine XS.lcmp X14.here hx rfl (hb hby at_60) rfl ?_
    show Steps p.tables e below (T14.setTop (mkF m 61 #[.val (.int ax), .val (.int bx), .val (.int v2), .val (.int v5), .val (.long (67 : Int64)), .second, .val (.long v11), .second, .val (.long v17), .second] [(.int (lcmpW v11 (((67 : Int64) + (v2.toInt64)) + (v5.toInt64))))])) _
    refine XS.ifNo X14.here hx rfl (hb hby at_61) rfl ((if0 _ _).trans (teq (own_3 hv2 hv5 hv11 hv17 : (lcmpW v11 (((67 : Int64) + (v2.toInt64)) + (v5.toInt64))) = (0 : Int32))).2) ?_
    show Steps p.tables e below (T14.setTop (mkF m 64 #[.val (.int ax), .val (.int bx), .val (.int v2), .val (.int v5), .val (.long (67 : Int64)), .second, .val (.long v11), .second, .val (.long v17), .second] [])) _
    refine XS.lload X14.here hx rfl (hb hby at_64) rfl  ?_
    show Steps p.tables e below (T14.setTop (mkF m 66 #[.val (.int ax), .val (.int bx), .val (.int v2), .val (.int v5), .val (.long (67 : Int64)), .second, .val (.long v11), .second, .val (.long v17), .second] [(.long v11)])) _
    refine XS.lload X14.here hx rfl (hb hby at_66) rfl  ?_
    show Steps p.tables e below (T14.setTop (mkF m 68 #[.val (.int ax), .val (.int bx), .val (.int v2), .val (.int v5), .val (.long (67 : Int64)), .second, .val (.long v11), .second, .val (.long v17), .second] [(.long v17), (.long v11)])) _
    refine XS.lsub X14.here hx rfl (hb hby at_68) rfl ?_
    show Steps p.tables e below (T14.setTop (mkF m 69 #[.val (.int ax), .val (.int bx), .val (.int v2), .val (.int v5), .val (.long (67 : Int64)), .second, .val (.long v11), .second, .val (.long v17), .second] [(.long (v11 - v17))])) _
    refine XS.iloadN X14.here hx rfl (hb hby at_69) rfl  ?_
    show Steps p.tables e below (T14.setTop (mkF m 70 #[.val (.int ax), .val (.int bx), .val (.int v2), .val (.int v5), .val (.long (67 : Int64)), .second, .val (.long v11), .second, .val (.long v17), .second] [(.int v2), (.long (v11 - v17))])) _
    refine XS.i2l X14.here hx rfl (hb hby at_70) rfl ?_
    show Steps p.tables e below (T14.setTop (mkF m 71 #[.val (.int ax), .val (.int bx), .val (.int v2), .val (.int v5), .val (.long (67 : Int64)), .second, .val (.long v11), .second, .val (.long v17), .second] [(.long (v2.toInt64)), (.long (v11 - v17))])) _
    refine XS.iloadN X14.here hx rfl (hb hby at_71) rfl  ?_
    show Steps p.tables e below (T14.setTop (mkF m 72 #[.val (.int ax), .val (.int bx), .val (.int v2), .val (.int v5), .val (.long (67 : Int64)), .second, .val (.long v11), .second, .val (.long v17), .second] [(.int v5), (.long (v2.toInt64)), (.long (v11 - v17))])) _
    refine XS.i2l X14.here hx rfl (hb hby at_72) rfl ?_
    show Steps p.tables e below (T14.setTop (mkF m 73 #[.val (.int ax), .val (.int bx), .val (.int v2), .val (.int v5), .val (.long (67 : Int64)), .second, .val (.long v11), .second, .val (.long v17), .second] [(.long (v5.toInt64)), (.long (v2.toInt64)), (.long (v11 - v17))])) _
    refine XS.ladd X14.here hx rfl (hb hby at_73) rfl ?_
    show Steps p.tables e below (T14.setTop (mkF m 74 #[.val (.int ax), .val (.int bx), .val (.int v2), .val (.int v5), .val (.long (67 : Int64)), .second, .val (.long v11), .second, .val (.long v17), .second] [(.long ((v2.toInt64) + (v5.toInt64))), (.long (v11 - v17))])) _
    refine XS.lcmp X14.here hx rfl (hb hby at_74) rfl ?_
    show Steps p.tables e below (T14.setTop (mkF m 75 #[.val (.int ax), .val (.int bx), .val (.int v2), .val (.int v5), .val (.long (67 : Int64)), .second, .val (.long v11), .second, .val (.long v17), .second] [(.int (lcmpW (v11 - v17) ((v2.toInt64) + (v5.toInt64))))])) _
    refine XS.ifNo X14.here hx rfl (hb hby at_75) rfl ((if0 _ _).trans (teq (own_4 hv2 hv5 hv11 hv17 : (lcmpW (v11 - v17) ((v2.toInt64) + (v5.toInt64))) = (0 : Int32))).2) ?_
    show Steps p.tables e below (T14.setTop (mkF m 78 #[.val (.int ax), .val (.int bx), .val (.int v2), .val (.int v5), .val (.long (67 : Int64)), .second, .val (.long v11), .second, .val (.long v17), .second] [])) _
    refine XS.iconst X14.here hx rfl (hb hby at_78) ?_
    show Steps p.tables e below (T14.setTop (mkF m 79 #[.val (.int ax), .val (.int bx), .val (.int v2), .val (.int v5), .val (.long (67 : Int64)), .second, .val (.long v11), .second, .val (.long v17), .second] [(.int (1 : Int32))])) _
    refine XS.goto X14.here hx rfl (pc0 := 79) (pc' := 83) rfl (hb hby at_79) (by decide) (by decide) ?_
    exact k)
  obtain ⟨fs, hr, hrun, hended, hW, hsame⟩ := X14.leave (v := some (.int (nar .boolean (1 : Int32)))) (fun h => by rw [Bd.returns] at h; cases h)
  refine ⟨_, _, P19 _ ?_, hrun, hended, _, _, rfl, ?_, ⟨_, rfl⟩, hW, hsame.mono (by decide) (by decide)⟩
  · show Steps p.tables e below (T14.setTop (mkF m 83 #[.val (.int ax), .val (.int bx), .val (.int v2), .val (.int v5), .val (.long (67 : Int64)), .second, .val (.long v11), .second, .val (.long v17), .second] [(.int (1 : Int32))])) _
    exact retN X14 hx (t := .boolean) Bd.returns (by simp) (hb hby at_83) hr
  · show Q0 Z ax bx h0 n0 _ T14.heap _
    rw [e14]
    exact ⟨rfl, N14⟩
set_option maxRecDepth 65536 in
set_option maxHeartbeats 40000000 in
theorem comes_1 {Post : Tables → Env → Array Value → State → Outcome → State → Prop} (hpost : ∀ tb e args s v u, (limb_1_1.after args s (.returned v) u = true ∧ limb_1_2.after args s (.returned v) u = true ∧ True) → FrameEnd s (.returned v) u (Jvm.fieldLocs frame_1_writes args s ++ Jvm.arrayLocs frame_1_arrays args s ++ Jvm.staticLocs frame_1_statics s) 0 0 → Post tb e args s (.returned v) u) :
    ArmFor flags0 classFile x code maxLocals ret World_1 tables_1 room_1 Calls_1 rest_1 Pre_1 Post := by
  intro l hfl _ _ p e ha hc hk s m args below hf hA hF happ hP
  obtain ⟨hcalls, hrest, hpre⟩ := hP
  obtain ⟨-, -, -, hnamed, -, -, -, hat⟩ := (Spec.applies_iff hf).mp happ
  obtain ⟨hg, hn⟩ := and_e (Cond.before_iff.mp (show (Jvm.Cond.and given_1 narrow_1).before args s = true from hpre))
  obtain ⟨g1, g2⟩ := and_e hg
  obtain ⟨g3, g4⟩ := and_e g2
  obtain ⟨w0, w1, rfl⟩ : ∃ w0 w1 : Value, args = #[w0, w1] := by
    have hs : args.size = 2 := by simpa [Cond.value, given_1] using g1
    obtain ⟨L⟩ := args
    match L, hs with
    | [w0, w1], _ => exact ⟨w0, w1, rfl⟩
  have hw := fun d (hd : d ∈ tables_1) => atoms_spec (ws := Jvm.Cond.code x code maxLocals ret :: tables_1) hat d (List.mem_cons_of_mem _ hd)
  have hfit : Fit s := fun {y c} hc i hi => by
    obtain ⟨ha, rfl⟩ := Array.getElem?_eq_some_iff.mp hc
    have q := List.all_eq_true.mp ((Array.all_eq_true_iff_forall_mem.mp hF) _ (Array.getElem_mem ha)) i (List.mem_range.mpr hi)
    simpa [Array.getElem?_eq_getElem hi] using q
  obtain ⟨i0, ei0⟩ := is_v g3
  obtain rfl : w0 = (.int i0) := Option.some.inj ei0
  obtain ⟨i1, ei1⟩ := is_v g4
  obtain rfl : w1 = (.int i1) := Option.some.inj ei1
  obtain ⟨n, o, h1, h2, h3, _, L, rfl, ⟨rfl, N⟩, hq⟩ := rm0 l s _ hw tables_1 i0 i1 s.heap s.heap.size (Nat.le_refl _)  p e ha hc hk s m _ below hf ((Spec.applies_iff_loose hf).mp happ).1 ⟨rfl, State.Warmed39.refl s, rfl⟩ trivial
  refine ⟨n, _, h1, h2, h3, hpost _ _ _ _ _ _ ⟨Cond.after_iff.mpr rfl, Cond.after_iff.mpr (eq_i res_at (Term.int_eval (1)) rfl), trivial⟩ ⟨hq.1, hq.2.1, (hq.2.2.sift fun y hy => Or.inr (N y hy)).mono (by decide) (by decide)⟩⟩
theorem main_1_1 : Claimed_1_1 := comes_1 fun _ _ _ _ _ _ h hF => ⟨h.1, hF⟩
theorem main_1_2 : Claimed_1_2 := comes_1 fun _ _ _ _ _ _ h hF => ⟨h.2.1, hF⟩
end Jvm.Pilot.@@N@@
namespace Jvm.Pilot.@@N@@
open Jvm Jvm.ClassFile Sem Op Lib Jvm.Free Jvm.Stand Jvm.Pilot.@@N@@.Jvm.D
/-! MADE BY PROGRAM (witnessworld.py) out of the Statement's table words and the real class files: 9 classes; the members and pool entries that the words name. The judged class is class 1, her method 1. -/
namespace start1
open Jvm.ClassFile
def u (s : String) : CpInfo := .utf8 (stringToUtf16 s)
/-- a pool by its gaps: so many unusable entries, then the entry; so many at the end -/
def gap : Nat → List CpInfo → List CpInfo
  | 0, r => r
  | n + 1, r => .unusable :: gap n r
def poolList (es : List (Nat × CpInfo)) (last : Nat) : List CpInfo := es.foldr (fun e r => gap e.1 (e.2 :: r)) (gap last [])
def pool (es : List (Nat × CpInfo)) (last : Nat) : Array CpInfo := ⟨poolList es last⟩
def fileOf (pool : Array CpInfo) (this : Nat) (attrs : Array Attribute := #[]) (ms : Array MethodInfo := #[]) (fl : Nat := 33) (sup : Nat := 0) (ifs : Array Nat := #[]) (fds : Array FieldInfo := #[]) : ClassFile where
  minorVersion := 0
  majorVersion := 65
  constantPool := pool
  accessFlags := fl
  thisClass := this
  superClass := sup
  interfaces := ifs
  fields := fds
  methods := ms
  attributes := attrs
def plain (name : String) (sup : Option ClassId) : Class where
  name := name
  kind := .ordinary
  loader := none
  accessFlags := 33
  super := sup
  interfaces := #[]
  cf := none
  fields := #[]
  methods := #[]
  instanceTypes := #[]
  staticTypes := #[]
  resolved := #[]
  callSites := []
  init := .initialized
  statics := none
  mirror := none

def pool0 : Array CpInfo := pool [(5, u "<init>"), (0, u "()V"), (1, .class_ 10), (1, u "java/lang/Object")] 113

def k0m0 : Method := { name := "<init>", desc := "()V", sig := { parameters := [], returnType := none }, accessFlags := 1, code := none }
/-- java/lang/Object -/
def k0 : Class := { plain "java/lang/Object" none with
  accessFlags := 33
  interfaces := #[]
  cf := some (fileOf pool0 8 #[] #[{ accessFlags := 1, nameIndex := 5, descriptorIndex := 6, attributes := #[] }] 33 0 #[] #[])
  fields := #[]
  methods := #[k0m0]
  instanceTypes := #[]
  staticTypes := #[]
  resolved := Array.replicate 124 none
  statics := none }

def pool1 : Array CpInfo := pool [(2, .class_ 4), (1, u "java/lang/Object"), (0, u "<init>"), (0, u "()V"), (0, .integer 65535), (0, .integer 2147483647), (0, .long 67), (1, .methodref 12 13), (0, .class_ 14), (0, .nameAndType 15 16), (0, u "com/example/leafpack/leafpack/ArchiveFormat"), (0, u "fileHeaderBytes"), (0, u "(II)J"), (0, .class_ 18), (0, u "com/example/leafpack/leafpack/ArchiveFormatFileHeaderBytesPinLaw"), (2, u "law"), (0, u "(II)Z")] 3

def k1m0 : Method := { name := "<init>", desc := "()V", sig := { parameters := [], returnType := none }, accessFlags := 2, code := none }
def k1c1 : Code := { maxStack := 6, maxLocals := 10, code := code, exceptionTable := #[], attributes := #[] }
def k1m1 : Method := { name := "law", desc := "(II)Z", sig := { parameters := [.int, .int], returnType := some .boolean }, accessFlags := 9, code := some k1c1 }
/-- com/example/leafpack/leafpack/ArchiveFormatFileHeaderBytesPinLaw -/
def k1 : Class := { plain "com/example/leafpack/leafpack/ArchiveFormatFileHeaderBytesPinLaw" (some 0) with
  accessFlags := 49
  interfaces := #[]
  cf := some (fileOf pool1 17 #[] #[{ accessFlags := 2, nameIndex := 5, descriptorIndex := 6, attributes := #[] }, { accessFlags := 9, nameIndex := 21, descriptorIndex := 22, attributes := #[] }] 49 2 #[] #[])
  fields := #[]
  methods := #[k1m0, k1m1]
  instanceTypes := #[]
  staticTypes := #[]
  resolved := Array.replicate 26 none
  statics := none }

def pool2 : Array CpInfo := pool [(2, .class_ 4), (1, u "java/lang/Object"), (0, u "<init>"), (0, u "()V"), (1, .class_ 10), (1, u "com/example/leafpack/leafpack/ArchiveFormat"), (45, .class_ 58), (1, u "com/example/leafpack/leafpack/ArchiveFormat$Block"), (63, u "MAGIC"), (0, u "[B"), (0, u "VERSION"), (0, u "I"), (2, u "MAX_EXPANSION"), (1, u "END"), (1, u "FILE"), (1, u "FOLDER"), (1, u "MAX_GAMMA_ZEROS"), (1, u "NOT_A_CODE"), (0, u "Ljava/lang/String;"), (7, u "fileHeaderBytes"), (0, u "(II)J")] 18

def k2m0 : Method := { name := "<init>", desc := "()V", sig := { parameters := [], returnType := none }, accessFlags := 2, code := none }
def k2c1 : Code := { maxStack := 2, maxLocals := 2, code := prog_4_method_4_code, exceptionTable := #[], attributes := #[] }
def k2m1 : Method := { name := "fileHeaderBytes", desc := "(II)J", sig := { parameters := [.int, .int], returnType := some .long }, accessFlags := 8, code := some k2c1 }
/-- com/example/leafpack/leafpack/ArchiveFormat -/
def k2 : Class := { plain "com/example/leafpack/leafpack/ArchiveFormat" (some 0) with
  accessFlags := 48
  interfaces := #[]
  cf := some (fileOf pool2 8 #[.nestMembers #[56]] #[{ accessFlags := 2, nameIndex := 5, descriptorIndex := 6, attributes := #[] }, { accessFlags := 8, nameIndex := 147, descriptorIndex := 148, attributes := #[] }] 48 2 #[] #[{ accessFlags := 24, nameIndex := 122, descriptorIndex := 123, attributes := #[] }, { accessFlags := 24, nameIndex := 124, descriptorIndex := 125, attributes := #[] }, { accessFlags := 24, nameIndex := 128, descriptorIndex := 125, attributes := #[] }, { accessFlags := 24, nameIndex := 130, descriptorIndex := 125, attributes := #[] }, { accessFlags := 24, nameIndex := 132, descriptorIndex := 125, attributes := #[] }, { accessFlags := 24, nameIndex := 134, descriptorIndex := 125, attributes := #[] }, { accessFlags := 26, nameIndex := 136, descriptorIndex := 125, attributes := #[] }, { accessFlags := 26, nameIndex := 138, descriptorIndex := 139, attributes := #[] }])
  fields := #[{ name := "MAGIC", type := (.array .byte), accessFlags := 24, slot := 0, constantValue := 0 }, { name := "VERSION", type := .int, accessFlags := 24, slot := 1, constantValue := 0 }, { name := "MAX_EXPANSION", type := .int, accessFlags := 24, slot := 2, constantValue := 0 }, { name := "END", type := .int, accessFlags := 24, slot := 3, constantValue := 0 }, { name := "FILE", type := .int, accessFlags := 24, slot := 4, constantValue := 0 }, { name := "FOLDER", type := .int, accessFlags := 24, slot := 5, constantValue := 0 }, { name := "MAX_GAMMA_ZEROS", type := .int, accessFlags := 26, slot := 6, constantValue := 0 }, { name := "NOT_A_CODE", type := (.object "java/lang/String"), accessFlags := 26, slot := 7, constantValue := 0 }]
  methods := #[k2m0, k2m1]
  instanceTypes := #[]
  staticTypes := #[(.array .byte), .int, .int, .int, .int, .int, .int, (.object "java/lang/String")]
  resolved := Array.replicate 167 none
  statics := none }

def pool3 : Array CpInfo := pool [(1, u "java/lang/Cloneable"), (0, .class_ 1), (0, u "java/lang/Object"), (0, .class_ 3)] 3

/-- java/lang/Cloneable -/
def k3 : Class := { plain "java/lang/Cloneable" (some 0) with
  accessFlags := 1537
  interfaces := #[]
  cf := some (fileOf pool3 2 #[] #[] 1537 4 #[] #[])
  fields := #[]
  methods := #[]
  instanceTypes := #[]
  staticTypes := #[]
  resolved := Array.replicate 8 none
  statics := none }

def pool4 : Array CpInfo := pool [(1, u "java/io/Serializable"), (0, .class_ 1), (0, u "java/lang/Object"), (0, .class_ 3)] 3

/-- java/io/Serializable -/
def k4 : Class := { plain "java/io/Serializable" (some 0) with
  accessFlags := 1537
  interfaces := #[]
  cf := some (fileOf pool4 2 #[] #[] 1537 4 #[] #[])
  fields := #[]
  methods := #[]
  instanceTypes := #[]
  staticTypes := #[]
  resolved := Array.replicate 8 none
  statics := none }

/-- the primitive byte -/
def k5 : Class := { plain "byte" none with kind := .primitive 'B', accessFlags := 0x411 }
/-- [B -/
def k6 : Class := { plain "[B" (some 0) with kind := .array 5 .byte, interfaces := #[3, 4], accessFlags := 1041 }

/-- the primitive int -/
def k7 : Class := { plain "int" none with kind := .primitive 'I', accessFlags := 0x411 }
/-- [I -/
def k8 : Class := { plain "[I" (some 0) with kind := .array 7 .int, interfaces := #[3, 4], accessFlags := 1041 }

def heap : Heap := #[]
def classes : Array Class := #[k0, k1, k2, k3, k4, k5, k6, k7, k8]
def interned : List (Array UInt16 × Addr) := []
def slotsUsed : Nat := 0
def theMethod : MethodId := ⟨1, 1⟩
def args0 : Array Value := #[.int 5, .int 7]
def aboutOver (below : List Frame) : State where
  vm := { classes := classes, interned := interned.toArray }
  heap := heap
  slotsUsed := slotsUsed
  threads := #[{ frames := .invoking theMethod args0 :: below }]
def below0 : List Frame := [.native { method := ⟨0, 0⟩, args := #[] }]
def about1 : State := aboutOver below0
def p0 : Program := .bare "" "" ""
def e0 : Env := launch0.env 0 0 0
theorem w_frames : about1.frames = Frame.invoking theMethod args0 :: below0 := rfl
set_option maxRecDepth 65536 in
theorem w_args : argsFit about1.vm theMethod args0 = true := by decide +kernel
set_option maxRecDepth 65536 in
theorem w_heap : heapFits about1 = true := by decide +kernel
set_option maxRecDepth 65536 in
theorem w_runnable : about1.curStatus? = some .runnable := by decide +kernel
set_option maxRecDepth 65536 in
theorem w_alone : about1.alone = true := by decide +kernel
set_option maxRecDepth 65536 in
theorem w_named : about1.methodNamed? x = some theMethod := by decide +kernel
set_option maxRecDepth 65536 in
theorem w_hears : about1.hears theMethod below0 = true := by decide +kernel
set_option maxRecDepth 65536 in
theorem w_ripe : about1.ripe theMethod args0 below0 = true := by decide +kernel
theorem w_running : about1.status = .running := rfl
set_option maxRecDepth 65536 in
theorem w_room : about1.hasRoom e0.platform room_1 = true :=
  launch0.hasRoom_least _ room_1 (by decide +kernel) (by decide +kernel) (by decide +kernel) (by decide +kernel) (by decide +kernel) (by decide +kernel)
theorem allAtoms_all (ts : List Jvm.Cond) (a : Array Jvm.Value) (st : Jvm.State) : (allAtoms ts).before a st = ts.all (fun c => c.before a st) := by
  induction ts with
  | nil => rfl
  | cons c t ih =>
    show (Jvm.Cond.and c (allAtoms t)).before a st = _
    rw [Jvm.Cond.before_and, ih, List.all_cons]
def words1 : List Jvm.Cond := Jvm.Cond.code x code maxLocals ret :: tables_1
/-- a 'code' word, met by the world's own term for the bytes: nothing is compared byte by byte -/
theorem code_word {y : MethodName} {bytes : ByteArray} {mx : Nat} {rt : Option FieldType} {a : Array Value} {s : State} {m : MethodId} {meth : Method} {c : Code} (h1 : s.methodNamed? y = some m) (h2 : s.vm.method? m = some meth) (h3 : meth.code = some c) (h4 : c.code = bytes)
    (h5 : (c.maxLocals == mx && c.exceptionTable.isEmpty && decide (c.maxStack ≤ mostOperands) && decide (meth.sig.returnType = rt) && !meth.locks && decide (parseMethodDescriptor y.desc = some meth.sig)) = true) : (Jvm.Cond.code y bytes mx rt).before a s = true := by
  simp only [Bool.and_eq_true, beq_iff_eq, Bool.not_eq_true', decide_eq_true_eq] at h5
  obtain ⟨⟨⟨⟨⟨g1, g2⟩, g3⟩, g4⟩, g5⟩, g6⟩ := h5
  simp [Cond.before, Cond.holds, Cond.value, h1, h2, h3, h4, g1, g2, g3, g4, g5, g6]
def isCode : Jvm.Cond → Bool
  | .code _ _ _ _ => true
  | _ => false
theorem all_split {L : List Jvm.Cond} {P : Jvm.Cond → Bool} (h1 : L.all (fun c => isCode c || P c) = true) (h2 : ∀ c ∈ L.filter isCode, P c = true) : L.all P = true := by
  refine List.all_eq_true.mpr fun c hc => ?_
  have h := List.all_eq_true.mp h1 c hc
  rcases Bool.eq_false_or_eq_true (isCode c) with hi | hi
  · exact h2 c (List.mem_filter.mpr ⟨hc, hi⟩)
  · simpa [hi] using h
set_option maxRecDepth 65536 in
theorem w_c0 : (Jvm.Cond.code x code maxLocals ret).before args0 about1 = true := code_word (m := ⟨1, 1⟩) (meth := k1m1) (c := k1c1) (by decide +kernel) rfl rfl rfl (by decide +kernel)
set_option maxRecDepth 65536 in
theorem w_c1 : (Jvm.Cond.code ({ cls := "com/example/leafpack/leafpack/ArchiveFormat", name := "fileHeaderBytes", desc := "(II)J" } : Jvm.MethodName) prog_4_method_4_code (2 : Nat) (Option.some Jvm.ClassFile.FieldType.long)).before args0 about1 = true := code_word (m := ⟨2, 1⟩) (meth := k2m1) (c := k2c1) (by decide +kernel) rfl rfl rfl (by decide +kernel)
def codes1 : List Jvm.Cond := [Jvm.Cond.code x code maxLocals ret, Jvm.Cond.code ({ cls := "com/example/leafpack/leafpack/ArchiveFormat", name := "fileHeaderBytes", desc := "(II)J" } : Jvm.MethodName) prog_4_method_4_code (2 : Nat) (Option.some Jvm.ClassFile.FieldType.long)]
set_option maxRecDepth 65536 in
theorem codes_eq : words1.filter isCode = codes1 := rfl
theorem w_codes : ∀ c ∈ words1.filter isCode, c.before args0 about1 = true := by
  rw [codes_eq]
  intro c hc
  simp only [codes1, List.mem_cons, List.not_mem_nil, or_false] at hc
  rcases hc with rfl | rfl
  · exact w_c0
  · exact w_c1
set_option maxRecDepth 65536 in
theorem w_t1 : words1.all (fun c => isCode c || c.before args0 about1) = true := by decide +kernel
theorem w_tables : (allAtoms (Jvm.Cond.code x code maxLocals ret :: tables_1)).before args0 about1 = true := by
  rw [allAtoms_all]
  show words1.all (fun c => c.before args0 about1) = true
  refine all_split ?_ w_codes
  rw [w_t1]
set_option maxRecDepth 65536 in
theorem w_case : (Jvm.Cond.and given_1 narrow_1).before args0 about1 = true := by decide +kernel
theorem w_applies : (headSpec (Jvm.Cond.code x code maxLocals ret :: tables_1) room_1).applies x e0.platform about1 = true :=
  (Spec.applies_iff w_frames).mpr ⟨w_running, w_runnable, w_alone, w_named, w_hears, w_ripe, w_room, w_tables⟩
theorem atStart : AtStart classFile x code maxLocals ret World_1 tables_1 room_1 Calls_1 rest_1 Pre_1 launch0 p0 e0 about1 theMethod args0 below0 :=
  ⟨lists_1, trivial, launch0.admits_env _ _ _, launch0.least_env, fairChoices_fair.cas, fairChoices_fair.clock, w_frames, w_args, w_heap, w_applies, trivial, trivial, w_case⟩
end start1
theorem witness_1 : WitnessClaimed_1 := ⟨start1.p0, start1.e0, start1.about1, start1.theMethod, start1.args0, start1.below0, start1.atStart⟩
end Jvm.Pilot.@@N@@
