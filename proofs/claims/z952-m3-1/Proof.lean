import JvmDerived
import JvmDerived.Pilot.@@N@@Statement
import JvmDerived.Pilot.@@N@@Code
set_option linter.unusedVariables false
set_option linter.unusedSimpArgs false

namespace Jvm.RoadKit
open Sem ClassFile Op Lib Jvm.Stand Jvm.Free Jvm.LawKit
section New
variable {p : Program} {l : Launch} {e : Env} {R : Room} {s : State} {m : MethodId} {args : Array Value} {below : List Frame} {meth : Method} {c : Code} {T : State} {locs : List Loc} {cells slots : Nat}
theorem retI (X : Stand p l e R s m args below meth c T locs cells slots) (hx : p.tables.exec = Jvm.exec) {pc : Nat} {Ls : Array Slot} {z : Int32} {rest : List Value} (hret : meth.sig.returnType = some .int) (hd : decode c.code pc = .ok (.ireturn, 1)) {fs : List Frame}
    (hl : ∀ (f : JFrame) (acts : List Action), f.method = m → f.locked = none → f.entered = [] → (doReturn e (T.setTop f) acts (some (.int z))).1 = T.setFrames fs) : Steps p.tables e below (T.setTop (mkF m pc Ls (.int z :: rest))) (T.setFrames fs) := by
  have hm' : T.vm.method? m = some meth := X.method'
  have hn : narrow .int (.int z) = .int z := rfl
  show Steps p.tables e below (T.setTop { method := m, pc := pc, locals := Ls, stack := _ :: rest, locked := none }) _
  jvm_step X.here [X.here.top, hx, hd, hm', hret, hn]
  first | (intro acts; rw [hl _ acts rfl rfl rfl]) | rw [hl _ _ rfl rfl rfl]
  exact Steps.refl _
end New
end Jvm.RoadKit
namespace Jvm.Pilot.@@N@@
open Jvm Jvm.ClassFile Sem Op Lib Jvm.Free Jvm.Stand Jvm.LawKit Jvm.RoadKit Bundle Jvm.Pilot.@@N@@.Jvm.D
/-- from A the run comes to B -/
abbrev Wy (tb : Tables) (e : Env) (below : List Frame) (A B : State) : Prop := ∀ t, Steps tb e below B t → Steps tb e below A t
theorem own_nat {c : Int32} (h : 0 ≤ c.toInt) : c = Int32.ofNat c.toInt.toNat := by
  apply Int32.toInt_inj.mp
  have h1 := c.toInt_lt
  rw [Int32.toInt_ofNat_of_lt (by omega)]
  omega
theorem own_lt {a b : Int32} : a < b ↔ a.toInt < b.toInt := Int32.lt_iff_toInt_lt
theorem own_ltF (k : Nat) (c : Int32) (h0 : 0 ≤ c.toInt) (h1 : c.toInt < k) : ∃ n : Fin k, c = Int32.ofNat n.val :=
  ⟨⟨c.toInt.toNat, by omega⟩, own_nat h0⟩
theorem own_rem (x y : Int32) (hx : 0 ≤ x.toInt) (hy : 0 < y.toInt) : (x - (x / y) * y).toInt = x.toInt % y.toInt := by
  have h1 := (c_idiv x y y.toInt rfl (by intro h; rw [h] at hy; exact absurd hy (by decide))).1 hx
  have h2 := c_imul (x / y) y
  have h3 := c_isub x ((x / y) * y)
  have r1 := rng32 ((x / y) * y)
  have r2 := rng32 (x - (x / y) * y)
  have r3 := rng32 x
  have r4 := rng32 y
  have e : x.toInt / y.toInt * y.toInt = x.toInt - x.toInt % y.toInt := by
    have := Int.emod_def x.toInt y.toInt
    rw [Int.mul_comm] at this
    omega
  rw [h1, e] at h2
  have b1 := Int.emod_nonneg x.toInt (show y.toInt ≠ 0 by omega)
  have b2 := Int.emod_lt_of_pos x.toInt hy
  have b3 : x.toInt % y.toInt ≤ x.toInt := by
    by_cases q : x.toInt < y.toInt
    · rw [Int.emod_eq_of_lt hx q]; omega
    · omega
  omega
theorem own_nm {a b : Addr} (h : a ≠ b) : a ∉ [b] := by simpa using h
theorem own_nm2 {a b c : Addr} (h : a ≠ b) (h2 : a ≠ c) : a ∉ [b, c] := by simp [h, h2]

def own_G (q w : Int64) : Int32 := if (lcmpW q w) < (0 : Int32) then (1 : Int32) else (0 : Int32)
theorem own_G0 {q w : Int64} : own_G q w = 0 ↔ ¬ q < w := by
  unfold own_G
  by_cases h : (lcmpW q w) < (0 : Int32)
  · rw [if_pos h]
    exact ⟨fun k => absurd k (by decide), fun k => absurd ((lw_lt q w).mp h) k⟩
  · rw [if_neg h]
    exact ⟨fun _ k => h ((lw_lt q w).mpr k), fun _ => rfl⟩
theorem own_id (a : Int64) : lcmpW a a = 0 := (lw_eq _ _).mpr rfl
theorem own_self (a : Int64) : own_G a a = 0 := own_G0.mpr Int64.lt_irrefl
theorem own_before {a : Int64} (h : ¬ lcmpW a (-9223372036854775808 : Int64) = 0) : ¬ own_G (a - (1 : Int64)) a = 0 := by
  intro k
  apply own_G0.mp k
  rw [Int64.lt_iff_toInt_lt]
  have h1 : ¬ a = -9223372036854775808 := fun q => h ((lw_eq _ _).mpr q)
  have h2 : a.toInt ≠ -9223372036854775808 := fun q => h1 (Int64.toInt_inj.mp (by rw [q]; rfl))
  have r := rng64 a
  have c := c_lsub a 1
  have r2 := rng64 (a - 1)
  have e : (1 : Int64).toInt = 1 := rfl
  omega

theorem d7_0 : decode jdk_71_method_1_code 0 = .ok (.aload_n 0, 1) := by decide +kernel
theorem d7_1 : decode jdk_71_method_1_code 1 = .ok (.invokespecial 1, 3) := by decide +kernel
theorem d7_4 : decode jdk_71_method_1_code 4 = .ok (.return_, 1) := by decide +kernel
theorem pn_java_util_AbstractMap : plainName "java/util/AbstractMap" = true := by first | (simp [plainName, overriddenIn]; done) | decide +kernel
theorem ef_rm7 (m : MethodId) (ad : Addr)  : entryFrame m #[(.ref ad)] 1 = (mkF m 0 #[.val (.ref ad)] []) := by first | (simp [entryFrame, mkF, argsToLocals, Value.category]; done) | rfl
def Q7 (Z : State) (ad : Addr) (h0 : Heap) (n0 : Nat) (v : Option Value) (h : Heap) (L : List Loc) : Prop := v = none ∧ Fr n0 L ∧ h = h0
set_option maxRecDepth 65536 in
set_option maxHeartbeats 40000000 in
theorem rm7 (l : Launch) (Z : State) (a0 : Array Value) (hw : ∀ d ∈ tables_1, d.before a0 Z = true) (ws : List Jvm.Cond) (ad : Addr) (h0 : Heap) (n0 : Nat) (Z0 : n0 ≤ h0.size)   :
    MetFree l (⟨"java/util/AbstractMap", "<init>", "()V"⟩ : MethodName) (head1 (Jvm.Cond.code (⟨"java/util/AbstractMap", "<init>", "()V"⟩ : MethodName) jdk_71_method_1_code 1 none :: ws) ({ frames := 1, cells := 0, slots := 0, locals := 12 } : Room)) (fun a U => a = #[(.ref ad)] ∧ Z.Warmed39 U.vm ∧ U.heap = h0) (fun _ _ _ _ _ => True) (fun _ U o U' => ∃ v L, o = .returned v ∧ Q7 Z ad h0 n0 v U'.heap L ∧ FrameEnd U o U' L ({ frames := 1, cells := 0, slots := 0, locals := 12 } : Room).cells ({ frames := 1, cells := 0, slots := 0, locals := 12 } : Room).slots) := by
  refine MetFree.of_bodySF (plainFor_of_name pn_java_util_AbstractMap) hisR ?_
  intro p e s m args below meth c s₁ Bd hml0 hP hK
  obtain ⟨rfl, hZ, hh⟩ := hP
  have hx := Bd.exec
  have hby := Bd.bytes
  have hml : c.maxLocals = 1 := hml0
  have hown : s.vm.findClass "java/util/AbstractMap" = some m.cls := findClass_of_methodNamed Bd.named
  have hnm := (name_of_methodNamed Bd.named Bd.method).1
  have X0 : Stand p l e ({ frames := 1, cells := 0, slots := 0, locals := 12 } : Room) s m #[(.ref ad)] below meth c s₁ [] 0 0 := Stand.of_body Bd
  have e0 : s₁.heap = h0 := by rw [← hh, Bd.state]; rfl
  have N0 := Fr.nil n0
  have P0 : Wy p.tables e below (s₁.setTop (entryFrame m #[(.ref ad)] 1)) (s₁.setTop (mkF m 0 #[.val (.ref ad)] [])) := fun t k => castTop (ef_rm7 m ad) k
  have P1 : Wy p.tables e below (s₁.setTop (entryFrame m #[(.ref ad)] 1)) (s₁.setTop (mkF m 1 #[.val (.ref ad)] [(.ref ad)])) := fun t k => P0 t (by
    show Steps p.tables e below (s₁.setTop (mkF m 0 #[.val (.ref ad)] [])) _
    refine XS.aloadN X0.here hx rfl (hb hby d7_0) rfl rfl  ?_
    exact k)
  obtain ⟨T2, X2, e2, st2⟩ := initO X0 hx hZ hown (hw _ (List.mem_of_getElem? (i := 41) rfl)) (hw _ (List.mem_of_getElem? (i := 7) rfl)) (hw _ (List.mem_of_getElem? (i := 8) rfl)) e0 (g := (mkF m 1 #[.val (.ref ad)] [(.ref ad)])) rfl (by rw [hml]; rfl) rfl (hb hby d7_1) (by decide) (W := 0) (by show 2 * 0 + _ ≤ _; exact Nat.le_of_eq rfl) (by decide)
  have P3 : Wy p.tables e below (s₁.setTop (entryFrame m #[(.ref ad)] 1)) (T2.setTop (mkF m 4 #[.val (.ref ad)] [])) := fun t k => P1 t (st2 _ k)
  obtain ⟨fs, hr, hrun, hended, hW, hsame⟩ := X2.leave (v := none) (fun _ => rfl)
  refine ⟨_, _, P3 _ ?_, hrun, hended, _, _, rfl, ?_, ⟨_, rfl⟩, hW, hsame.mono (by decide) (by decide)⟩
  · show Steps p.tables e below (T2.setTop (mkF m 4 #[.val (.ref ad)] [])) _
    exact X2.returnOut hx Bd.returns (hb hby d7_4) hr
  · show Q7 Z ad h0 n0 _ T2.heap _
    rw [e2]
    exact ⟨rfl, N0, rfl⟩
theorem d5_0 : decode jdk_22_method_1_code 0 = .ok (.aload_n 0, 1) := by decide +kernel
theorem d5_1 : decode jdk_22_method_1_code 1 = .ok (.invokespecial 1, 3) := by decide +kernel
theorem d5_4 : decode jdk_22_method_1_code 4 = .ok (.return_, 1) := by decide +kernel
theorem pn_java_util_AbstractCollection : plainName "java/util/AbstractCollection" = true := by first | (simp [plainName, overriddenIn]; done) | decide +kernel
theorem ef_rm5 (m : MethodId) (ad : Addr)  : entryFrame m #[(.ref ad)] 1 = (mkF m 0 #[.val (.ref ad)] []) := by first | (simp [entryFrame, mkF, argsToLocals, Value.category]; done) | rfl
def Q5 (Z : State) (ad : Addr) (h0 : Heap) (n0 : Nat) (v : Option Value) (h : Heap) (L : List Loc) : Prop := v = none ∧ Fr n0 L ∧ h = h0
set_option maxRecDepth 65536 in
set_option maxHeartbeats 40000000 in
theorem rm5 (l : Launch) (Z : State) (a0 : Array Value) (hw : ∀ d ∈ tables_1, d.before a0 Z = true) (ws : List Jvm.Cond) (ad : Addr) (h0 : Heap) (n0 : Nat) (Z0 : n0 ≤ h0.size)   :
    MetFree l (⟨"java/util/AbstractCollection", "<init>", "()V"⟩ : MethodName) (head1 (Jvm.Cond.code (⟨"java/util/AbstractCollection", "<init>", "()V"⟩ : MethodName) jdk_22_method_1_code 1 none :: ws) ({ frames := 1, cells := 0, slots := 0, locals := 12 } : Room)) (fun a U => a = #[(.ref ad)] ∧ Z.Warmed39 U.vm ∧ U.heap = h0) (fun _ _ _ _ _ => True) (fun _ U o U' => ∃ v L, o = .returned v ∧ Q5 Z ad h0 n0 v U'.heap L ∧ FrameEnd U o U' L ({ frames := 1, cells := 0, slots := 0, locals := 12 } : Room).cells ({ frames := 1, cells := 0, slots := 0, locals := 12 } : Room).slots) := by
  refine MetFree.of_bodySF (plainFor_of_name pn_java_util_AbstractCollection) hisR ?_
  intro p e s m args below meth c s₁ Bd hml0 hP hK
  obtain ⟨rfl, hZ, hh⟩ := hP
  have hx := Bd.exec
  have hby := Bd.bytes
  have hml : c.maxLocals = 1 := hml0
  have hown : s.vm.findClass "java/util/AbstractCollection" = some m.cls := findClass_of_methodNamed Bd.named
  have hnm := (name_of_methodNamed Bd.named Bd.method).1
  have X0 : Stand p l e ({ frames := 1, cells := 0, slots := 0, locals := 12 } : Room) s m #[(.ref ad)] below meth c s₁ [] 0 0 := Stand.of_body Bd
  have e0 : s₁.heap = h0 := by rw [← hh, Bd.state]; rfl
  have N0 := Fr.nil n0
  have P0 : Wy p.tables e below (s₁.setTop (entryFrame m #[(.ref ad)] 1)) (s₁.setTop (mkF m 0 #[.val (.ref ad)] [])) := fun t k => castTop (ef_rm5 m ad) k
  have P1 : Wy p.tables e below (s₁.setTop (entryFrame m #[(.ref ad)] 1)) (s₁.setTop (mkF m 1 #[.val (.ref ad)] [(.ref ad)])) := fun t k => P0 t (by
    show Steps p.tables e below (s₁.setTop (mkF m 0 #[.val (.ref ad)] [])) _
    refine XS.aloadN X0.here hx rfl (hb hby d5_0) rfl rfl  ?_
    exact k)
  obtain ⟨T2, X2, e2, st2⟩ := initO X0 hx hZ hown (hw _ (List.mem_of_getElem? (i := 27) rfl)) (hw _ (List.mem_of_getElem? (i := 7) rfl)) (hw _ (List.mem_of_getElem? (i := 8) rfl)) e0 (g := (mkF m 1 #[.val (.ref ad)] [(.ref ad)])) rfl (by rw [hml]; rfl) rfl (hb hby d5_1) (by decide) (W := 0) (by show 2 * 0 + _ ≤ _; exact Nat.le_of_eq rfl) (by decide)
  have P3 : Wy p.tables e below (s₁.setTop (entryFrame m #[(.ref ad)] 1)) (T2.setTop (mkF m 4 #[.val (.ref ad)] [])) := fun t k => P1 t (st2 _ k)
  obtain ⟨fs, hr, hrun, hended, hW, hsame⟩ := X2.leave (v := none) (fun _ => rfl)
  refine ⟨_, _, P3 _ ?_, hrun, hended, _, _, rfl, ?_, ⟨_, rfl⟩, hW, hsame.mono (by decide) (by decide)⟩
  · show Steps p.tables e below (T2.setTop (mkF m 4 #[.val (.ref ad)] [])) _
    exact X2.returnOut hx Bd.returns (hb hby d5_4) hr
  · show Q5 Z ad h0 n0 _ T2.heap _
    rw [e2]
    exact ⟨rfl, N0, rfl⟩
theorem d4_0 : decode jdk_91_method_1_code 0 = .ok (.aload_n 0, 1) := by decide +kernel
theorem d4_1 : decode jdk_91_method_1_code 1 = .ok (.invokespecial 1, 3) := by decide +kernel
theorem d4_4 : decode jdk_91_method_1_code 4 = .ok (.return_, 1) := by decide +kernel
theorem pn_java_util_AbstractSet : plainName "java/util/AbstractSet" = true := by first | (simp [plainName, overriddenIn]; done) | decide +kernel
theorem pd_lrV : parseMethodDescriptor "()V" = some ⟨[], none⟩ := by decide +kernel
theorem ef_rm4 (m : MethodId) (ad : Addr)  : entryFrame m #[(.ref ad)] 1 = (mkF m 0 #[.val (.ref ad)] []) := by first | (simp [entryFrame, mkF, argsToLocals, Value.category]; done) | rfl
def Q4 (Z : State) (ad : Addr) (h0 : Heap) (n0 : Nat) (v : Option Value) (h : Heap) (L : List Loc) : Prop := v = none ∧ Fr n0 L ∧ h = h0
set_option maxRecDepth 65536 in
set_option maxHeartbeats 40000000 in
theorem rm4 (l : Launch) (Z : State) (a0 : Array Value) (hw : ∀ d ∈ tables_1, d.before a0 Z = true) (ws : List Jvm.Cond) (ad : Addr) (h0 : Heap) (n0 : Nat) (Z0 : n0 ≤ h0.size)   :
    MetFree l (⟨"java/util/AbstractSet", "<init>", "()V"⟩ : MethodName) (head1 (Jvm.Cond.code (⟨"java/util/AbstractSet", "<init>", "()V"⟩ : MethodName) jdk_91_method_1_code 1 none :: ws) ({ frames := 2, cells := 0, slots := 0, locals := 24 } : Room)) (fun a U => a = #[(.ref ad)] ∧ Z.Warmed39 U.vm ∧ U.heap = h0) (fun _ _ _ _ _ => True) (fun _ U o U' => ∃ v L, o = .returned v ∧ Q4 Z ad h0 n0 v U'.heap L ∧ FrameEnd U o U' L ({ frames := 2, cells := 0, slots := 0, locals := 24 } : Room).cells ({ frames := 2, cells := 0, slots := 0, locals := 24 } : Room).slots) := by
  refine MetFree.of_bodySF (plainFor_of_name pn_java_util_AbstractSet) hisR ?_
  intro p e s m args below meth c s₁ Bd hml0 hP hK
  obtain ⟨rfl, hZ, hh⟩ := hP
  have hx := Bd.exec
  have hby := Bd.bytes
  have hml : c.maxLocals = 1 := hml0
  have hown : s.vm.findClass "java/util/AbstractSet" = some m.cls := findClass_of_methodNamed Bd.named
  have hnm := (name_of_methodNamed Bd.named Bd.method).1
  have X0 : Stand p l e ({ frames := 2, cells := 0, slots := 0, locals := 24 } : Room) s m #[(.ref ad)] below meth c s₁ [] 0 0 := Stand.of_body Bd
  have e0 : s₁.heap = h0 := by rw [← hh, Bd.state]; rfl
  have N0 := Fr.nil n0
  have P0 : Wy p.tables e below (s₁.setTop (entryFrame m #[(.ref ad)] 1)) (s₁.setTop (mkF m 0 #[.val (.ref ad)] [])) := fun t k => castTop (ef_rm4 m ad) k
  have P1 : Wy p.tables e below (s₁.setTop (entryFrame m #[(.ref ad)] 1)) (s₁.setTop (mkF m 1 #[.val (.ref ad)] [(.ref ad)])) := fun t k => P0 t (by
    show Steps p.tables e below (s₁.setTop (mkF m 0 #[.val (.ref ad)] [])) _
    refine XS.aloadN X0.here hx rfl (hb hby d4_0) rfl rfl  ?_
    exact k)
  obtain ⟨_, _, ⟨T2, L2, k2, n2⟩, -, X2, ⟨Lc2, hQ2, l2, y2, z2⟩, st2⟩ := X0.specialBack hx (y := (⟨"java/util/AbstractCollection", "<init>", "()V"⟩ : MethodName)) rfl hown (mvT hZ (hw _ (List.mem_of_getElem? (i := 21) rfl))) (mvT hZ (hw _ (List.mem_of_getElem? (i := 22) rfl))) (mvT hZ (hw _ (List.mem_of_getElem? (i := 26) rfl))) (by decide) (backOf (W := 0) (rm5 l Z a0 hw [] ad  h0 n0 Z0   ) hZ (hw _ (List.mem_of_getElem? (i := 26) rfl)) (hw _ (List.mem_of_getElem? (i := 25) rfl)) (by decide) (by decide)) (g := (mkF m 1 #[.val (.ref ad)] [(.ref ad)])) rfl (by rw [hml]; rfl) (Steps.refl _) (a := ad) (argsL := []) (rest := []) (lenOf pd_lrV rfl) rfl (by show 2 * 0 + _ ≤ _; exact Nat.le_of_eq rfl) (hb hby d4_1) (fun _ _ => ⟨rfl, e0, (by decide : 0 + 0 ≤ _), (by decide : 0 + 0 ≤ _)⟩)
  dsimp only [Pt.U, Pt.locs, Pt.cells, Pt.slots] at X2 l2 y2 z2 st2 hQ2
  subst l2 y2 z2
  obtain ⟨rfl, N2q, e2⟩ := hQ2
  have N2 := Fr.app N0 N2q
  have P3 : Wy p.tables e below (s₁.setTop (entryFrame m #[(.ref ad)] 1)) (T2.setTop (mkF m 4 #[.val (.ref ad)] [])) := fun t k => P1 t (st2.trans k)
  obtain ⟨fs, hr, hrun, hended, hW, hsame⟩ := X2.leave (v := none) (fun _ => rfl)
  refine ⟨_, _, P3 _ ?_, hrun, hended, _, _, rfl, ?_, ⟨_, rfl⟩, hW, hsame.mono (by decide) (by decide)⟩
  · show Steps p.tables e below (T2.setTop (mkF m 4 #[.val (.ref ad)] [])) _
    exact X2.returnOut hx Bd.returns (hb hby d4_4) hr
  · show Q4 Z ad h0 n0 _ T2.heap _
    rw [e2]
    exact ⟨rfl, N2, rfl⟩
theorem d6_0 : decode jdk_69_method_7_code 0 = .ok (.aload_n 0, 1) := by decide +kernel
theorem d6_1 : decode jdk_69_method_7_code 1 = .ok (.invokespecial 43, 3) := by decide +kernel
theorem d6_4 : decode jdk_69_method_7_code 4 = .ok (.aload_n 0, 1) := by decide +kernel
theorem d6_5 : decode jdk_69_method_7_code 5 = .ok (.ldc 92, 2) := by decide +kernel
theorem d6_7 : decode jdk_69_method_7_code 7 = .ok (.putfield 81, 3) := by decide +kernel
theorem d6_10 : decode jdk_69_method_7_code 10 = .ok (.return_, 1) := by decide +kernel
theorem pn_java_util_HashMap : plainName "java/util/HashMap" = true := by first | (simp [plainName, overriddenIn]; done) | decide +kernel
theorem ef_rm6 (m : MethodId) (ad : Addr)  : entryFrame m #[(.ref ad)] 1 = (mkF m 0 #[.val (.ref ad)] []) := by first | (simp [entryFrame, mkF, argsToLocals, Value.category]; done) | rfl
def Q6 (Z : State) (ad : Addr) (h0 : Heap) (n0 : Nat) (v : Option Value) (h : Heap) (L : List Loc) : Prop := v = none ∧ Fr n0 L ∧ Keep h0 h [ad] ∧ Exa Z h ad "java/util/HashMap"
set_option maxRecDepth 65536 in
set_option maxHeartbeats 40000000 in
theorem rm6 (l : Launch) (Z : State) (a0 : Array Value) (hw : ∀ d ∈ tables_1, d.before a0 Z = true) (ws : List Jvm.Cond) (ad : Addr) (h0 : Heap) (n0 : Nat) (Z0 : n0 ≤ h0.size) (E_ad : Exa Z h0 ad "java/util/HashMap") (F_loadFactor : Fld Z h0 ad "java/util/HashMap" "loadFactor" "F" (.float (0 : UInt32))) (g_ad : n0 ≤ ad)  :
    MetFree l (⟨"java/util/HashMap", "<init>", "()V"⟩ : MethodName) (head1 (Jvm.Cond.code (⟨"java/util/HashMap", "<init>", "()V"⟩ : MethodName) jdk_69_method_7_code 1 none :: ws) ({ frames := 2, cells := 0, slots := 0, locals := 24 } : Room)) (fun a U => a = #[(.ref ad)] ∧ Z.Warmed39 U.vm ∧ U.heap = h0) (fun _ _ _ _ _ => True) (fun _ U o U' => ∃ v L, o = .returned v ∧ Q6 Z ad h0 n0 v U'.heap L ∧ FrameEnd U o U' L ({ frames := 2, cells := 0, slots := 0, locals := 24 } : Room).cells ({ frames := 2, cells := 0, slots := 0, locals := 24 } : Room).slots) := by
  refine MetFree.of_bodySF (plainFor_of_name pn_java_util_HashMap) hisR ?_
  intro p e s m args below meth c s₁ Bd hml0 hP hK
  obtain ⟨rfl, hZ, hh⟩ := hP
  have hx := Bd.exec
  have hby := Bd.bytes
  have hml : c.maxLocals = 1 := hml0
  have hown : s.vm.findClass "java/util/HashMap" = some m.cls := findClass_of_methodNamed Bd.named
  have hnm := (name_of_methodNamed Bd.named Bd.method).1
  have X0 : Stand p l e ({ frames := 2, cells := 0, slots := 0, locals := 24 } : Room) s m #[(.ref ad)] below meth c s₁ [] 0 0 := Stand.of_body Bd
  have e0 : s₁.heap = h0 := by rw [← hh, Bd.state]; rfl
  have N0 := Fr.nil n0
  have P0 : Wy p.tables e below (s₁.setTop (entryFrame m #[(.ref ad)] 1)) (s₁.setTop (mkF m 0 #[.val (.ref ad)] [])) := fun t k => castTop (ef_rm6 m ad) k
  have P1 : Wy p.tables e below (s₁.setTop (entryFrame m #[(.ref ad)] 1)) (s₁.setTop (mkF m 1 #[.val (.ref ad)] [(.ref ad)])) := fun t k => P0 t (by
    show Steps p.tables e below (s₁.setTop (mkF m 0 #[.val (.ref ad)] [])) _
    refine XS.aloadN X0.here hx rfl (hb hby d6_0) rfl rfl  ?_
    exact k)
  obtain ⟨_, _, ⟨T2, L2, k2, n2⟩, -, X2, ⟨Lc2, hQ2, l2, y2, z2⟩, st2⟩ := X0.specialBack hx (y := (⟨"java/util/AbstractMap", "<init>", "()V"⟩ : MethodName)) rfl hown (mvT hZ (hw _ (List.mem_of_getElem? (i := 35) rfl))) (mvT hZ (hw _ (List.mem_of_getElem? (i := 36) rfl))) (mvT hZ (hw _ (List.mem_of_getElem? (i := 40) rfl))) (by decide) (backOf (W := 0) (rm7 l Z a0 hw [] ad  h0 n0 Z0   ) hZ (hw _ (List.mem_of_getElem? (i := 40) rfl)) (hw _ (List.mem_of_getElem? (i := 39) rfl)) (by decide) (by decide)) (g := (mkF m 1 #[.val (.ref ad)] [(.ref ad)])) rfl (by rw [hml]; rfl) (Steps.refl _) (a := ad) (argsL := []) (rest := []) (lenOf pd_lrV rfl) rfl (by show 2 * 0 + _ ≤ _; exact Nat.le_of_eq rfl) (hb hby d6_1) (fun _ _ => ⟨rfl, e0, (by decide : 0 + 0 ≤ _), (by decide : 0 + 0 ≤ _)⟩)
  dsimp only [Pt.U, Pt.locs, Pt.cells, Pt.slots] at X2 l2 y2 z2 st2 hQ2
  subst l2 y2 z2
  obtain ⟨rfl, N2q, e2⟩ := hQ2
  have N2 := Fr.app N0 N2q
  have P3 : Wy p.tables e below (s₁.setTop (entryFrame m #[(.ref ad)] 1)) (T2.setTop (mkF m 4 #[.val (.ref ad)] [])) := fun t k => P1 t (st2.trans k)
  have P4 : Wy p.tables e below (s₁.setTop (entryFrame m #[(.ref ad)] 1)) (T2.setTop (mkF m 7 #[.val (.ref ad)] [(.float (1061158912 : UInt32)), (.ref ad)])) := fun t k => P3 t (by
    show Steps p.tables e below (T2.setTop (mkF m 4 #[.val (.ref ad)] [])) _
    refine XS.aloadN X2.here hx rfl (hb hby d6_4) rfl rfl  ?_
    show Steps p.tables e below (T2.setTop (mkF m 5 #[.val (.ref ad)] [(.ref ad)])) _
    refine X2.ldcFloatC hx hown (mvT hZ (hw _ (List.mem_of_getElem? (i := 42) rfl))) (g := (mkF m 5 #[.val (.ref ad)] [(.ref ad)])) rfl (hb hby d6_5) _ ?_
    exact k)
  obtain ⟨T5, h5, X5, e5, W5, st5⟩ := putF X2 hx hZ hown (host := "") (Or.inl (hw _ (List.mem_of_getElem? (i := 43) rfl))) Via.refl e2 F_loadFactor E_ad (Or.inr ⟨(hw _ (List.mem_of_getElem? (i := 44) rfl)), rfl, hnm⟩) (hw _ (List.mem_of_getElem? (i := 29) rfl)) (ty := .float) (by decide) rfl rfl (g := (mkF m 7 #[.val (.ref ad)] [(.float (1061158912 : UInt32)), (.ref ad)])) rfl rfl (hb hby d6_7)
  have Fw5 := F_loadFactor.same W5
  have N5 := Fr.snoc X5 N2 g_ad
  have z5 : n0 ≤ h5.size := Nat.le_trans Z0 (Keep.of_wr W5).1
  have A5_ad := E_ad.wr W5
  have K5 : Keep h0 h5 [ad] := (Keep.refl h0 [ad]).wr W5 (Or.inl (List.mem_of_getElem? (i := 0) rfl))
  have P6 : Wy p.tables e below (s₁.setTop (entryFrame m #[(.ref ad)] 1)) (T5.setTop (mkF m 10 #[.val (.ref ad)] [])) := fun t k => P4 t (st5 _ k)
  obtain ⟨fs, hr, hrun, hended, hW, hsame⟩ := X5.leave (v := none) (fun _ => rfl)
  refine ⟨_, _, P6 _ ?_, hrun, hended, _, _, rfl, ?_, ⟨_, rfl⟩, hW, hsame.mono (by decide) (by decide)⟩
  · show Steps p.tables e below (T5.setTop (mkF m 10 #[.val (.ref ad)] [])) _
    exact X5.returnOut hx Bd.returns (hb hby d6_10) hr
  · show Q6 Z ad h0 n0 _ T5.heap _
    rw [e5]
    exact ⟨rfl, N5, K5, A5_ad⟩
theorem d3_0 : decode jdk_93_method_1_code 0 = .ok (.aload_n 0, 1) := by decide +kernel
theorem d3_1 : decode jdk_93_method_1_code 1 = .ok (.invokespecial 1, 3) := by decide +kernel
theorem d3_4 : decode jdk_93_method_1_code 4 = .ok (.aload_n 0, 1) := by decide +kernel
theorem d3_5 : decode jdk_93_method_1_code 5 = .ok (.new 7, 3) := by decide +kernel
theorem d3_8 : decode jdk_93_method_1_code 8 = .ok (.dup, 1) := by decide +kernel
theorem d3_9 : decode jdk_93_method_1_code 9 = .ok (.invokespecial 9, 3) := by decide +kernel
theorem d3_12 : decode jdk_93_method_1_code 12 = .ok (.putfield 10, 3) := by decide +kernel
theorem d3_15 : decode jdk_93_method_1_code 15 = .ok (.return_, 1) := by decide +kernel
theorem pn_java_util_HashSet : plainName "java/util/HashSet" = true := by first | (simp [plainName, overriddenIn]; done) | decide +kernel
theorem ef_rm3 (m : MethodId) (ad : Addr)  : entryFrame m #[(.ref ad)] 1 = (mkF m 0 #[.val (.ref ad)] []) := by first | (simp [entryFrame, mkF, argsToLocals, Value.category]; done) | rfl
def Q3 (Z : State) (ad : Addr) (h0 : Heap) (n0 : Nat) (v : Option Value) (h : Heap) (L : List Loc) : Prop := v = none ∧ Fr n0 L ∧ Keep h0 h [ad] ∧ Exa Z h ad "java/util/HashSet"
set_option maxRecDepth 65536 in
set_option maxHeartbeats 40000000 in
theorem rm3 (l : Launch) (Z : State) (a0 : Array Value) (hw : ∀ d ∈ tables_1, d.before a0 Z = true) (ws : List Jvm.Cond) (ad : Addr) (h0 : Heap) (n0 : Nat) (Z0 : n0 ≤ h0.size) (E_ad : Exa Z h0 ad "java/util/HashSet") (F_map : Fld Z h0 ad "java/util/HashSet" "map" "Ljava/util/HashMap;" .null) (g_ad : n0 ≤ ad)  :
    MetFree l (⟨"java/util/HashSet", "<init>", "()V"⟩ : MethodName) (head1 (Jvm.Cond.code (⟨"java/util/HashSet", "<init>", "()V"⟩ : MethodName) jdk_93_method_1_code 1 none :: ws) ({ frames := 3, cells := 1, slots := 8, locals := 38 } : Room)) (fun a U => a = #[(.ref ad)] ∧ Z.Warmed39 U.vm ∧ U.heap = h0) (fun _ _ _ _ _ => True) (fun _ U o U' => ∃ v L, o = .returned v ∧ Q3 Z ad h0 n0 v U'.heap L ∧ FrameEnd U o U' L ({ frames := 3, cells := 1, slots := 8, locals := 38 } : Room).cells ({ frames := 3, cells := 1, slots := 8, locals := 38 } : Room).slots) := by
  refine MetFree.of_bodySF (plainFor_of_name pn_java_util_HashSet) hisR ?_
  intro p e s m args below meth c s₁ Bd hml0 hP hK
  obtain ⟨rfl, hZ, hh⟩ := hP
  have hx := Bd.exec
  have hby := Bd.bytes
  have hml : c.maxLocals = 1 := hml0
  have hown : s.vm.findClass "java/util/HashSet" = some m.cls := findClass_of_methodNamed Bd.named
  have hnm := (name_of_methodNamed Bd.named Bd.method).1
  have X0 : Stand p l e ({ frames := 3, cells := 1, slots := 8, locals := 38 } : Room) s m #[(.ref ad)] below meth c s₁ [] 0 0 := Stand.of_body Bd
  have e0 : s₁.heap = h0 := by rw [← hh, Bd.state]; rfl
  have N0 := Fr.nil n0
  have P0 : Wy p.tables e below (s₁.setTop (entryFrame m #[(.ref ad)] 1)) (s₁.setTop (mkF m 0 #[.val (.ref ad)] [])) := fun t k => castTop (ef_rm3 m ad) k
  have P1 : Wy p.tables e below (s₁.setTop (entryFrame m #[(.ref ad)] 1)) (s₁.setTop (mkF m 1 #[.val (.ref ad)] [(.ref ad)])) := fun t k => P0 t (by
    show Steps p.tables e below (s₁.setTop (mkF m 0 #[.val (.ref ad)] [])) _
    refine XS.aloadN X0.here hx rfl (hb hby d3_0) rfl rfl  ?_
    exact k)
  obtain ⟨_, _, ⟨T2, L2, k2, n2⟩, -, X2, ⟨Lc2, hQ2, l2, y2, z2⟩, st2⟩ := X0.specialBack hx (y := (⟨"java/util/AbstractSet", "<init>", "()V"⟩ : MethodName)) rfl hown (mvT hZ (hw _ (List.mem_of_getElem? (i := 15) rfl))) (mvT hZ (hw _ (List.mem_of_getElem? (i := 16) rfl))) (mvT hZ (hw _ (List.mem_of_getElem? (i := 20) rfl))) (by decide) (backOf (W := 0) (rm4 l Z a0 hw [] ad  h0 n0 Z0   ) hZ (hw _ (List.mem_of_getElem? (i := 20) rfl)) (hw _ (List.mem_of_getElem? (i := 19) rfl)) (by decide) (by decide)) (g := (mkF m 1 #[.val (.ref ad)] [(.ref ad)])) rfl (by rw [hml]; rfl) (Steps.refl _) (a := ad) (argsL := []) (rest := []) (lenOf pd_lrV rfl) rfl (by show 2 * 0 + _ ≤ _; exact Nat.le_of_eq rfl) (hb hby d3_1) (fun _ _ => ⟨rfl, e0, (by decide : 0 + 0 ≤ _), (by decide : 0 + 0 ≤ _)⟩)
  dsimp only [Pt.U, Pt.locs, Pt.cells, Pt.slots] at X2 l2 y2 z2 st2 hQ2
  subst l2 y2 z2
  obtain ⟨rfl, N2q, e2⟩ := hQ2
  have N2 := Fr.app N0 N2q
  have P3 : Wy p.tables e below (s₁.setTop (entryFrame m #[(.ref ad)] 1)) (T2.setTop (mkF m 4 #[.val (.ref ad)] [])) := fun t k => P1 t (st2.trans k)
  have P4 : Wy p.tables e below (s₁.setTop (entryFrame m #[(.ref ad)] 1)) (T2.setTop (mkF m 5 #[.val (.ref ad)] [(.ref ad)])) := fun t k => P3 t (by
    show Steps p.tables e below (T2.setTop (mkF m 4 #[.val (.ref ad)] [])) _
    refine XS.aloadN X2.here hx rfl (hb hby d3_4) rfl rfl  ?_
    exact k)
  obtain ⟨T5, h5, X5, e5, E5, A5, D5, -, st5⟩ := newO X2 hx hZ hown (hw _ (List.mem_of_getElem? (i := 28) rfl)) (hw _ (List.mem_of_getElem? (i := 29) rfl)) (hw _ (List.mem_of_getElem? (i := 30) rfl)) e2 (g := (mkF m 5 #[.val (.ref ad)] [(.ref ad)])) rfl (hb hby d3_5) (by decide) (by decide)
  obtain ⟨b5, g5⟩ : ∃ z, z = h0.size := ⟨_, rfl⟩
  rw [← g5] at A5 D5 st5
  have g_b5 : n0 ≤ b5 := Nat.le_trans Z0 (Nat.le_of_eq g5.symm)
  have z5 : n0 ≤ h5.size := Nat.le_trans Z0 E5.1
  have ne_ad_b5 : ad ≠ b5 := Nat.ne_of_lt (Nat.lt_of_lt_of_le E_ad.lt (Nat.le_of_eq g5.symm))
  have sz_b5 : h0.size ≤ b5 := Nat.le_trans (Keep.refl h0 [ad]).1 (Nat.le_of_eq g5.symm)
  have K5 : Keep h0 h5 [ad] := (Keep.refl h0 [ad]).ext E5
  have A5_ad := E_ad.ext E5
  have F5_ad_map := F_map.ext E5
  have F5_loadFactor : Fld Z h5 b5 "java/util/HashMap" "loadFactor" "F" (.float (0 : UInt32)) := D5 (Or.inr (hw _ (List.mem_of_getElem? (i := 44) rfl))) (ty := .float) (by decide)
  have P6 : Wy p.tables e below (s₁.setTop (entryFrame m #[(.ref ad)] 1)) (T5.setTop (mkF m 8 #[.val (.ref ad)] [(.ref b5), (.ref ad)])) := fun t k => P4 t (st5 _ k)
  have P7 : Wy p.tables e below (s₁.setTop (entryFrame m #[(.ref ad)] 1)) (T5.setTop (mkF m 9 #[.val (.ref ad)] [(.ref b5), (.ref b5), (.ref ad)])) := fun t k => P6 t (by
    show Steps p.tables e below (T5.setTop (mkF m 8 #[.val (.ref ad)] [(.ref b5), (.ref ad)])) _
    refine XS.dup X5.here hx rfl (hb hby d3_8) rfl rfl ?_
    exact k)
  obtain ⟨_, _, ⟨T8, L8, k8, n8⟩, -, X8, ⟨Lc8, hQ8, l8, y8, z8⟩, st8⟩ := X5.specialBack hx (y := (⟨"java/util/HashMap", "<init>", "()V"⟩ : MethodName)) rfl hown (mvT hZ (hw _ (List.mem_of_getElem? (i := 31) rfl))) (mvT hZ (hw _ (List.mem_of_getElem? (i := 32) rfl))) (mvT hZ (hw _ (List.mem_of_getElem? (i := 34) rfl))) (by decide) (backOf (W := 2) (rm6 l Z a0 hw [] b5  h5 n0 z5 A5 F5_loadFactor g_b5 ) hZ (hw _ (List.mem_of_getElem? (i := 34) rfl)) (hw _ (List.mem_of_getElem? (i := 30) rfl)) (by decide) (by decide)) (g := (mkF m 9 #[.val (.ref ad)] [(.ref b5), (.ref b5), (.ref ad)])) rfl (by rw [hml]; rfl) (Steps.refl _) (a := b5) (argsL := []) (rest := [(.ref b5), (.ref ad)]) (lenOf pd_lrV rfl) rfl (by show 2 * 0 + _ ≤ _; exact Nat.le_of_eq rfl) (hb hby d3_9) (fun _ _ => ⟨rfl, e5, (by decide : 1 + 0 ≤ _), (by decide : 8 + 0 ≤ _)⟩)
  dsimp only [Pt.U, Pt.locs, Pt.cells, Pt.slots] at X8 l8 y8 z8 st8 hQ8
  subst l8 y8 z8
  obtain ⟨rfl, N8q, K8q, E8q⟩ := hQ8
  have N8 := Fr.app N2 N8q
  have K8 : Keep h0 T8.heap [ad] := K5.trans K8q (fun y hy => by cases List.mem_singleton.mp hy; exact Or.inr sz_b5)
  have z8k : n0 ≤ T8.heap.size := Nat.le_trans z5 K8q.1
  have A8_ad := A5_ad.keep K8q
  have A8_b5 := A5.keep K8q
  have F8_ad_map := F5_ad_map.keep K8q (own_nm ne_ad_b5)
  have P9 : Wy p.tables e below (s₁.setTop (entryFrame m #[(.ref ad)] 1)) (T8.setTop (mkF m 12 #[.val (.ref ad)] [(.ref b5), (.ref ad)])) := fun t k => P7 t (st8.trans k)
  obtain ⟨T10, h10, X10, e10, W10, st10⟩ := putF X8 hx hZ hown (host := "") (Or.inl (hw _ (List.mem_of_getElem? (i := 45) rfl))) Via.refl rfl F8_ad_map A8_ad (Or.inl (hw _ (List.mem_of_getElem? (i := 46) rfl))) (hw _ (List.mem_of_getElem? (i := 10) rfl)) (ty := (.object "java/util/HashMap")) (by decide) rfl rfl (g := (mkF m 12 #[.val (.ref ad)] [(.ref b5), (.ref ad)])) rfl rfl (hb hby d3_12)
  have Fw10 := F8_ad_map.same W10
  have N10 := Fr.snoc X10 N8 g_ad
  have z10 : n0 ≤ h10.size := Nat.le_trans z8k (Keep.of_wr W10).1
  have A10_ad := A8_ad.wr W10
  have A10_b5 := E8q.wr W10
  have K10 : Keep h0 h10 [ad] := K8.wr W10 (Or.inl (List.mem_of_getElem? (i := 0) rfl))
  have P11 : Wy p.tables e below (s₁.setTop (entryFrame m #[(.ref ad)] 1)) (T10.setTop (mkF m 15 #[.val (.ref ad)] [])) := fun t k => P9 t (st10 _ k)
  obtain ⟨fs, hr, hrun, hended, hW, hsame⟩ := X10.leave (v := none) (fun _ => rfl)
  refine ⟨_, _, P11 _ ?_, hrun, hended, _, _, rfl, ?_, ⟨_, rfl⟩, hW, hsame.mono (by decide) (by decide)⟩
  · show Steps p.tables e below (T10.setTop (mkF m 15 #[.val (.ref ad)] [])) _
    exact X10.returnOut hx Bd.returns (hb hby d3_15) hr
  · show Q3 Z ad h0 n0 _ T10.heap _
    rw [e10]
    exact ⟨rfl, N10, K10, A10_ad⟩
theorem d1_0 : decode prog_58_method_1_code 0 = .ok (.aload_n 0, 1) := by decide +kernel
theorem d1_1 : decode prog_58_method_1_code 1 = .ok (.invokespecial 1, 3) := by decide +kernel
theorem d1_4 : decode prog_58_method_1_code 4 = .ok (.aload_n 0, 1) := by decide +kernel
theorem d1_5 : decode prog_58_method_1_code 5 = .ok (.new 7, 3) := by decide +kernel
theorem d1_8 : decode prog_58_method_1_code 8 = .ok (.dup, 1) := by decide +kernel
theorem d1_9 : decode prog_58_method_1_code 9 = .ok (.invokespecial 9, 3) := by decide +kernel
theorem d1_12 : decode prog_58_method_1_code 12 = .ok (.putfield 10, 3) := by decide +kernel
theorem d1_15 : decode prog_58_method_1_code 15 = .ok (.aload_n 0, 1) := by decide +kernel
theorem d1_16 : decode prog_58_method_1_code 16 = .ok (.new 16, 3) := by decide +kernel
theorem d1_19 : decode prog_58_method_1_code 19 = .ok (.dup, 1) := by decide +kernel
theorem d1_20 : decode prog_58_method_1_code 20 = .ok (.invokespecial 18, 3) := by decide +kernel
theorem d1_23 : decode prog_58_method_1_code 23 = .ok (.putfield 19, 3) := by decide +kernel
theorem d1_26 : decode prog_58_method_1_code 26 = .ok (.aload_n 0, 1) := by decide +kernel
theorem d1_27 : decode prog_58_method_1_code 27 = .ok (.lload_n 1, 1) := by decide +kernel
theorem d1_28 : decode prog_58_method_1_code 28 = .ok (.putfield 23, 3) := by decide +kernel
theorem d1_31 : decode prog_58_method_1_code 31 = .ok (.aload_n 0, 1) := by decide +kernel
theorem d1_32 : decode prog_58_method_1_code 32 = .ok (.lload_n 3, 1) := by decide +kernel
theorem d1_33 : decode prog_58_method_1_code 33 = .ok (.putfield 27, 3) := by decide +kernel
theorem d1_36 : decode prog_58_method_1_code 36 = .ok (.return_, 1) := by decide +kernel
theorem pn_com_example_fifo3_fifo3_client_Resync : plainName "com/example/fifo3/fifo3/client/Resync" = true := by first | (simp [plainName, overriddenIn]; done) | decide +kernel
theorem ef_rm1 (m : MethodId) (ad : Addr) (qx : Int64) (qy : Int64)  : entryFrame m #[(.ref ad), (.long qx), (.long qy)] 5 = (mkF m 0 #[.val (.ref ad), .val (.long qx), .second, .val (.long qy), .second] []) := by first | (simp [entryFrame, mkF, argsToLocals, Value.category]; done) | rfl
def Q1 (Z : State) (ad : Addr) (qx : Int64) (qy : Int64) (h0 : Heap) (n0 : Nat) (v : Option Value) (h : Heap) (L : List Loc) : Prop := v = none ∧ Fr n0 L ∧ Keep h0 h [ad] ∧ Exa Z h ad "com/example/fifo3/fifo3/client/Resync" ∧ Fld Z h ad "com/example/fifo3/fifo3/client/Resync" "correlationId" "J" (.long qx) ∧ Fld Z h ad "com/example/fifo3/fifo3/client/Resync" "place" "J" (.long qy)
set_option maxRecDepth 65536 in
set_option maxHeartbeats 40000000 in
theorem rm1 (l : Launch) (Z : State) (a0 : Array Value) (hw : ∀ d ∈ tables_1, d.before a0 Z = true) (ws : List Jvm.Cond) (ad : Addr) (qx : Int64) (qy : Int64) (h0 : Heap) (n0 : Nat) (Z0 : n0 ≤ h0.size) (E_ad : Exa Z h0 ad "com/example/fifo3/fifo3/client/Resync") (F_registrations : Fld Z h0 ad "com/example/fifo3/fifo3/client/Resync" "registrations" "Ljava/util/Set;" .null) (F_images : Fld Z h0 ad "com/example/fifo3/fifo3/client/Resync" "images" "Ljava/util/Map;" .null) (F_correlationId : Fld Z h0 ad "com/example/fifo3/fifo3/client/Resync" "correlationId" "J" (.long (0 : Int64))) (F_place : Fld Z h0 ad "com/example/fifo3/fifo3/client/Resync" "place" "J" (.long (0 : Int64))) (g_ad : n0 ≤ ad)  :
    MetFree l (⟨"com/example/fifo3/fifo3/client/Resync", "<init>", "(JJ)V"⟩ : MethodName) (head1 (Jvm.Cond.code (⟨"com/example/fifo3/fifo3/client/Resync", "<init>", "(JJ)V"⟩ : MethodName) prog_58_method_1_code 5 none :: ws) ({ frames := 4, cells := 3, slots := 17, locals := 52 } : Room)) (fun a U => a = #[(.ref ad), (.long qx), (.long qy)] ∧ Z.Warmed39 U.vm ∧ U.heap = h0) (fun _ _ _ _ _ => True) (fun _ U o U' => ∃ v L, o = .returned v ∧ Q1 Z ad qx qy h0 n0 v U'.heap L ∧ FrameEnd U o U' L ({ frames := 4, cells := 3, slots := 17, locals := 52 } : Room).cells ({ frames := 4, cells := 3, slots := 17, locals := 52 } : Room).slots) := by
  refine MetFree.of_bodySF (plainFor_of_name pn_com_example_fifo3_fifo3_client_Resync) hisR ?_
  intro p e s m args below meth c s₁ Bd hml0 hP hK
  obtain ⟨rfl, hZ, hh⟩ := hP
  have hx := Bd.exec
  have hby := Bd.bytes
  have hml : c.maxLocals = 5 := hml0
  have hown : s.vm.findClass "com/example/fifo3/fifo3/client/Resync" = some m.cls := findClass_of_methodNamed Bd.named
  have hnm := (name_of_methodNamed Bd.named Bd.method).1
  have X0 : Stand p l e ({ frames := 4, cells := 3, slots := 17, locals := 52 } : Room) s m #[(.ref ad), (.long qx), (.long qy)] below meth c s₁ [] 0 0 := Stand.of_body Bd
  have e0 : s₁.heap = h0 := by rw [← hh, Bd.state]; rfl
  have N0 := Fr.nil n0
  have P0 : Wy p.tables e below (s₁.setTop (entryFrame m #[(.ref ad), (.long qx), (.long qy)] 5)) (s₁.setTop (mkF m 0 #[.val (.ref ad), .val (.long qx), .second, .val (.long qy), .second] [])) := fun t k => castTop (ef_rm1 m ad qx qy) k
  have P1 : Wy p.tables e below (s₁.setTop (entryFrame m #[(.ref ad), (.long qx), (.long qy)] 5)) (s₁.setTop (mkF m 1 #[.val (.ref ad), .val (.long qx), .second, .val (.long qy), .second] [(.ref ad)])) := fun t k => P0 t (by
    show Steps p.tables e below (s₁.setTop (mkF m 0 #[.val (.ref ad), .val (.long qx), .second, .val (.long qy), .second] [])) _
    refine XS.aloadN X0.here hx rfl (hb hby d1_0) rfl rfl  ?_
    exact k)
  obtain ⟨T2, X2, e2, st2⟩ := initO X0 hx hZ hown (hw _ (List.mem_of_getElem? (i := 6) rfl)) (hw _ (List.mem_of_getElem? (i := 7) rfl)) (hw _ (List.mem_of_getElem? (i := 8) rfl)) e0 (g := (mkF m 1 #[.val (.ref ad), .val (.long qx), .second, .val (.long qy), .second] [(.ref ad)])) rfl (by rw [hml]; rfl) rfl (hb hby d1_1) (by decide) (W := 0) (by show 2 * 0 + _ ≤ _; exact Nat.le_of_eq rfl) (by decide)
  have P3 : Wy p.tables e below (s₁.setTop (entryFrame m #[(.ref ad), (.long qx), (.long qy)] 5)) (T2.setTop (mkF m 4 #[.val (.ref ad), .val (.long qx), .second, .val (.long qy), .second] [])) := fun t k => P1 t (st2 _ k)
  have P4 : Wy p.tables e below (s₁.setTop (entryFrame m #[(.ref ad), (.long qx), (.long qy)] 5)) (T2.setTop (mkF m 5 #[.val (.ref ad), .val (.long qx), .second, .val (.long qy), .second] [(.ref ad)])) := fun t k => P3 t (by
    show Steps p.tables e below (T2.setTop (mkF m 4 #[.val (.ref ad), .val (.long qx), .second, .val (.long qy), .second] [])) _
    refine XS.aloadN X2.here hx rfl (hb hby d1_4) rfl rfl  ?_
    exact k)
  obtain ⟨T5, h5, X5, e5, E5, A5, D5, -, st5⟩ := newO X2 hx hZ hown (hw _ (List.mem_of_getElem? (i := 9) rfl)) (hw _ (List.mem_of_getElem? (i := 10) rfl)) (hw _ (List.mem_of_getElem? (i := 11) rfl)) e2 (g := (mkF m 5 #[.val (.ref ad), .val (.long qx), .second, .val (.long qy), .second] [(.ref ad)])) rfl (hb hby d1_5) (by decide) (by decide)
  obtain ⟨b5, g5⟩ : ∃ z, z = h0.size := ⟨_, rfl⟩
  rw [← g5] at A5 D5 st5
  have g_b5 : n0 ≤ b5 := Nat.le_trans Z0 (Nat.le_of_eq g5.symm)
  have z5 : n0 ≤ h5.size := Nat.le_trans Z0 E5.1
  have ne_ad_b5 : ad ≠ b5 := Nat.ne_of_lt (Nat.lt_of_lt_of_le E_ad.lt (Nat.le_of_eq g5.symm))
  have sz_b5 : h0.size ≤ b5 := Nat.le_trans (Keep.refl h0 [ad]).1 (Nat.le_of_eq g5.symm)
  have K5 : Keep h0 h5 [ad] := (Keep.refl h0 [ad]).ext E5
  have A5_ad := E_ad.ext E5
  have F5_ad_registrations := F_registrations.ext E5
  have F5_ad_images := F_images.ext E5
  have F5_ad_correlationId := F_correlationId.ext E5
  have F5_ad_place := F_place.ext E5
  have F5_map : Fld Z h5 b5 "java/util/HashSet" "map" "Ljava/util/HashMap;" .null := D5 (Or.inl (hw _ (List.mem_of_getElem? (i := 46) rfl))) (ty := (.object "java/util/HashMap")) (by decide)
  have P6 : Wy p.tables e below (s₁.setTop (entryFrame m #[(.ref ad), (.long qx), (.long qy)] 5)) (T5.setTop (mkF m 8 #[.val (.ref ad), .val (.long qx), .second, .val (.long qy), .second] [(.ref b5), (.ref ad)])) := fun t k => P4 t (st5 _ k)
  have P7 : Wy p.tables e below (s₁.setTop (entryFrame m #[(.ref ad), (.long qx), (.long qy)] 5)) (T5.setTop (mkF m 9 #[.val (.ref ad), .val (.long qx), .second, .val (.long qy), .second] [(.ref b5), (.ref b5), (.ref ad)])) := fun t k => P6 t (by
    show Steps p.tables e below (T5.setTop (mkF m 8 #[.val (.ref ad), .val (.long qx), .second, .val (.long qy), .second] [(.ref b5), (.ref ad)])) _
    refine XS.dup X5.here hx rfl (hb hby d1_8) rfl rfl ?_
    exact k)
  obtain ⟨_, _, ⟨T8, L8, k8, n8⟩, -, X8, ⟨Lc8, hQ8, l8, y8, z8⟩, st8⟩ := X5.specialBack hx (y := (⟨"java/util/HashSet", "<init>", "()V"⟩ : MethodName)) rfl hown (mvT hZ (hw _ (List.mem_of_getElem? (i := 12) rfl))) (mvT hZ (hw _ (List.mem_of_getElem? (i := 13) rfl))) (mvT hZ (hw _ (List.mem_of_getElem? (i := 14) rfl))) (by decide) (backOf (W := 2) (rm3 l Z a0 hw [] b5  h5 n0 z5 A5 F5_map g_b5 ) hZ (hw _ (List.mem_of_getElem? (i := 14) rfl)) (hw _ (List.mem_of_getElem? (i := 11) rfl)) (by decide) (by decide)) (g := (mkF m 9 #[.val (.ref ad), .val (.long qx), .second, .val (.long qy), .second] [(.ref b5), (.ref b5), (.ref ad)])) rfl (by rw [hml]; rfl) (Steps.refl _) (a := b5) (argsL := []) (rest := [(.ref b5), (.ref ad)]) (lenOf pd_lrV rfl) rfl (by show 2 * 0 + _ ≤ _; exact Nat.le_of_eq rfl) (hb hby d1_9) (fun _ _ => ⟨rfl, e5, (by decide : 1 + 1 ≤ _), (by decide : 1 + 8 ≤ _)⟩)
  dsimp only [Pt.U, Pt.locs, Pt.cells, Pt.slots] at X8 l8 y8 z8 st8 hQ8
  subst l8 y8 z8
  obtain ⟨rfl, N8q, K8q, E8q⟩ := hQ8
  have N8 := Fr.app N0 N8q
  have K8 : Keep h0 T8.heap [ad] := K5.trans K8q (fun y hy => by cases List.mem_singleton.mp hy; exact Or.inr sz_b5)
  have z8k : n0 ≤ T8.heap.size := Nat.le_trans z5 K8q.1
  have A8_ad := A5_ad.keep K8q
  have A8_b5 := A5.keep K8q
  have F8_ad_registrations := F5_ad_registrations.keep K8q (own_nm ne_ad_b5)
  have F8_ad_images := F5_ad_images.keep K8q (own_nm ne_ad_b5)
  have F8_ad_correlationId := F5_ad_correlationId.keep K8q (own_nm ne_ad_b5)
  have F8_ad_place := F5_ad_place.keep K8q (own_nm ne_ad_b5)
  have P9 : Wy p.tables e below (s₁.setTop (entryFrame m #[(.ref ad), (.long qx), (.long qy)] 5)) (T8.setTop (mkF m 12 #[.val (.ref ad), .val (.long qx), .second, .val (.long qy), .second] [(.ref b5), (.ref ad)])) := fun t k => P7 t (st8.trans k)
  obtain ⟨T10, h10, X10, e10, W10, st10⟩ := putF X8 hx hZ hown (host := "") (Or.inl (hw _ (List.mem_of_getElem? (i := 47) rfl))) Via.refl rfl F8_ad_registrations A8_ad (Or.inr ⟨(hw _ (List.mem_of_getElem? (i := 48) rfl)), rfl, hnm⟩) (hw _ (List.mem_of_getElem? (i := 1) rfl)) (ty := (.object "java/util/Set")) (by decide) rfl rfl (g := (mkF m 12 #[.val (.ref ad), .val (.long qx), .second, .val (.long qy), .second] [(.ref b5), (.ref ad)])) rfl rfl (hb hby d1_12)
  have Fw10 := F8_ad_registrations.same W10
  have N10 := Fr.snoc X10 N8 g_ad
  have z10 : n0 ≤ h10.size := Nat.le_trans z8k (Keep.of_wr W10).1
  have A10_ad := A8_ad.wr W10
  have A10_b5 := E8q.wr W10
  have F10_ad_images := F8_ad_images.other W10 (Or.inr (slot_ne (Or.inr (hw _ (List.mem_of_getElem? (i := 52) rfl))) (Or.inr (hw _ (List.mem_of_getElem? (i := 48) rfl))) (by decide) (t := (.object "java/util/Map")) (t' := (.object "java/util/Set")) (by decide) (by decide)))
  have F10_ad_correlationId := F8_ad_correlationId.other W10 (Or.inr (slot_ne (Or.inr (hw _ (List.mem_of_getElem? (i := 54) rfl))) (Or.inr (hw _ (List.mem_of_getElem? (i := 48) rfl))) (by decide) (t := .long) (t' := (.object "java/util/Set")) (by decide) (by decide)))
  have F10_ad_place := F8_ad_place.other W10 (Or.inr (slot_ne (Or.inr (hw _ (List.mem_of_getElem? (i := 56) rfl))) (Or.inr (hw _ (List.mem_of_getElem? (i := 48) rfl))) (by decide) (t := .long) (t' := (.object "java/util/Set")) (by decide) (by decide)))
  have K10 : Keep h0 h10 [ad] := K8.wr W10 (Or.inl (List.mem_of_getElem? (i := 0) rfl))
  have P11 : Wy p.tables e below (s₁.setTop (entryFrame m #[(.ref ad), (.long qx), (.long qy)] 5)) (T10.setTop (mkF m 15 #[.val (.ref ad), .val (.long qx), .second, .val (.long qy), .second] [])) := fun t k => P9 t (st10 _ k)
  have P12 : Wy p.tables e below (s₁.setTop (entryFrame m #[(.ref ad), (.long qx), (.long qy)] 5)) (T10.setTop (mkF m 16 #[.val (.ref ad), .val (.long qx), .second, .val (.long qy), .second] [(.ref ad)])) := fun t k => P11 t (by
    show Steps p.tables e below (T10.setTop (mkF m 15 #[.val (.ref ad), .val (.long qx), .second, .val (.long qy), .second] [])) _
    refine XS.aloadN X10.here hx rfl (hb hby d1_15) rfl rfl  ?_
    exact k)
  obtain ⟨T13, h13, X13, e13, E13, A13, D13, -, st13⟩ := newO X10 hx hZ hown (hw _ (List.mem_of_getElem? (i := 49) rfl)) (hw _ (List.mem_of_getElem? (i := 29) rfl)) (hw _ (List.mem_of_getElem? (i := 30) rfl)) e10 (g := (mkF m 16 #[.val (.ref ad), .val (.long qx), .second, .val (.long qy), .second] [(.ref ad)])) rfl (hb hby d1_16) (by decide) (by decide)
  obtain ⟨b13, g13⟩ : ∃ z, z = h10.size := ⟨_, rfl⟩
  rw [← g13] at A13 D13 st13
  have g_b13 : n0 ≤ b13 := Nat.le_trans z10 (Nat.le_of_eq g13.symm)
  have z13 : n0 ≤ h13.size := Nat.le_trans z10 E13.1
  have ne_ad_b13 : ad ≠ b13 := Nat.ne_of_lt (Nat.lt_of_lt_of_le A10_ad.lt (Nat.le_of_eq g13.symm))
  have ne_b5_b13 : b5 ≠ b13 := Nat.ne_of_lt (Nat.lt_of_lt_of_le A10_b5.lt (Nat.le_of_eq g13.symm))
  have sz_b13 : h0.size ≤ b13 := Nat.le_trans K10.1 (Nat.le_of_eq g13.symm)
  have K13 : Keep h0 h13 [ad] := K10.ext E13
  have A13_ad := A10_ad.ext E13
  have A13_b5 := A10_b5.ext E13
  have F13_ad_registrations := Fw10.ext E13
  have F13_ad_images := F10_ad_images.ext E13
  have F13_ad_correlationId := F10_ad_correlationId.ext E13
  have F13_ad_place := F10_ad_place.ext E13
  have F13_loadFactor : Fld Z h13 b13 "java/util/HashMap" "loadFactor" "F" (.float (0 : UInt32)) := D13 (Or.inr (hw _ (List.mem_of_getElem? (i := 44) rfl))) (ty := .float) (by decide)
  have P14 : Wy p.tables e below (s₁.setTop (entryFrame m #[(.ref ad), (.long qx), (.long qy)] 5)) (T13.setTop (mkF m 19 #[.val (.ref ad), .val (.long qx), .second, .val (.long qy), .second] [(.ref b13), (.ref ad)])) := fun t k => P12 t (st13 _ k)
  have P15 : Wy p.tables e below (s₁.setTop (entryFrame m #[(.ref ad), (.long qx), (.long qy)] 5)) (T13.setTop (mkF m 20 #[.val (.ref ad), .val (.long qx), .second, .val (.long qy), .second] [(.ref b13), (.ref b13), (.ref ad)])) := fun t k => P14 t (by
    show Steps p.tables e below (T13.setTop (mkF m 19 #[.val (.ref ad), .val (.long qx), .second, .val (.long qy), .second] [(.ref b13), (.ref ad)])) _
    refine XS.dup X13.here hx rfl (hb hby d1_19) rfl rfl ?_
    exact k)
  obtain ⟨_, _, ⟨T16, L16, k16, n16⟩, -, X16, ⟨Lc16, hQ16, l16, y16, z16⟩, st16⟩ := X13.specialBack hx (y := (⟨"java/util/HashMap", "<init>", "()V"⟩ : MethodName)) rfl hown (mvT hZ (hw _ (List.mem_of_getElem? (i := 50) rfl))) (mvT hZ (hw _ (List.mem_of_getElem? (i := 32) rfl))) (mvT hZ (hw _ (List.mem_of_getElem? (i := 34) rfl))) (by decide) (backOf (W := 2) (rm6 l Z a0 hw [] b13  h13 n0 z13 A13 F13_loadFactor g_b13 ) hZ (hw _ (List.mem_of_getElem? (i := 34) rfl)) (hw _ (List.mem_of_getElem? (i := 30) rfl)) (by decide) (by decide)) (g := (mkF m 20 #[.val (.ref ad), .val (.long qx), .second, .val (.long qy), .second] [(.ref b13), (.ref b13), (.ref ad)])) rfl (by rw [hml]; rfl) (Steps.refl _) (a := b13) (argsL := []) (rest := [(.ref b13), (.ref ad)]) (lenOf pd_lrV rfl) rfl (by show 2 * 0 + _ ≤ _; exact Nat.le_of_eq rfl) (hb hby d1_20) (fun _ _ => ⟨rfl, e13, (by decide : 3 + 0 ≤ _), (by decide : 17 + 0 ≤ _)⟩)
  dsimp only [Pt.U, Pt.locs, Pt.cells, Pt.slots] at X16 l16 y16 z16 st16 hQ16
  subst l16 y16 z16
  obtain ⟨rfl, N16q, K16q, E16q⟩ := hQ16
  have N16 := Fr.app N10 N16q
  have K16 : Keep h0 T16.heap [ad] := K13.trans K16q (fun y hy => by cases List.mem_singleton.mp hy; exact Or.inr sz_b13)
  have z16k : n0 ≤ T16.heap.size := Nat.le_trans z13 K16q.1
  have A16_ad := A13_ad.keep K16q
  have A16_b5 := A13_b5.keep K16q
  have A16_b13 := A13.keep K16q
  have F16_ad_registrations := F13_ad_registrations.keep K16q (own_nm ne_ad_b13)
  have F16_ad_images := F13_ad_images.keep K16q (own_nm ne_ad_b13)
  have F16_ad_correlationId := F13_ad_correlationId.keep K16q (own_nm ne_ad_b13)
  have F16_ad_place := F13_ad_place.keep K16q (own_nm ne_ad_b13)
  have P17 : Wy p.tables e below (s₁.setTop (entryFrame m #[(.ref ad), (.long qx), (.long qy)] 5)) (T16.setTop (mkF m 23 #[.val (.ref ad), .val (.long qx), .second, .val (.long qy), .second] [(.ref b13), (.ref ad)])) := fun t k => P15 t (st16.trans k)
  obtain ⟨T18, h18, X18, e18, W18, st18⟩ := putF X16 hx hZ hown (host := "") (Or.inl (hw _ (List.mem_of_getElem? (i := 51) rfl))) Via.refl rfl F16_ad_images A16_ad (Or.inr ⟨(hw _ (List.mem_of_getElem? (i := 52) rfl)), rfl, hnm⟩) (hw _ (List.mem_of_getElem? (i := 1) rfl)) (ty := (.object "java/util/Map")) (by decide) rfl rfl (g := (mkF m 23 #[.val (.ref ad), .val (.long qx), .second, .val (.long qy), .second] [(.ref b13), (.ref ad)])) rfl rfl (hb hby d1_23)
  have Fw18 := F16_ad_images.same W18
  have N18 := Fr.snoc X18 N16 g_ad
  have z18 : n0 ≤ h18.size := Nat.le_trans z16k (Keep.of_wr W18).1
  have A18_ad := A16_ad.wr W18
  have A18_b5 := A16_b5.wr W18
  have A18_b13 := E16q.wr W18
  have F18_ad_registrations := F16_ad_registrations.other W18 (Or.inr (slot_ne (Or.inr (hw _ (List.mem_of_getElem? (i := 48) rfl))) (Or.inr (hw _ (List.mem_of_getElem? (i := 52) rfl))) (by decide) (t := (.object "java/util/Set")) (t' := (.object "java/util/Map")) (by decide) (by decide)))
  have F18_ad_correlationId := F16_ad_correlationId.other W18 (Or.inr (slot_ne (Or.inr (hw _ (List.mem_of_getElem? (i := 54) rfl))) (Or.inr (hw _ (List.mem_of_getElem? (i := 52) rfl))) (by decide) (t := .long) (t' := (.object "java/util/Map")) (by decide) (by decide)))
  have F18_ad_place := F16_ad_place.other W18 (Or.inr (slot_ne (Or.inr (hw _ (List.mem_of_getElem? (i := 56) rfl))) (Or.inr (hw _ (List.mem_of_getElem? (i := 52) rfl))) (by decide) (t := .long) (t' := (.object "java/util/Map")) (by decide) (by decide)))
  have K18 : Keep h0 h18 [ad] := K16.wr W18 (Or.inl (List.mem_of_getElem? (i := 0) rfl))
  have P19 : Wy p.tables e below (s₁.setTop (entryFrame m #[(.ref ad), (.long qx), (.long qy)] 5)) (T18.setTop (mkF m 26 #[.val (.ref ad), .val (.long qx), .second, .val (.long qy), .second] [])) := fun t k => P17 t (st18 _ k)
  have P20 : Wy p.tables e below (s₁.setTop (entryFrame m #[(.ref ad), (.long qx), (.long qy)] 5)) (T18.setTop (mkF m 28 #[.val (.ref ad), .val (.long qx), .second, .val (.long qy), .second] [(.long qx), (.ref ad)])) := fun t k => P19 t (by
    show Steps p.tables e below (T18.setTop (mkF m 26 #[.val (.ref ad), .val (.long qx), .second, .val (.long qy), .second] [])) _
    refine XS.aloadN X18.here hx rfl (hb hby d1_26) rfl rfl  ?_
    show Steps p.tables e below (T18.setTop (mkF m 27 #[.val (.ref ad), .val (.long qx), .second, .val (.long qy), .second] [(.ref ad)])) _
    refine XS.lloadN X18.here hx rfl (hb hby d1_27) rfl  ?_
    exact k)
  obtain ⟨T21, h21, X21, e21, W21, st21⟩ := putF X18 hx hZ hown (host := "") (Or.inl (hw _ (List.mem_of_getElem? (i := 53) rfl))) Via.refl e18 F18_ad_correlationId A18_ad (Or.inr ⟨(hw _ (List.mem_of_getElem? (i := 54) rfl)), rfl, hnm⟩) (hw _ (List.mem_of_getElem? (i := 1) rfl)) (ty := .long) (by decide) rfl rfl (g := (mkF m 28 #[.val (.ref ad), .val (.long qx), .second, .val (.long qy), .second] [(.long qx), (.ref ad)])) rfl rfl (hb hby d1_28)
  have Fw21 := F18_ad_correlationId.same W21
  have N21 := Fr.snoc X21 N18 g_ad
  have z21 : n0 ≤ h21.size := Nat.le_trans z18 (Keep.of_wr W21).1
  have A21_ad := A18_ad.wr W21
  have A21_b5 := A18_b5.wr W21
  have A21_b13 := A18_b13.wr W21
  have F21_ad_registrations := F18_ad_registrations.other W21 (Or.inr (slot_ne (Or.inr (hw _ (List.mem_of_getElem? (i := 48) rfl))) (Or.inr (hw _ (List.mem_of_getElem? (i := 54) rfl))) (by decide) (t := (.object "java/util/Set")) (t' := .long) (by decide) (by decide)))
  have F21_ad_images := Fw18.other W21 (Or.inr (slot_ne (Or.inr (hw _ (List.mem_of_getElem? (i := 52) rfl))) (Or.inr (hw _ (List.mem_of_getElem? (i := 54) rfl))) (by decide) (t := (.object "java/util/Map")) (t' := .long) (by decide) (by decide)))
  have F21_ad_place := F18_ad_place.other W21 (Or.inr (slot_ne (Or.inr (hw _ (List.mem_of_getElem? (i := 56) rfl))) (Or.inr (hw _ (List.mem_of_getElem? (i := 54) rfl))) (by decide) (t := .long) (t' := .long) (by decide) (by decide)))
  have K21 : Keep h0 h21 [ad] := K18.wr W21 (Or.inl (List.mem_of_getElem? (i := 0) rfl))
  have P22 : Wy p.tables e below (s₁.setTop (entryFrame m #[(.ref ad), (.long qx), (.long qy)] 5)) (T21.setTop (mkF m 31 #[.val (.ref ad), .val (.long qx), .second, .val (.long qy), .second] [])) := fun t k => P20 t (st21 _ k)
  have P23 : Wy p.tables e below (s₁.setTop (entryFrame m #[(.ref ad), (.long qx), (.long qy)] 5)) (T21.setTop (mkF m 33 #[.val (.ref ad), .val (.long qx), .second, .val (.long qy), .second] [(.long qy), (.ref ad)])) := fun t k => P22 t (by
    show Steps p.tables e below (T21.setTop (mkF m 31 #[.val (.ref ad), .val (.long qx), .second, .val (.long qy), .second] [])) _
    refine XS.aloadN X21.here hx rfl (hb hby d1_31) rfl rfl  ?_
    show Steps p.tables e below (T21.setTop (mkF m 32 #[.val (.ref ad), .val (.long qx), .second, .val (.long qy), .second] [(.ref ad)])) _
    refine XS.lloadN X21.here hx rfl (hb hby d1_32) rfl  ?_
    exact k)
  obtain ⟨T24, h24, X24, e24, W24, st24⟩ := putF X21 hx hZ hown (host := "") (Or.inl (hw _ (List.mem_of_getElem? (i := 55) rfl))) Via.refl e21 F21_ad_place A21_ad (Or.inr ⟨(hw _ (List.mem_of_getElem? (i := 56) rfl)), rfl, hnm⟩) (hw _ (List.mem_of_getElem? (i := 1) rfl)) (ty := .long) (by decide) rfl rfl (g := (mkF m 33 #[.val (.ref ad), .val (.long qx), .second, .val (.long qy), .second] [(.long qy), (.ref ad)])) rfl rfl (hb hby d1_33)
  have Fw24 := F21_ad_place.same W24
  have N24 := Fr.snoc X24 N21 g_ad
  have z24 : n0 ≤ h24.size := Nat.le_trans z21 (Keep.of_wr W24).1
  have A24_ad := A21_ad.wr W24
  have A24_b5 := A21_b5.wr W24
  have A24_b13 := A21_b13.wr W24
  have F24_ad_registrations := F21_ad_registrations.other W24 (Or.inr (slot_ne (Or.inr (hw _ (List.mem_of_getElem? (i := 48) rfl))) (Or.inr (hw _ (List.mem_of_getElem? (i := 56) rfl))) (by decide) (t := (.object "java/util/Set")) (t' := .long) (by decide) (by decide)))
  have F24_ad_images := F21_ad_images.other W24 (Or.inr (slot_ne (Or.inr (hw _ (List.mem_of_getElem? (i := 52) rfl))) (Or.inr (hw _ (List.mem_of_getElem? (i := 56) rfl))) (by decide) (t := (.object "java/util/Map")) (t' := .long) (by decide) (by decide)))
  have F24_ad_correlationId := Fw21.other W24 (Or.inr (slot_ne (Or.inr (hw _ (List.mem_of_getElem? (i := 54) rfl))) (Or.inr (hw _ (List.mem_of_getElem? (i := 56) rfl))) (by decide) (t := .long) (t' := .long) (by decide) (by decide)))
  have K24 : Keep h0 h24 [ad] := K21.wr W24 (Or.inl (List.mem_of_getElem? (i := 0) rfl))
  have P25 : Wy p.tables e below (s₁.setTop (entryFrame m #[(.ref ad), (.long qx), (.long qy)] 5)) (T24.setTop (mkF m 36 #[.val (.ref ad), .val (.long qx), .second, .val (.long qy), .second] [])) := fun t k => P23 t (st24 _ k)
  obtain ⟨fs, hr, hrun, hended, hW, hsame⟩ := X24.leave (v := none) (fun _ => rfl)
  refine ⟨_, _, P25 _ ?_, hrun, hended, _, _, rfl, ?_, ⟨_, rfl⟩, hW, hsame.mono (by decide) (by decide)⟩
  · show Steps p.tables e below (T24.setTop (mkF m 36 #[.val (.ref ad), .val (.long qx), .second, .val (.long qy), .second] [])) _
    exact X24.returnOut hx Bd.returns (hb hby d1_36) hr
  · show Q1 Z ad qx qy h0 n0 _ T24.heap _
    rw [e24]
    exact ⟨rfl, N24, K24, A24_ad, F24_ad_correlationId, Fw24⟩
theorem d8_0 : decode prog_58_method_2_code 0 = .ok (.aload_n 0, 1) := by decide +kernel
theorem d8_1 : decode prog_58_method_2_code 1 = .ok (.getfield 23, 3) := by decide +kernel
theorem d8_4 : decode prog_58_method_2_code 4 = .ok (.lreturn, 1) := by decide +kernel
theorem ef_rm8 (m : MethodId) (ad : Addr)  : entryFrame m #[(.ref ad)] 1 = (mkF m 0 #[.val (.ref ad)] []) := by first | (simp [entryFrame, mkF, argsToLocals, Value.category]; done) | rfl
def Q8 (Z : State) (ad : Addr) (wx : Int64) (h0 : Heap) (n0 : Nat) (v : Option Value) (h : Heap) (L : List Loc) : Prop := v = some (.long wx) ∧ Fr n0 L ∧ h = h0
set_option maxRecDepth 65536 in
set_option maxHeartbeats 40000000 in
theorem rm8 (l : Launch) (Z : State) (a0 : Array Value) (hw : ∀ d ∈ tables_1, d.before a0 Z = true) (ws : List Jvm.Cond) (ad : Addr) (wx : Int64) (h0 : Heap) (n0 : Nat) (Z0 : n0 ≤ h0.size)  (F_correlationId : Fld Z h0 ad "com/example/fifo3/fifo3/client/Resync" "correlationId" "J" (.long wx))  :
    MetFree l (⟨"com/example/fifo3/fifo3/client/Resync", "correlationId", "()J"⟩ : MethodName) (head1 (Jvm.Cond.code (⟨"com/example/fifo3/fifo3/client/Resync", "correlationId", "()J"⟩ : MethodName) prog_58_method_2_code 1 (some .long) :: ws) ({ frames := 0, cells := 0, slots := 0, locals := 0 } : Room)) (fun a U => a = #[(.ref ad)] ∧ Z.Warmed39 U.vm ∧ U.heap = h0) (fun _ _ _ _ _ => True) (fun _ U o U' => ∃ v L, o = .returned v ∧ Q8 Z ad wx h0 n0 v U'.heap L ∧ FrameEnd U o U' L ({ frames := 0, cells := 0, slots := 0, locals := 0 } : Room).cells ({ frames := 0, cells := 0, slots := 0, locals := 0 } : Room).slots) := by
  refine MetFree.of_bodySF (plainFor_of_name pn_com_example_fifo3_fifo3_client_Resync) hisR ?_
  intro p e s m args below meth c s₁ Bd hml0 hP hK
  obtain ⟨rfl, hZ, hh⟩ := hP
  have hx := Bd.exec
  have hby := Bd.bytes
  have hml : c.maxLocals = 1 := hml0
  have hown : s.vm.findClass "com/example/fifo3/fifo3/client/Resync" = some m.cls := findClass_of_methodNamed Bd.named
  have hnm := (name_of_methodNamed Bd.named Bd.method).1
  have X0 : Stand p l e ({ frames := 0, cells := 0, slots := 0, locals := 0 } : Room) s m #[(.ref ad)] below meth c s₁ [] 0 0 := Stand.of_body Bd
  have e0 : s₁.heap = h0 := by rw [← hh, Bd.state]; rfl
  have N0 := Fr.nil n0
  have P0 : Wy p.tables e below (s₁.setTop (entryFrame m #[(.ref ad)] 1)) (s₁.setTop (mkF m 0 #[.val (.ref ad)] [])) := fun t k => castTop (ef_rm8 m ad) k
  have P1 : Wy p.tables e below (s₁.setTop (entryFrame m #[(.ref ad)] 1)) (s₁.setTop (mkF m 1 #[.val (.ref ad)] [(.ref ad)])) := fun t k => P0 t (by
    show Steps p.tables e below (s₁.setTop (mkF m 0 #[.val (.ref ad)] [])) _
    refine XS.aloadN X0.here hx rfl (hb hby d8_0) rfl rfl  ?_
    exact k)
  obtain ⟨T2, X2, e2, st2⟩ := getF X0 hx hZ hown (host := "") (Or.inl (hw _ (List.mem_of_getElem? (i := 53) rfl))) Via.refl e0 F_correlationId (g := (mkF m 1 #[.val (.ref ad)] [(.ref ad)])) rfl rfl (hb hby d8_1)
  have P3 : Wy p.tables e below (s₁.setTop (entryFrame m #[(.ref ad)] 1)) (T2.setTop (mkF m 4 #[.val (.ref ad)] [(.long wx)])) := fun t k => P1 t (st2 _ k)
  obtain ⟨fs, hr, hrun, hended, hW, hsame⟩ := X2.leave (v := some (.long wx)) (fun h => by rw [Bd.returns] at h; cases h)
  refine ⟨_, _, P3 _ ?_, hrun, hended, _, _, rfl, ?_, ⟨_, rfl⟩, hW, hsame.mono (by decide) (by decide)⟩
  · show Steps p.tables e below (T2.setTop (mkF m 4 #[.val (.ref ad)] [(.long wx)])) _
    exact X2.lreturnOut hx Bd.returns (hb hby d8_4) hr
  · show Q8 Z ad wx h0 n0 _ T2.heap _
    rw [e2]
    exact ⟨congrArg (fun z => some (Value.long z)) (show _ = wx from by rfl), N0, rfl⟩
theorem d9_0 : decode prog_58_method_3_code 0 = .ok (.lload_n 1, 1) := by decide +kernel
theorem d9_1 : decode prog_58_method_3_code 1 = .ok (.aload_n 0, 1) := by decide +kernel
theorem d9_2 : decode prog_58_method_3_code 2 = .ok (.getfield 27, 3) := by decide +kernel
theorem d9_5 : decode prog_58_method_3_code 5 = .ok (.lcmp, 1) := by decide +kernel
theorem d9_6 : decode prog_58_method_3_code 6 = .ok (.ifCond .ge 7, 3) := by decide +kernel
theorem d9_9 : decode prog_58_method_3_code 9 = .ok (.iconst 1, 1) := by decide +kernel
theorem d9_10 : decode prog_58_method_3_code 10 = .ok (.goto 4, 3) := by decide +kernel
theorem d9_13 : decode prog_58_method_3_code 13 = .ok (.iconst 0, 1) := by decide +kernel
theorem d9_14 : decode prog_58_method_3_code 14 = .ok (.ireturn, 1) := by decide +kernel
theorem ef_rm9 (m : MethodId) (ad : Addr) (qx : Int64)  : entryFrame m #[(.ref ad), (.long qx)] 3 = (mkF m 0 #[.val (.ref ad), .val (.long qx), .second] []) := by first | (simp [entryFrame, mkF, argsToLocals, Value.category]; done) | rfl
def Q9 (Z : State) (ad : Addr) (qx : Int64) (wx : Int64) (h0 : Heap) (n0 : Nat) (v : Option Value) (h : Heap) (L : List Loc) : Prop := v = some (.int (own_G qx wx)) ∧ Fr n0 L ∧ h = h0
set_option maxRecDepth 65536 in
set_option maxHeartbeats 40000000 in
theorem rm9 (l : Launch) (Z : State) (a0 : Array Value) (hw : ∀ d ∈ tables_1, d.before a0 Z = true) (ws : List Jvm.Cond) (ad : Addr) (qx : Int64) (wx : Int64) (h0 : Heap) (n0 : Nat) (Z0 : n0 ≤ h0.size)  (F_place : Fld Z h0 ad "com/example/fifo3/fifo3/client/Resync" "place" "J" (.long wx))  :
    MetFree l (⟨"com/example/fifo3/fifo3/client/Resync", "follows", "(J)Z"⟩ : MethodName) (head1 (Jvm.Cond.code (⟨"com/example/fifo3/fifo3/client/Resync", "follows", "(J)Z"⟩ : MethodName) prog_58_method_3_code 3 (some .boolean) :: ws) ({ frames := 0, cells := 0, slots := 0, locals := 0 } : Room)) (fun a U => a = #[(.ref ad), (.long qx)] ∧ Z.Warmed39 U.vm ∧ U.heap = h0) (fun _ _ _ _ _ => True) (fun _ U o U' => ∃ v L, o = .returned v ∧ Q9 Z ad qx wx h0 n0 v U'.heap L ∧ FrameEnd U o U' L ({ frames := 0, cells := 0, slots := 0, locals := 0 } : Room).cells ({ frames := 0, cells := 0, slots := 0, locals := 0 } : Room).slots) := by
  refine MetFree.of_bodySF (plainFor_of_name pn_com_example_fifo3_fifo3_client_Resync) hisR ?_
  intro p e s m args below meth c s₁ Bd hml0 hP hK
  obtain ⟨rfl, hZ, hh⟩ := hP
  have hx := Bd.exec
  have hby := Bd.bytes
  have hml : c.maxLocals = 3 := hml0
  have hown : s.vm.findClass "com/example/fifo3/fifo3/client/Resync" = some m.cls := findClass_of_methodNamed Bd.named
  have hnm := (name_of_methodNamed Bd.named Bd.method).1
  have X0 : Stand p l e ({ frames := 0, cells := 0, slots := 0, locals := 0 } : Room) s m #[(.ref ad), (.long qx)] below meth c s₁ [] 0 0 := Stand.of_body Bd
  have e0 : s₁.heap = h0 := by rw [← hh, Bd.state]; rfl
  have N0 := Fr.nil n0
  have P0 : Wy p.tables e below (s₁.setTop (entryFrame m #[(.ref ad), (.long qx)] 3)) (s₁.setTop (mkF m 0 #[.val (.ref ad), .val (.long qx), .second] [])) := fun t k => castTop (ef_rm9 m ad qx) k
  have P1 : Wy p.tables e below (s₁.setTop (entryFrame m #[(.ref ad), (.long qx)] 3)) (s₁.setTop (mkF m 2 #[.val (.ref ad), .val (.long qx), .second] [(.ref ad), (.long qx)])) := fun t k => P0 t (by
    show Steps p.tables e below (s₁.setTop (mkF m 0 #[.val (.ref ad), .val (.long qx), .second] [])) _
    refine XS.lloadN X0.here hx rfl (hb hby d9_0) rfl  ?_
    show Steps p.tables e below (s₁.setTop (mkF m 1 #[.val (.ref ad), .val (.long qx), .second] [(.long qx)])) _
    refine XS.aloadN X0.here hx rfl (hb hby d9_1) rfl rfl  ?_
    exact k)
  obtain ⟨T2, X2, e2, st2⟩ := getF X0 hx hZ hown (host := "") (Or.inl (hw _ (List.mem_of_getElem? (i := 55) rfl))) Via.refl e0 F_place (g := (mkF m 2 #[.val (.ref ad), .val (.long qx), .second] [(.ref ad), (.long qx)])) rfl rfl (hb hby d9_2)
  have P3 : Wy p.tables e below (s₁.setTop (entryFrame m #[(.ref ad), (.long qx)] 3)) (T2.setTop (mkF m 5 #[.val (.ref ad), .val (.long qx), .second] [(.long wx), (.long qx)])) := fun t k => P1 t (st2 _ k)
  have P4 : Wy p.tables e below (s₁.setTop (entryFrame m #[(.ref ad), (.long qx)] 3)) (T2.setTop (mkF m 6 #[.val (.ref ad), .val (.long qx), .second] [(.int (lcmpW qx wx))])) := fun t k => P3 t (by
    show Steps p.tables e below (T2.setTop (mkF m 5 #[.val (.ref ad), .val (.long qx), .second] [(.long wx), (.long qx)])) _
    refine XS.lcmp X2.here hx rfl (hb hby d9_5) rfl ?_
    exact k)
  by_cases hc6_5 : (lcmpW qx wx) < (0 : Int32)
  · have P6 : Wy p.tables e below (s₁.setTop (entryFrame m #[(.ref ad), (.long qx)] 3)) (T2.setTop (mkF m 14 #[.val (.ref ad), .val (.long qx), .second] [(.int (1 : Int32))])) := fun t k => P4 t (by
      show Steps p.tables e below (T2.setTop (mkF m 6 #[.val (.ref ad), .val (.long qx), .second] [(.int (lcmpW qx wx))])) _
      refine XS.ifNo X2.here hx rfl (hb hby d9_6) rfl ((if0 _ _).trans (tlt hc6_5).2.1) ?_
      show Steps p.tables e below (T2.setTop (mkF m 9 #[.val (.ref ad), .val (.long qx), .second] [])) _
      refine XS.iconst X2.here hx rfl (hb hby d9_9) ?_
      show Steps p.tables e below (T2.setTop (mkF m 10 #[.val (.ref ad), .val (.long qx), .second] [(.int (1 : Int32))])) _
      refine XS.goto X2.here hx rfl (pc0 := 10) (pc' := 14) rfl (hb hby d9_10) (by decide) (by decide) ?_
      exact k)
    obtain ⟨fs, hr, hrun, hended, hW, hsame⟩ := X2.leave (v := some (.int (nar .boolean (1 : Int32)))) (fun h => by rw [Bd.returns] at h; cases h)
    refine ⟨_, _, P6 _ ?_, hrun, hended, _, _, rfl, ?_, ⟨_, rfl⟩, hW, hsame.mono (by decide) (by decide)⟩
    · show Steps p.tables e below (T2.setTop (mkF m 14 #[.val (.ref ad), .val (.long qx), .second] [(.int (1 : Int32))])) _
      exact retN X2 hx (t := .boolean) Bd.returns (by simp) (hb hby d9_14) hr
    · show Q9 Z ad qx wx h0 n0 _ T2.heap _
      rw [e2]
      exact ⟨congrArg (fun z => some (Value.int z)) (show _ = own_G qx wx from by simp only [own_G, if_pos hc6_5]; try rfl), N0, rfl⟩
  · have P7 : Wy p.tables e below (s₁.setTop (entryFrame m #[(.ref ad), (.long qx)] 3)) (T2.setTop (mkF m 14 #[.val (.ref ad), .val (.long qx), .second] [(.int (0 : Int32))])) := fun t k => P4 t (by
      show Steps p.tables e below (T2.setTop (mkF m 6 #[.val (.ref ad), .val (.long qx), .second] [(.int (lcmpW qx wx))])) _
      refine XS.ifYes X2.here hx rfl (pc0 := 6) (pc' := 13) rfl (hb hby d9_6) rfl ((if0 _ _).trans (flt hc6_5).2.1) (by decide) (by decide) ?_
      show Steps p.tables e below (T2.setTop (mkF m 13 #[.val (.ref ad), .val (.long qx), .second] [])) _
      refine XS.iconst X2.here hx rfl (hb hby d9_13) ?_
      exact k)
    obtain ⟨fs, hr, hrun, hended, hW, hsame⟩ := X2.leave (v := some (.int (nar .boolean (0 : Int32)))) (fun h => by rw [Bd.returns] at h; cases h)
    refine ⟨_, _, P7 _ ?_, hrun, hended, _, _, rfl, ?_, ⟨_, rfl⟩, hW, hsame.mono (by decide) (by decide)⟩
    · show Steps p.tables e below (T2.setTop (mkF m 14 #[.val (.ref ad), .val (.long qx), .second] [(.int (0 : Int32))])) _
      exact retN X2 hx (t := .boolean) Bd.returns (by simp) (hb hby d9_14) hr
    · show Q9 Z ad qx wx h0 n0 _ T2.heap _
      rw [e2]
      exact ⟨congrArg (fun z => some (Value.int z)) (show _ = own_G qx wx from by simp only [own_G, if_neg hc6_5]; try rfl), N0, rfl⟩
def Fmin (ax : Int64) (bx : Int64) : Int64 := (if (0 : Int32) < (lcmpW ax bx) then bx else ax)
theorem d10_0 : decode jdk_29_method_70_code 0 = .ok (.lload_n 0, 1) := by decide +kernel
theorem d10_1 : decode jdk_29_method_70_code 1 = .ok (.lload_n 2, 1) := by decide +kernel
theorem d10_2 : decode jdk_29_method_70_code 2 = .ok (.lcmp, 1) := by decide +kernel
theorem d10_3 : decode jdk_29_method_70_code 3 = .ok (.ifCond .gt 7, 3) := by decide +kernel
theorem d10_6 : decode jdk_29_method_70_code 6 = .ok (.lload_n 0, 1) := by decide +kernel
theorem d10_7 : decode jdk_29_method_70_code 7 = .ok (.goto 4, 3) := by decide +kernel
theorem d10_10 : decode jdk_29_method_70_code 10 = .ok (.lload_n 2, 1) := by decide +kernel
theorem d10_11 : decode jdk_29_method_70_code 11 = .ok (.lreturn, 1) := by decide +kernel
theorem ef_rm10 (m : MethodId) (ax : Int64) (bx : Int64)  : entryFrame m #[(.long ax), (.long bx)] 4 = (mkF m 0 #[.val (.long ax), .second, .val (.long bx), .second] []) := by first | (simp [entryFrame, mkF, argsToLocals, Value.category]; done) | rfl
def Q10 (Z : State) (ax : Int64) (bx : Int64) (h0 : Heap) (n0 : Nat) (v : Option Value) (h : Heap) (L : List Loc) : Prop := v = some (.long (Fmin ax bx)) ∧ Fr n0 L ∧ h = h0
set_option maxRecDepth 65536 in
set_option maxHeartbeats 40000000 in
theorem rm10 (l : Launch) (Z : State) (a0 : Array Value) (hw : ∀ d ∈ tables_1, d.before a0 Z = true) (ws : List Jvm.Cond) (ax : Int64) (bx : Int64) (h0 : Heap) (n0 : Nat) (Z0 : n0 ≤ h0.size)  :
    MetFree l (⟨"java/lang/Math", "min", "(JJ)J"⟩ : MethodName) (head1 (Jvm.Cond.code (⟨"java/lang/Math", "min", "(JJ)J"⟩ : MethodName) jdk_29_method_70_code 4 (some .long) :: ws) ({ frames := 0, cells := 0, slots := 0, locals := 0 } : Room)) (fun a U => a = #[(.long ax), (.long bx)] ∧ Z.Warmed39 U.vm ∧ U.heap = h0) (fun _ _ _ _ _ => True) (fun _ U o U' => ∃ v L, o = .returned v ∧ Q10 Z ax bx h0 n0 v U'.heap L ∧ FrameEnd U o U' L ({ frames := 0, cells := 0, slots := 0, locals := 0 } : Room).cells ({ frames := 0, cells := 0, slots := 0, locals := 0 } : Room).slots) := by
  refine MetFree.of_bodySF (Jvm.Free.JP.mathPlain rfl (by decide +kernel)) hisR ?_
  intro p e s m args below meth c s₁ Bd hml0 hP hK
  obtain ⟨rfl, hZ, hh⟩ := hP
  have hx := Bd.exec
  have hby := Bd.bytes
  have hml : c.maxLocals = 4 := hml0
  have hown : s.vm.findClass "java/lang/Math" = some m.cls := findClass_of_methodNamed Bd.named
  have hnm := (name_of_methodNamed Bd.named Bd.method).1
  have X0 : Stand p l e ({ frames := 0, cells := 0, slots := 0, locals := 0 } : Room) s m #[(.long ax), (.long bx)] below meth c s₁ [] 0 0 := Stand.of_body Bd
  have e0 : s₁.heap = h0 := by rw [← hh, Bd.state]; rfl
  have N0 := Fr.nil n0
  have P0 : Wy p.tables e below (s₁.setTop (entryFrame m #[(.long ax), (.long bx)] 4)) (s₁.setTop (mkF m 0 #[.val (.long ax), .second, .val (.long bx), .second] [])) := fun t k => castTop (ef_rm10 m ax bx) k
  have P1 : Wy p.tables e below (s₁.setTop (entryFrame m #[(.long ax), (.long bx)] 4)) (s₁.setTop (mkF m 3 #[.val (.long ax), .second, .val (.long bx), .second] [(.int (lcmpW ax bx))])) := fun t k => P0 t (by
    show Steps p.tables e below (s₁.setTop (mkF m 0 #[.val (.long ax), .second, .val (.long bx), .second] [])) _
    refine XS.lloadN X0.here hx rfl (hb hby d10_0) rfl  ?_
    show Steps p.tables e below (s₁.setTop (mkF m 1 #[.val (.long ax), .second, .val (.long bx), .second] [(.long ax)])) _
    refine XS.lloadN X0.here hx rfl (hb hby d10_1) rfl  ?_
    show Steps p.tables e below (s₁.setTop (mkF m 2 #[.val (.long ax), .second, .val (.long bx), .second] [(.long bx), (.long ax)])) _
    refine XS.lcmp X0.here hx rfl (hb hby d10_2) rfl ?_
    exact k)
  by_cases hc3_2 : (0 : Int32) < (lcmpW ax bx)
  · have P3 : Wy p.tables e below (s₁.setTop (entryFrame m #[(.long ax), (.long bx)] 4)) (s₁.setTop (mkF m 11 #[.val (.long ax), .second, .val (.long bx), .second] [(.long bx)])) := fun t k => P1 t (by
      show Steps p.tables e below (s₁.setTop (mkF m 3 #[.val (.long ax), .second, .val (.long bx), .second] [(.int (lcmpW ax bx))])) _
      refine XS.ifYes X0.here hx rfl (pc0 := 3) (pc' := 10) rfl (hb hby d10_3) rfl ((if0 _ _).trans (tlt hc3_2).2.2.1) (by decide) (by decide) ?_
      show Steps p.tables e below (s₁.setTop (mkF m 10 #[.val (.long ax), .second, .val (.long bx), .second] [])) _
      refine XS.lloadN X0.here hx rfl (hb hby d10_10) rfl  ?_
      exact k)
    obtain ⟨fs, hr, hrun, hended, hW, hsame⟩ := X0.leave (v := some (.long bx)) (fun h => by rw [Bd.returns] at h; cases h)
    refine ⟨_, _, P3 _ ?_, hrun, hended, _, _, rfl, ?_, ⟨_, rfl⟩, hW, hsame.mono (by decide) (by decide)⟩
    · show Steps p.tables e below (s₁.setTop (mkF m 11 #[.val (.long ax), .second, .val (.long bx), .second] [(.long bx)])) _
      exact X0.lreturnOut hx Bd.returns (hb hby d10_11) hr
    · show Q10 Z ax bx h0 n0 _ s₁.heap _
      rw [e0]
      exact ⟨congrArg (fun z => some (Value.long z)) (show _ = Fmin ax bx from by simp only [Fmin, if_pos hc3_2]; try rfl), N0, rfl⟩
  · have P4 : Wy p.tables e below (s₁.setTop (entryFrame m #[(.long ax), (.long bx)] 4)) (s₁.setTop (mkF m 11 #[.val (.long ax), .second, .val (.long bx), .second] [(.long ax)])) := fun t k => P1 t (by
      show Steps p.tables e below (s₁.setTop (mkF m 3 #[.val (.long ax), .second, .val (.long bx), .second] [(.int (lcmpW ax bx))])) _
      refine XS.ifNo X0.here hx rfl (hb hby d10_3) rfl ((if0 _ _).trans (flt hc3_2).2.2.1) ?_
      show Steps p.tables e below (s₁.setTop (mkF m 6 #[.val (.long ax), .second, .val (.long bx), .second] [])) _
      refine XS.lloadN X0.here hx rfl (hb hby d10_6) rfl  ?_
      show Steps p.tables e below (s₁.setTop (mkF m 7 #[.val (.long ax), .second, .val (.long bx), .second] [(.long ax)])) _
      refine XS.goto X0.here hx rfl (pc0 := 7) (pc' := 11) rfl (hb hby d10_7) (by decide) (by decide) ?_
      exact k)
    obtain ⟨fs, hr, hrun, hended, hW, hsame⟩ := X0.leave (v := some (.long ax)) (fun h => by rw [Bd.returns] at h; cases h)
    refine ⟨_, _, P4 _ ?_, hrun, hended, _, _, rfl, ?_, ⟨_, rfl⟩, hW, hsame.mono (by decide) (by decide)⟩
    · show Steps p.tables e below (s₁.setTop (mkF m 11 #[.val (.long ax), .second, .val (.long bx), .second] [(.long ax)])) _
      exact X0.lreturnOut hx Bd.returns (hb hby d10_11) hr
    · show Q10 Z ax bx h0 n0 _ s₁.heap _
      rw [e0]
      exact ⟨congrArg (fun z => some (Value.long z)) (show _ = Fmin ax bx from by simp only [Fmin, if_neg hc3_2]; try rfl), N0, rfl⟩
def Fmax (ax : Int64) (bx : Int64) : Int64 := (if (lcmpW ax bx) < (0 : Int32) then bx else ax)
theorem d11_0 : decode jdk_29_method_66_code 0 = .ok (.lload_n 0, 1) := by decide +kernel
theorem d11_1 : decode jdk_29_method_66_code 1 = .ok (.lload_n 2, 1) := by decide +kernel
theorem d11_2 : decode jdk_29_method_66_code 2 = .ok (.lcmp, 1) := by decide +kernel
theorem d11_3 : decode jdk_29_method_66_code 3 = .ok (.ifCond .lt 7, 3) := by decide +kernel
theorem d11_6 : decode jdk_29_method_66_code 6 = .ok (.lload_n 0, 1) := by decide +kernel
theorem d11_7 : decode jdk_29_method_66_code 7 = .ok (.goto 4, 3) := by decide +kernel
theorem d11_10 : decode jdk_29_method_66_code 10 = .ok (.lload_n 2, 1) := by decide +kernel
theorem d11_11 : decode jdk_29_method_66_code 11 = .ok (.lreturn, 1) := by decide +kernel
theorem ef_rm11 (m : MethodId) (ax : Int64) (bx : Int64)  : entryFrame m #[(.long ax), (.long bx)] 4 = (mkF m 0 #[.val (.long ax), .second, .val (.long bx), .second] []) := by first | (simp [entryFrame, mkF, argsToLocals, Value.category]; done) | rfl
def Q11 (Z : State) (ax : Int64) (bx : Int64) (h0 : Heap) (n0 : Nat) (v : Option Value) (h : Heap) (L : List Loc) : Prop := v = some (.long (Fmax ax bx)) ∧ Fr n0 L ∧ h = h0
set_option maxRecDepth 65536 in
set_option maxHeartbeats 40000000 in
theorem rm11 (l : Launch) (Z : State) (a0 : Array Value) (hw : ∀ d ∈ tables_1, d.before a0 Z = true) (ws : List Jvm.Cond) (ax : Int64) (bx : Int64) (h0 : Heap) (n0 : Nat) (Z0 : n0 ≤ h0.size)  :
    MetFree l (⟨"java/lang/Math", "max", "(JJ)J"⟩ : MethodName) (head1 (Jvm.Cond.code (⟨"java/lang/Math", "max", "(JJ)J"⟩ : MethodName) jdk_29_method_66_code 4 (some .long) :: ws) ({ frames := 0, cells := 0, slots := 0, locals := 0 } : Room)) (fun a U => a = #[(.long ax), (.long bx)] ∧ Z.Warmed39 U.vm ∧ U.heap = h0) (fun _ _ _ _ _ => True) (fun _ U o U' => ∃ v L, o = .returned v ∧ Q11 Z ax bx h0 n0 v U'.heap L ∧ FrameEnd U o U' L ({ frames := 0, cells := 0, slots := 0, locals := 0 } : Room).cells ({ frames := 0, cells := 0, slots := 0, locals := 0 } : Room).slots) := by
  refine MetFree.of_bodySF (Jvm.Free.JP.mathPlain rfl (by decide +kernel)) hisR ?_
  intro p e s m args below meth c s₁ Bd hml0 hP hK
  obtain ⟨rfl, hZ, hh⟩ := hP
  have hx := Bd.exec
  have hby := Bd.bytes
  have hml : c.maxLocals = 4 := hml0
  have hown : s.vm.findClass "java/lang/Math" = some m.cls := findClass_of_methodNamed Bd.named
  have hnm := (name_of_methodNamed Bd.named Bd.method).1
  have X0 : Stand p l e ({ frames := 0, cells := 0, slots := 0, locals := 0 } : Room) s m #[(.long ax), (.long bx)] below meth c s₁ [] 0 0 := Stand.of_body Bd
  have e0 : s₁.heap = h0 := by rw [← hh, Bd.state]; rfl
  have N0 := Fr.nil n0
  have P0 : Wy p.tables e below (s₁.setTop (entryFrame m #[(.long ax), (.long bx)] 4)) (s₁.setTop (mkF m 0 #[.val (.long ax), .second, .val (.long bx), .second] [])) := fun t k => castTop (ef_rm11 m ax bx) k
  have P1 : Wy p.tables e below (s₁.setTop (entryFrame m #[(.long ax), (.long bx)] 4)) (s₁.setTop (mkF m 3 #[.val (.long ax), .second, .val (.long bx), .second] [(.int (lcmpW ax bx))])) := fun t k => P0 t (by
    show Steps p.tables e below (s₁.setTop (mkF m 0 #[.val (.long ax), .second, .val (.long bx), .second] [])) _
    refine XS.lloadN X0.here hx rfl (hb hby d11_0) rfl  ?_
    show Steps p.tables e below (s₁.setTop (mkF m 1 #[.val (.long ax), .second, .val (.long bx), .second] [(.long ax)])) _
    refine XS.lloadN X0.here hx rfl (hb hby d11_1) rfl  ?_
    show Steps p.tables e below (s₁.setTop (mkF m 2 #[.val (.long ax), .second, .val (.long bx), .second] [(.long bx), (.long ax)])) _
    refine XS.lcmp X0.here hx rfl (hb hby d11_2) rfl ?_
    exact k)
  by_cases hc3_2 : (lcmpW ax bx) < (0 : Int32)
  · have P3 : Wy p.tables e below (s₁.setTop (entryFrame m #[(.long ax), (.long bx)] 4)) (s₁.setTop (mkF m 11 #[.val (.long ax), .second, .val (.long bx), .second] [(.long bx)])) := fun t k => P1 t (by
      show Steps p.tables e below (s₁.setTop (mkF m 3 #[.val (.long ax), .second, .val (.long bx), .second] [(.int (lcmpW ax bx))])) _
      refine XS.ifYes X0.here hx rfl (pc0 := 3) (pc' := 10) rfl (hb hby d11_3) rfl ((if0 _ _).trans (tlt hc3_2).1) (by decide) (by decide) ?_
      show Steps p.tables e below (s₁.setTop (mkF m 10 #[.val (.long ax), .second, .val (.long bx), .second] [])) _
      refine XS.lloadN X0.here hx rfl (hb hby d11_10) rfl  ?_
      exact k)
    obtain ⟨fs, hr, hrun, hended, hW, hsame⟩ := X0.leave (v := some (.long bx)) (fun h => by rw [Bd.returns] at h; cases h)
    refine ⟨_, _, P3 _ ?_, hrun, hended, _, _, rfl, ?_, ⟨_, rfl⟩, hW, hsame.mono (by decide) (by decide)⟩
    · show Steps p.tables e below (s₁.setTop (mkF m 11 #[.val (.long ax), .second, .val (.long bx), .second] [(.long bx)])) _
      exact X0.lreturnOut hx Bd.returns (hb hby d11_11) hr
    · show Q11 Z ax bx h0 n0 _ s₁.heap _
      rw [e0]
      exact ⟨congrArg (fun z => some (Value.long z)) (show _ = Fmax ax bx from by simp only [Fmax, if_pos hc3_2]; try rfl), N0, rfl⟩
  · have P4 : Wy p.tables e below (s₁.setTop (entryFrame m #[(.long ax), (.long bx)] 4)) (s₁.setTop (mkF m 11 #[.val (.long ax), .second, .val (.long bx), .second] [(.long ax)])) := fun t k => P1 t (by
      show Steps p.tables e below (s₁.setTop (mkF m 3 #[.val (.long ax), .second, .val (.long bx), .second] [(.int (lcmpW ax bx))])) _
      refine XS.ifNo X0.here hx rfl (hb hby d11_3) rfl ((if0 _ _).trans (flt hc3_2).1) ?_
      show Steps p.tables e below (s₁.setTop (mkF m 6 #[.val (.long ax), .second, .val (.long bx), .second] [])) _
      refine XS.lloadN X0.here hx rfl (hb hby d11_6) rfl  ?_
      show Steps p.tables e below (s₁.setTop (mkF m 7 #[.val (.long ax), .second, .val (.long bx), .second] [(.long ax)])) _
      refine XS.goto X0.here hx rfl (pc0 := 7) (pc' := 11) rfl (hb hby d11_7) (by decide) (by decide) ?_
      exact k)
    obtain ⟨fs, hr, hrun, hended, hW, hsame⟩ := X0.leave (v := some (.long ax)) (fun h => by rw [Bd.returns] at h; cases h)
    refine ⟨_, _, P4 _ ?_, hrun, hended, _, _, rfl, ?_, ⟨_, rfl⟩, hW, hsame.mono (by decide) (by decide)⟩
    · show Steps p.tables e below (s₁.setTop (mkF m 11 #[.val (.long ax), .second, .val (.long bx), .second] [(.long ax)])) _
      exact X0.lreturnOut hx Bd.returns (hb hby d11_11) hr
    · show Q11 Z ax bx h0 n0 _ s₁.heap _
      rw [e0]
      exact ⟨congrArg (fun z => some (Value.long z)) (show _ = Fmax ax bx from by simp only [Fmax, if_neg hc3_2]; try rfl), N0, rfl⟩
theorem own_le {a b lo hi : Int64} (hlo : lo = Fmin a b) (hhi : hi = Fmax a b) : lo.toInt ≤ hi.toInt := by
  subst hlo hhi
  unfold Fmin Fmax
  simp only [lw_lt, lw_gt, Int64.lt_iff_toInt_lt]
  split <;> split <;> omega
theorem own_down {a b lo hi w : Int64} (hlo : lo = Fmin a b) (hhi : hi = Fmax a b) (h : ¬ own_G hi w = 0) : ¬ own_G lo w = 0 := by
  intro k
  have k1 := own_G0.mp k
  apply h
  apply own_G0.mpr
  have l := own_le hlo hhi
  rw [Int64.lt_iff_toInt_lt] at k1 ⊢
  omega

theorem pn_com_example_fifo3_fifo3_client_ResyncFollowsPinLaw : plainName "com/example/fifo3/fifo3/client/ResyncFollowsPinLaw" = true := by first | (simp [plainName, overriddenIn]; done) | decide +kernel
theorem pd_lJJrV : parseMethodDescriptor "(JJ)V" = some ⟨[.long, .long], none⟩ := by decide +kernel
theorem pd_lrJ : parseMethodDescriptor "()J" = some ⟨[], some .long⟩ := by decide +kernel
theorem pd_lJrZ : parseMethodDescriptor "(J)Z" = some ⟨[.long], some .boolean⟩ := by decide +kernel
theorem pd_lJJrJ : parseMethodDescriptor "(JJ)J" = some ⟨[.long, .long], some .long⟩ := by decide +kernel
theorem ef_rm0 (m : MethodId) (ax : Int64) (bx : Int64) (cx : Int64) (dx : Int64)  : entryFrame m #[(.long ax), (.long bx), (.long cx), (.long dx)] maxLocals = (mkF m 0 #[.val (.long ax), .second, .val (.long bx), .second, .val (.long cx), .second, .val (.long dx), .second, .unset, .unset, .unset, .unset, .unset, .unset, .unset, .unset, .unset] []) := by first | (simp [entryFrame, mkF, argsToLocals, Value.category, maxLocals]; done) | rfl
def Q0 (Z : State) (ax bx cx dx : Int64) (h0 : Heap) (n0 : Nat) (v : Option Value) (h : Heap) (L : List Loc) : Prop := v = some (.int 1) ∧ Fr n0 L
set_option maxRecDepth 65536 in
set_option maxHeartbeats 40000000 in
theorem rm0 (l : Launch) (Z : State) (a0 : Array Value) (hw : ∀ d ∈ tables_1, d.before a0 Z = true) (ws : List Jvm.Cond) (ax bx cx dx : Int64) (h0 : Heap) (n0 : Nat) (Z0 : n0 ≤ h0.size)  :
    MetFree l x (head1 (Jvm.Cond.code x code maxLocals ret :: ws) room_1) (fun a U => a = #[(.long ax), (.long bx), (.long cx), (.long dx)] ∧ Z.Warmed39 U.vm ∧ U.heap = h0) (fun _ _ _ _ _ => True) (fun _ U o U' => ∃ v L, o = .returned v ∧ Q0 Z ax bx cx dx h0 n0 v U'.heap L ∧ FrameEnd U o U' L room_1.cells room_1.slots) := by
  refine MetFree.of_bodySF (plainFor_of_name pn_com_example_fifo3_fifo3_client_ResyncFollowsPinLaw) hisR ?_
  intro p e s m args below meth c s₁ Bd hml0 hP hK
  obtain ⟨rfl, hZ, hh⟩ := hP
  have hx := Bd.exec
  have hby := Bd.bytes
  have hml : c.maxLocals = 17 := hml0
  have hown : s.vm.findClass "com/example/fifo3/fifo3/client/ResyncFollowsPinLaw" = some m.cls := findClass_of_methodNamed Bd.named
  have hnm := (name_of_methodNamed Bd.named Bd.method).1
  have X0 : Stand p l e room_1 s m #[(.long ax), (.long bx), (.long cx), (.long dx)] below meth c s₁ [] 0 0 := Stand.of_body Bd
  have e0 : s₁.heap = h0 := by rw [← hh, Bd.state]; rfl
  have N0 := Fr.nil n0
  have P0 : Wy p.tables e below (s₁.setTop (entryFrame m #[(.long ax), (.long bx), (.long cx), (.long dx)] maxLocals)) (s₁.setTop (mkF m 0 #[.val (.long ax), .second, .val (.long bx), .second, .val (.long cx), .second, .val (.long dx), .second, .unset, .unset, .unset, .unset, .unset, .unset, .unset, .unset, .unset] [])) := fun t k => castTop (ef_rm0 m ax bx cx dx) k
  obtain ⟨T1, h1, X1, e1, E1, A1, D1, -, st1⟩ := newO X0 hx hZ hown (hw _ (List.mem_of_getElem? (i := 0) rfl)) (hw _ (List.mem_of_getElem? (i := 1) rfl)) (hw _ (List.mem_of_getElem? (i := 2) rfl)) e0 (g := (mkF m 0 #[.val (.long ax), .second, .val (.long bx), .second, .val (.long cx), .second, .val (.long dx), .second, .unset, .unset, .unset, .unset, .unset, .unset, .unset, .unset, .unset] [])) rfl (hb hby at_0) (by decide) (by decide)
  obtain ⟨b1, g1⟩ : ∃ z, z = h0.size := ⟨_, rfl⟩
  rw [← g1] at A1 D1 st1
  have g_b1 : n0 ≤ b1 := Nat.le_trans Z0 (Nat.le_of_eq g1.symm)
  have z1 : n0 ≤ h1.size := Nat.le_trans Z0 E1.1
  have F1_registrations : Fld Z h1 b1 "com/example/fifo3/fifo3/client/Resync" "registrations" "Ljava/util/Set;" .null := D1 (Or.inr (hw _ (List.mem_of_getElem? (i := 48) rfl))) (ty := (.object "java/util/Set")) (by decide)
  have F1_images : Fld Z h1 b1 "com/example/fifo3/fifo3/client/Resync" "images" "Ljava/util/Map;" .null := D1 (Or.inr (hw _ (List.mem_of_getElem? (i := 52) rfl))) (ty := (.object "java/util/Map")) (by decide)
  have F1_correlationId : Fld Z h1 b1 "com/example/fifo3/fifo3/client/Resync" "correlationId" "J" (.long (0 : Int64)) := D1 (Or.inr (hw _ (List.mem_of_getElem? (i := 54) rfl))) (ty := .long) (by decide)
  have F1_place : Fld Z h1 b1 "com/example/fifo3/fifo3/client/Resync" "place" "J" (.long (0 : Int64)) := D1 (Or.inr (hw _ (List.mem_of_getElem? (i := 56) rfl))) (ty := .long) (by decide)
  have P2 : Wy p.tables e below (s₁.setTop (entryFrame m #[(.long ax), (.long bx), (.long cx), (.long dx)] maxLocals)) (T1.setTop (mkF m 3 #[.val (.long ax), .second, .val (.long bx), .second, .val (.long cx), .second, .val (.long dx), .second, .unset, .unset, .unset, .unset, .unset, .unset, .unset, .unset, .unset] [(.ref b1)])) := fun t k => P0 t (st1 _ k)
  have P3 : Wy p.tables e below (s₁.setTop (entryFrame m #[(.long ax), (.long bx), (.long cx), (.long dx)] maxLocals)) (T1.setTop (mkF m 6 #[.val (.long ax), .second, .val (.long bx), .second, .val (.long cx), .second, .val (.long dx), .second, .unset, .unset, .unset, .unset, .unset, .unset, .unset, .unset, .unset] [(.long bx), (.long ax), (.ref b1), (.ref b1)])) := fun t k => P2 t (by
    show Steps p.tables e below (T1.setTop (mkF m 3 #[.val (.long ax), .second, .val (.long bx), .second, .val (.long cx), .second, .val (.long dx), .second, .unset, .unset, .unset, .unset, .unset, .unset, .unset, .unset, .unset] [(.ref b1)])) _
    refine XS.dup X1.here hx rfl (hb hby at_3) rfl rfl ?_
    show Steps p.tables e below (T1.setTop (mkF m 4 #[.val (.long ax), .second, .val (.long bx), .second, .val (.long cx), .second, .val (.long dx), .second, .unset, .unset, .unset, .unset, .unset, .unset, .unset, .unset, .unset] [(.ref b1), (.ref b1)])) _
    refine XS.lloadN X1.here hx rfl (hb hby at_4) rfl  ?_
    show Steps p.tables e below (T1.setTop (mkF m 5 #[.val (.long ax), .second, .val (.long bx), .second, .val (.long cx), .second, .val (.long dx), .second, .unset, .unset, .unset, .unset, .unset, .unset, .unset, .unset, .unset] [(.long ax), (.ref b1), (.ref b1)])) _
    refine XS.lloadN X1.here hx rfl (hb hby at_5) rfl  ?_
    exact k)
  obtain ⟨_, _, ⟨T4, L4, k4, n4⟩, -, X4, ⟨Lc4, hQ4, l4, y4, z4⟩, st4⟩ := X1.specialBack hx (y := (⟨"com/example/fifo3/fifo3/client/Resync", "<init>", "(JJ)V"⟩ : MethodName)) rfl hown (mvT hZ (hw _ (List.mem_of_getElem? (i := 3) rfl))) (mvT hZ (hw _ (List.mem_of_getElem? (i := 4) rfl))) (mvT hZ (hw _ (List.mem_of_getElem? (i := 5) rfl))) (by decide) (backOf (W := 1) (rm1 l Z a0 hw [] b1 ax bx  h1 n0 z1 A1 F1_registrations F1_images F1_correlationId F1_place g_b1 ) hZ (hw _ (List.mem_of_getElem? (i := 5) rfl)) (hw _ (List.mem_of_getElem? (i := 2) rfl)) (by decide) (by decide)) (g := (mkF m 6 #[.val (.long ax), .second, .val (.long bx), .second, .val (.long cx), .second, .val (.long dx), .second, .unset, .unset, .unset, .unset, .unset, .unset, .unset, .unset, .unset] [(.long bx), (.long ax), (.ref b1), (.ref b1)])) rfl (by rw [hml]; rfl) (Steps.refl _) (a := b1) (argsL := [(.long ax), (.long bx)]) (rest := [(.ref b1)]) (lenOf pd_lJJrV rfl) rfl (by show 2 * 0 + _ ≤ _; exact Nat.le_of_eq rfl) (hb hby at_6) (fun _ _ => ⟨rfl, e1, (by decide : 1 + 3 ≤ _), (by decide : 4 + 17 ≤ _)⟩)
  dsimp only [Pt.U, Pt.locs, Pt.cells, Pt.slots] at X4 l4 y4 z4 st4 hQ4
  subst l4 y4 z4
  obtain ⟨rfl, N4q, K4q, E4q, F4q_correlationId, F4q_place⟩ := hQ4
  have N4 := Fr.app N0 N4q
  have z4k : n0 ≤ T4.heap.size := Nat.le_trans z1 K4q.1
  have A4_b1 := A1.keep K4q
  have P5 : Wy p.tables e below (s₁.setTop (entryFrame m #[(.long ax), (.long bx), (.long cx), (.long dx)] maxLocals)) (T4.setTop (mkF m 9 #[.val (.long ax), .second, .val (.long bx), .second, .val (.long cx), .second, .val (.long dx), .second, .unset, .unset, .unset, .unset, .unset, .unset, .unset, .unset, .unset] [(.ref b1)])) := fun t k => P3 t (st4.trans k)
  have P6 : Wy p.tables e below (s₁.setTop (entryFrame m #[(.long ax), (.long bx), (.long cx), (.long dx)] maxLocals)) (T4.setTop (mkF m 13 #[.val (.long ax), .second, .val (.long bx), .second, .val (.long cx), .second, .val (.long dx), .second, .val (.ref b1), .unset, .unset, .unset, .unset, .unset, .unset, .unset, .unset] [(.ref b1)])) := fun t k => P5 t (by
    show Steps p.tables e below (T4.setTop (mkF m 9 #[.val (.long ax), .second, .val (.long bx), .second, .val (.long cx), .second, .val (.long dx), .second, .unset, .unset, .unset, .unset, .unset, .unset, .unset, .unset, .unset] [(.ref b1)])) _
    refine XS.astore X4.here hx rfl (hb hby at_9) rfl rfl (l' := #[.val (.long ax), .second, .val (.long bx), .second, .val (.long cx), .second, .val (.long dx), .second, .val (.ref b1), .unset, .unset, .unset, .unset, .unset, .unset, .unset, .unset]) rfl ?_
    show Steps p.tables e below (T4.setTop (mkF m 11 #[.val (.long ax), .second, .val (.long bx), .second, .val (.long cx), .second, .val (.long dx), .second, .val (.ref b1), .unset, .unset, .unset, .unset, .unset, .unset, .unset, .unset] [])) _
    refine XS.aload X4.here hx rfl (hb hby at_11) rfl rfl  ?_
    exact k)
  obtain ⟨cq7, kq7, q7a, q7b, q7c⟩ := isOf hZ rfl E4q
  obtain ⟨_, _, ⟨T7, L7, k7, n7⟩, -, X7, ⟨Lc7, hQ7, l7, y7, z7⟩, st7⟩ := X4.virtualBack hx (y := (⟨"com/example/fifo3/fifo3/client/Resync", "correlationId", "()J"⟩ : MethodName)) (z := (⟨"com/example/fifo3/fifo3/client/Resync", "correlationId", "()J"⟩ : MethodName)) hown (mvT hZ (hw _ (List.mem_of_getElem? (i := 57) rfl))) (mvT hZ (hw _ (List.mem_of_getElem? (i := 58) rfl))) (notFace_of_selects (args := #[]) (mvT hZ (hw _ (List.mem_of_getElem? (i := 60) rfl)))) (mvT hZ (hw _ (List.mem_of_getElem? (i := 60) rfl))) (mvT hZ (hw _ (List.mem_of_getElem? (i := 59) rfl))) (by decide) (backOf (W := 0) (rm8 l Z a0 hw [] b1 ax T4.heap n0 z4k  F4q_correlationId ) hZ (hw _ (List.mem_of_getElem? (i := 61) rfl)) (hw _ (List.mem_of_getElem? (i := 2) rfl)) (by decide) (by decide)) q7a q7c (g := (mkF m 13 #[.val (.long ax), .second, .val (.long bx), .second, .val (.long cx), .second, .val (.long dx), .second, .val (.ref b1), .unset, .unset, .unset, .unset, .unset, .unset, .unset, .unset] [(.ref b1)])) rfl (by rw [hml]; rfl) (Steps.refl _) (argsL := []) (rest := []) (lenOf pd_lrJ rfl) rfl (by show 2 * 0 + _ ≤ _; exact Nat.le_of_eq rfl) (hb hby at_13) (fun _ _ => ⟨rfl, rfl, (by decide : 4 + 0 ≤ _), (by decide : 21 + 0 ≤ _)⟩)
  dsimp only [Pt.U, Pt.locs, Pt.cells, Pt.slots] at X7 l7 y7 z7 st7 hQ7
  subst l7 y7 z7
  obtain ⟨rfl, N7q, e7⟩ := hQ7
  have N7 := Fr.app N4 N7q
  have P8 : Wy p.tables e below (s₁.setTop (entryFrame m #[(.long ax), (.long bx), (.long cx), (.long dx)] maxLocals)) (T7.setTop (mkF m 16 #[.val (.long ax), .second, .val (.long bx), .second, .val (.long cx), .second, .val (.long dx), .second, .val (.ref b1), .unset, .unset, .unset, .unset, .unset, .unset, .unset, .unset] [(.long ax)])) := fun t k => P6 t (st7.trans k)
  have P9 : Wy p.tables e below (s₁.setTop (entryFrame m #[(.long ax), (.long bx), (.long cx), (.long dx)] maxLocals)) (T7.setTop (mkF m 31 #[.val (.long ax), .second, .val (.long bx), .second, .val (.long cx), .second, .val (.long dx), .second, .val (.ref b1), .val (.int (1 : Int32)), .unset, .unset, .unset, .unset, .unset, .unset, .unset] [(.long bx), (.ref b1)])) := fun t k => P8 t (by
    show Steps p.tables e below (T7.setTop (mkF m 16 #[.val (.long ax), .second, .val (.long bx), .second, .val (.long cx), .second, .val (.long dx), .second, .val (.ref b1), .unset, .unset, .unset, .unset, .unset, .unset, .unset, .unset] [(.long ax)])) _
    refine XS.lloadN X7.here hx rfl (hb hby at_16) rfl  ?_
    show Steps p.tables e below (T7.setTop (mkF m 17 #[.val (.long ax), .second, .val (.long bx), .second, .val (.long cx), .second, .val (.long dx), .second, .val (.ref b1), .unset, .unset, .unset, .unset, .unset, .unset, .unset, .unset] [(.long ax), (.long ax)])) _
    refine XS.lcmp X7.here hx rfl (hb hby at_17) rfl ?_
    show Steps p.tables e below (T7.setTop (mkF m 18 #[.val (.long ax), .second, .val (.long bx), .second, .val (.long cx), .second, .val (.long dx), .second, .val (.ref b1), .unset, .unset, .unset, .unset, .unset, .unset, .unset, .unset] [(.int (lcmpW ax ax))])) _
    refine XS.ifNo X7.here hx rfl (hb hby at_18) rfl ((if0 _ _).trans (teq (own_id ax : (lcmpW ax ax) = (0 : Int32))).2) ?_
    show Steps p.tables e below (T7.setTop (mkF m 21 #[.val (.long ax), .second, .val (.long bx), .second, .val (.long cx), .second, .val (.long dx), .second, .val (.ref b1), .unset, .unset, .unset, .unset, .unset, .unset, .unset, .unset] [])) _
    refine XS.iconst X7.here hx rfl (hb hby at_21) ?_
    show Steps p.tables e below (T7.setTop (mkF m 22 #[.val (.long ax), .second, .val (.long bx), .second, .val (.long cx), .second, .val (.long dx), .second, .val (.ref b1), .unset, .unset, .unset, .unset, .unset, .unset, .unset, .unset] [(.int (1 : Int32))])) _
    refine XS.goto X7.here hx rfl (pc0 := 22) (pc' := 26) rfl (hb hby at_22) (by decide) (by decide) ?_
    show Steps p.tables e below (T7.setTop (mkF m 26 #[.val (.long ax), .second, .val (.long bx), .second, .val (.long cx), .second, .val (.long dx), .second, .val (.ref b1), .unset, .unset, .unset, .unset, .unset, .unset, .unset, .unset] [(.int (1 : Int32))])) _
    refine XS.istore X7.here hx rfl (hb hby at_26) rfl (l' := #[.val (.long ax), .second, .val (.long bx), .second, .val (.long cx), .second, .val (.long dx), .second, .val (.ref b1), .val (.int (1 : Int32)), .unset, .unset, .unset, .unset, .unset, .unset, .unset]) rfl ?_
    show Steps p.tables e below (T7.setTop (mkF m 28 #[.val (.long ax), .second, .val (.long bx), .second, .val (.long cx), .second, .val (.long dx), .second, .val (.ref b1), .val (.int (1 : Int32)), .unset, .unset, .unset, .unset, .unset, .unset, .unset] [])) _
    refine XS.aload X7.here hx rfl (hb hby at_28) rfl rfl  ?_
    show Steps p.tables e below (T7.setTop (mkF m 30 #[.val (.long ax), .second, .val (.long bx), .second, .val (.long cx), .second, .val (.long dx), .second, .val (.ref b1), .val (.int (1 : Int32)), .unset, .unset, .unset, .unset, .unset, .unset, .unset] [(.ref b1)])) _
    refine XS.lloadN X7.here hx rfl (hb hby at_30) rfl  ?_
    exact k)
  obtain ⟨cq10, kq10, q10a, q10b, q10c⟩ := isOf hZ e7 E4q
  obtain ⟨_, _, ⟨T10, L10, k10, n10⟩, -, X10, ⟨Lc10, hQ10, l10, y10, z10⟩, st10⟩ := X7.virtualBack hx (y := (⟨"com/example/fifo3/fifo3/client/Resync", "follows", "(J)Z"⟩ : MethodName)) (z := (⟨"com/example/fifo3/fifo3/client/Resync", "follows", "(J)Z"⟩ : MethodName)) hown (mvT hZ (hw _ (List.mem_of_getElem? (i := 62) rfl))) (mvT hZ (hw _ (List.mem_of_getElem? (i := 63) rfl))) (notFace_of_selects (args := #[]) (mvT hZ (hw _ (List.mem_of_getElem? (i := 65) rfl)))) (mvT hZ (hw _ (List.mem_of_getElem? (i := 65) rfl))) (mvT hZ (hw _ (List.mem_of_getElem? (i := 64) rfl))) (by decide) (backOf (W := 0) (rm9 l Z a0 hw [] b1 bx bx T4.heap n0 z4k  F4q_place ) hZ (hw _ (List.mem_of_getElem? (i := 66) rfl)) (hw _ (List.mem_of_getElem? (i := 2) rfl)) (by decide) (by decide)) q10a q10c (g := (mkF m 31 #[.val (.long ax), .second, .val (.long bx), .second, .val (.long cx), .second, .val (.long dx), .second, .val (.ref b1), .val (.int (1 : Int32)), .unset, .unset, .unset, .unset, .unset, .unset, .unset] [(.long bx), (.ref b1)])) rfl (by rw [hml]; rfl) (Steps.refl _) (argsL := [(.long bx)]) (rest := []) (lenOf pd_lJrZ rfl) rfl (by show 2 * 0 + _ ≤ _; exact Nat.le_of_eq rfl) (hb hby at_31) (fun _ _ => ⟨rfl, e7, (by decide : 4 + 0 ≤ _), (by decide : 21 + 0 ≤ _)⟩)
  dsimp only [Pt.U, Pt.locs, Pt.cells, Pt.slots] at X10 l10 y10 z10 st10 hQ10
  subst l10 y10 z10
  obtain ⟨rfl, N10q, e10⟩ := hQ10
  have N10 := Fr.app N7 N10q
  have P11 : Wy p.tables e below (s₁.setTop (entryFrame m #[(.long ax), (.long bx), (.long cx), (.long dx)] maxLocals)) (T10.setTop (mkF m 34 #[.val (.long ax), .second, .val (.long bx), .second, .val (.long cx), .second, .val (.long dx), .second, .val (.ref b1), .val (.int (1 : Int32)), .unset, .unset, .unset, .unset, .unset, .unset, .unset] [(.int (own_G bx bx))])) := fun t k => P9 t (st10.trans k)
  have P12 : Wy p.tables e below (s₁.setTop (entryFrame m #[(.long ax), (.long bx), (.long cx), (.long dx)] maxLocals)) (T10.setTop (mkF m 44 #[.val (.long ax), .second, .val (.long bx), .second, .val (.long cx), .second, .val (.long dx), .second, .val (.ref b1), .val (.int (1 : Int32)), .val (.int (1 : Int32)), .unset, .unset, .unset, .unset, .unset, .unset] [])) := fun t k => P11 t (by
    show Steps p.tables e below (T10.setTop (mkF m 34 #[.val (.long ax), .second, .val (.long bx), .second, .val (.long cx), .second, .val (.long dx), .second, .val (.ref b1), .val (.int (1 : Int32)), .unset, .unset, .unset, .unset, .unset, .unset, .unset] [(.int (own_G bx bx))])) _
    refine XS.ifNo X10.here hx rfl (hb hby at_34) rfl ((if0 _ _).trans (teq (own_self bx : (own_G bx bx) = (0 : Int32))).2) ?_
    show Steps p.tables e below (T10.setTop (mkF m 37 #[.val (.long ax), .second, .val (.long bx), .second, .val (.long cx), .second, .val (.long dx), .second, .val (.ref b1), .val (.int (1 : Int32)), .unset, .unset, .unset, .unset, .unset, .unset, .unset] [])) _
    refine XS.iconst X10.here hx rfl (hb hby at_37) ?_
    show Steps p.tables e below (T10.setTop (mkF m 38 #[.val (.long ax), .second, .val (.long bx), .second, .val (.long cx), .second, .val (.long dx), .second, .val (.ref b1), .val (.int (1 : Int32)), .unset, .unset, .unset, .unset, .unset, .unset, .unset] [(.int (1 : Int32))])) _
    refine XS.goto X10.here hx rfl (pc0 := 38) (pc' := 42) rfl (hb hby at_38) (by decide) (by decide) ?_
    show Steps p.tables e below (T10.setTop (mkF m 42 #[.val (.long ax), .second, .val (.long bx), .second, .val (.long cx), .second, .val (.long dx), .second, .val (.ref b1), .val (.int (1 : Int32)), .unset, .unset, .unset, .unset, .unset, .unset, .unset] [(.int (1 : Int32))])) _
    refine XS.istore X10.here hx rfl (hb hby at_42) rfl (l' := #[.val (.long ax), .second, .val (.long bx), .second, .val (.long cx), .second, .val (.long dx), .second, .val (.ref b1), .val (.int (1 : Int32)), .val (.int (1 : Int32)), .unset, .unset, .unset, .unset, .unset, .unset]) rfl ?_
    exact k)
  obtain ⟨T21, L21, X21, e21, N21, P20⟩ : ∃ T21 L21, Stand p l e room_1 s m #[(.long ax), (.long bx), (.long cx), (.long dx)] below meth c T21 L21 4 21 ∧ T21.heap = T4.heap ∧ Fr n0 L21 ∧ Wy p.tables e below (s₁.setTop (entryFrame m #[(.long ax), (.long bx), (.long cx), (.long dx)] maxLocals)) (T21.setTop (mkF m 68 #[.val (.long ax), .second, .val (.long bx), .second, .val (.long cx), .second, .val (.long dx), .second, .val (.ref b1), .val (.int (1 : Int32)), .val (.int (1 : Int32)), .unset, .unset, .unset, .unset, .unset, .unset] [(.int (1 : Int32))])) := by
    have P22 : Wy p.tables e below (s₁.setTop (entryFrame m #[(.long ax), (.long bx), (.long cx), (.long dx)] maxLocals)) (T10.setTop (mkF m 49 #[.val (.long ax), .second, .val (.long bx), .second, .val (.long cx), .second, .val (.long dx), .second, .val (.ref b1), .val (.int (1 : Int32)), .val (.int (1 : Int32)), .unset, .unset, .unset, .unset, .unset, .unset] [(.int (lcmpW bx (-9223372036854775808 : Int64)))])) := fun t k => P12 t (by
      show Steps p.tables e below (T10.setTop (mkF m 44 #[.val (.long ax), .second, .val (.long bx), .second, .val (.long cx), .second, .val (.long dx), .second, .val (.ref b1), .val (.int (1 : Int32)), .val (.int (1 : Int32)), .unset, .unset, .unset, .unset, .unset, .unset] [])) _
      refine XS.lloadN X10.here hx rfl (hb hby at_44) rfl  ?_
      show Steps p.tables e below (T10.setTop (mkF m 45 #[.val (.long ax), .second, .val (.long bx), .second, .val (.long cx), .second, .val (.long dx), .second, .val (.ref b1), .val (.int (1 : Int32)), .val (.int (1 : Int32)), .unset, .unset, .unset, .unset, .unset, .unset] [(.long bx)])) _
      refine X10.ldc2Long hx hown (mvT hZ (hw _ (List.mem_of_getElem? (i := 67) rfl))) (g := (mkF m 45 #[.val (.long ax), .second, .val (.long bx), .second, .val (.long cx), .second, .val (.long dx), .second, .val (.ref b1), .val (.int (1 : Int32)), .val (.int (1 : Int32)), .unset, .unset, .unset, .unset, .unset, .unset] [(.long bx)])) rfl (hb hby at_45) _ ?_
      show Steps p.tables e below (T10.setTop (mkF m 48 #[.val (.long ax), .second, .val (.long bx), .second, .val (.long cx), .second, .val (.long dx), .second, .val (.ref b1), .val (.int (1 : Int32)), .val (.int (1 : Int32)), .unset, .unset, .unset, .unset, .unset, .unset] [(.long (-9223372036854775808 : Int64)), (.long bx)])) _
      refine XS.lcmp X10.here hx rfl (hb hby at_48) rfl ?_
      exact k)
    by_cases hc49_23 : (lcmpW bx (-9223372036854775808 : Int64)) = (0 : Int32)
    · have P24 : Wy p.tables e below (s₁.setTop (entryFrame m #[(.long ax), (.long bx), (.long cx), (.long dx)] maxLocals)) (T10.setTop (mkF m 68 #[.val (.long ax), .second, .val (.long bx), .second, .val (.long cx), .second, .val (.long dx), .second, .val (.ref b1), .val (.int (1 : Int32)), .val (.int (1 : Int32)), .unset, .unset, .unset, .unset, .unset, .unset] [(.int (1 : Int32))])) := fun t k => P22 t (by
        show Steps p.tables e below (T10.setTop (mkF m 49 #[.val (.long ax), .second, .val (.long bx), .second, .val (.long cx), .second, .val (.long dx), .second, .val (.ref b1), .val (.int (1 : Int32)), .val (.int (1 : Int32)), .unset, .unset, .unset, .unset, .unset, .unset] [(.int (lcmpW bx (-9223372036854775808 : Int64)))])) _
        refine XS.ifYes X10.here hx rfl (pc0 := 49) (pc' := 63) rfl (hb hby at_49) rfl ((if0 _ _).trans (teq hc49_23).1) (by decide) (by decide) ?_
        show Steps p.tables e below (T10.setTop (mkF m 63 #[.val (.long ax), .second, .val (.long bx), .second, .val (.long cx), .second, .val (.long dx), .second, .val (.ref b1), .val (.int (1 : Int32)), .val (.int (1 : Int32)), .unset, .unset, .unset, .unset, .unset, .unset] [])) _
        refine XS.iconst X10.here hx rfl (hb hby at_63) ?_
        show Steps p.tables e below (T10.setTop (mkF m 64 #[.val (.long ax), .second, .val (.long bx), .second, .val (.long cx), .second, .val (.long dx), .second, .val (.ref b1), .val (.int (1 : Int32)), .val (.int (1 : Int32)), .unset, .unset, .unset, .unset, .unset, .unset] [(.int (1 : Int32))])) _
        refine XS.goto X10.here hx rfl (pc0 := 64) (pc' := 68) rfl (hb hby at_64) (by decide) (by decide) ?_
        exact k)
      exact ⟨T10, _, X10, e10, N10, P24⟩
    · have P25 : Wy p.tables e below (s₁.setTop (entryFrame m #[(.long ax), (.long bx), (.long cx), (.long dx)] maxLocals)) (T10.setTop (mkF m 57 #[.val (.long ax), .second, .val (.long bx), .second, .val (.long cx), .second, .val (.long dx), .second, .val (.ref b1), .val (.int (1 : Int32)), .val (.int (1 : Int32)), .unset, .unset, .unset, .unset, .unset, .unset] [(.long (bx - (1 : Int64))), (.ref b1)])) := fun t k => P22 t (by
        show Steps p.tables e below (T10.setTop (mkF m 49 #[.val (.long ax), .second, .val (.long bx), .second, .val (.long cx), .second, .val (.long dx), .second, .val (.ref b1), .val (.int (1 : Int32)), .val (.int (1 : Int32)), .unset, .unset, .unset, .unset, .unset, .unset] [(.int (lcmpW bx (-9223372036854775808 : Int64)))])) _
        refine XS.ifNo X10.here hx rfl (hb hby at_49) rfl ((if0 _ _).trans (feq hc49_23).1) ?_
        show Steps p.tables e below (T10.setTop (mkF m 52 #[.val (.long ax), .second, .val (.long bx), .second, .val (.long cx), .second, .val (.long dx), .second, .val (.ref b1), .val (.int (1 : Int32)), .val (.int (1 : Int32)), .unset, .unset, .unset, .unset, .unset, .unset] [])) _
        refine XS.aload X10.here hx rfl (hb hby at_52) rfl rfl  ?_
        show Steps p.tables e below (T10.setTop (mkF m 54 #[.val (.long ax), .second, .val (.long bx), .second, .val (.long cx), .second, .val (.long dx), .second, .val (.ref b1), .val (.int (1 : Int32)), .val (.int (1 : Int32)), .unset, .unset, .unset, .unset, .unset, .unset] [(.ref b1)])) _
        refine XS.lloadN X10.here hx rfl (hb hby at_54) rfl  ?_
        show Steps p.tables e below (T10.setTop (mkF m 55 #[.val (.long ax), .second, .val (.long bx), .second, .val (.long cx), .second, .val (.long dx), .second, .val (.ref b1), .val (.int (1 : Int32)), .val (.int (1 : Int32)), .unset, .unset, .unset, .unset, .unset, .unset] [(.long bx), (.ref b1)])) _
        refine XS.lconst X10.here hx rfl (hb hby at_55) ?_
        show Steps p.tables e below (T10.setTop (mkF m 56 #[.val (.long ax), .second, .val (.long bx), .second, .val (.long cx), .second, .val (.long dx), .second, .val (.ref b1), .val (.int (1 : Int32)), .val (.int (1 : Int32)), .unset, .unset, .unset, .unset, .unset, .unset] [(.long (1 : Int64)), (.long bx), (.ref b1)])) _
        refine XS.lsub X10.here hx rfl (hb hby at_56) rfl ?_
        exact k)
      obtain ⟨cq26, kq26, q26a, q26b, q26c⟩ := isOf hZ e10 E4q
      obtain ⟨_, _, ⟨T26, L26, k26, n26⟩, -, X26, ⟨Lc26, hQ26, l26, y26, z26⟩, st26⟩ := X10.virtualBack hx (y := (⟨"com/example/fifo3/fifo3/client/Resync", "follows", "(J)Z"⟩ : MethodName)) (z := (⟨"com/example/fifo3/fifo3/client/Resync", "follows", "(J)Z"⟩ : MethodName)) hown (mvT hZ (hw _ (List.mem_of_getElem? (i := 62) rfl))) (mvT hZ (hw _ (List.mem_of_getElem? (i := 63) rfl))) (notFace_of_selects (args := #[]) (mvT hZ (hw _ (List.mem_of_getElem? (i := 65) rfl)))) (mvT hZ (hw _ (List.mem_of_getElem? (i := 65) rfl))) (mvT hZ (hw _ (List.mem_of_getElem? (i := 64) rfl))) (by decide) (backOf (W := 0) (rm9 l Z a0 hw [] b1 (bx - (1 : Int64)) bx T4.heap n0 z4k  F4q_place ) hZ (hw _ (List.mem_of_getElem? (i := 66) rfl)) (hw _ (List.mem_of_getElem? (i := 2) rfl)) (by decide) (by decide)) q26a q26c (g := (mkF m 57 #[.val (.long ax), .second, .val (.long bx), .second, .val (.long cx), .second, .val (.long dx), .second, .val (.ref b1), .val (.int (1 : Int32)), .val (.int (1 : Int32)), .unset, .unset, .unset, .unset, .unset, .unset] [(.long (bx - (1 : Int64))), (.ref b1)])) rfl (by rw [hml]; rfl) (Steps.refl _) (argsL := [(.long (bx - (1 : Int64)))]) (rest := []) (lenOf pd_lJrZ rfl) rfl (by show 2 * 0 + _ ≤ _; exact Nat.le_of_eq rfl) (hb hby at_57) (fun _ _ => ⟨rfl, e10, (by decide : 4 + 0 ≤ _), (by decide : 21 + 0 ≤ _)⟩)
      dsimp only [Pt.U, Pt.locs, Pt.cells, Pt.slots] at X26 l26 y26 z26 st26 hQ26
      subst l26 y26 z26
      obtain ⟨rfl, N26q, e26⟩ := hQ26
      have N26 := Fr.app N10 N26q
      have P27 : Wy p.tables e below (s₁.setTop (entryFrame m #[(.long ax), (.long bx), (.long cx), (.long dx)] maxLocals)) (T26.setTop (mkF m 60 #[.val (.long ax), .second, .val (.long bx), .second, .val (.long cx), .second, .val (.long dx), .second, .val (.ref b1), .val (.int (1 : Int32)), .val (.int (1 : Int32)), .unset, .unset, .unset, .unset, .unset, .unset] [(.int (own_G (bx - (1 : Int64)) bx))])) := fun t k => P25 t (st26.trans k)
      have P28 : Wy p.tables e below (s₁.setTop (entryFrame m #[(.long ax), (.long bx), (.long cx), (.long dx)] maxLocals)) (T26.setTop (mkF m 68 #[.val (.long ax), .second, .val (.long bx), .second, .val (.long cx), .second, .val (.long dx), .second, .val (.ref b1), .val (.int (1 : Int32)), .val (.int (1 : Int32)), .unset, .unset, .unset, .unset, .unset, .unset] [(.int (1 : Int32))])) := fun t k => P27 t (by
        show Steps p.tables e below (T26.setTop (mkF m 60 #[.val (.long ax), .second, .val (.long bx), .second, .val (.long cx), .second, .val (.long dx), .second, .val (.ref b1), .val (.int (1 : Int32)), .val (.int (1 : Int32)), .unset, .unset, .unset, .unset, .unset, .unset] [(.int (own_G (bx - (1 : Int64)) bx))])) _
        refine XS.ifNo X26.here hx rfl (hb hby at_60) rfl ((if0 _ _).trans (feq (own_before hc49_23 : ¬ ((own_G (bx - (1 : Int64)) bx) = (0 : Int32)))).1) ?_
        show Steps p.tables e below (T26.setTop (mkF m 63 #[.val (.long ax), .second, .val (.long bx), .second, .val (.long cx), .second, .val (.long dx), .second, .val (.ref b1), .val (.int (1 : Int32)), .val (.int (1 : Int32)), .unset, .unset, .unset, .unset, .unset, .unset] [])) _
        refine XS.iconst X26.here hx rfl (hb hby at_63) ?_
        show Steps p.tables e below (T26.setTop (mkF m 64 #[.val (.long ax), .second, .val (.long bx), .second, .val (.long cx), .second, .val (.long dx), .second, .val (.ref b1), .val (.int (1 : Int32)), .val (.int (1 : Int32)), .unset, .unset, .unset, .unset, .unset, .unset] [(.int (1 : Int32))])) _
        refine XS.goto X26.here hx rfl (pc0 := 64) (pc' := 68) rfl (hb hby at_64) (by decide) (by decide) ?_
        exact k)
      exact ⟨T26, _, X26, e26, N26, P28⟩
  have P29 : Wy p.tables e below (s₁.setTop (entryFrame m #[(.long ax), (.long bx), (.long cx), (.long dx)] maxLocals)) (T21.setTop (mkF m 74 #[.val (.long ax), .second, .val (.long bx), .second, .val (.long cx), .second, .val (.long dx), .second, .val (.ref b1), .val (.int (1 : Int32)), .val (.int (1 : Int32)), .val (.int (1 : Int32)), .unset, .unset, .unset, .unset, .unset] [(.long dx), (.long cx)])) := fun t k => P20 t (by
    show Steps p.tables e below (T21.setTop (mkF m 68 #[.val (.long ax), .second, .val (.long bx), .second, .val (.long cx), .second, .val (.long dx), .second, .val (.ref b1), .val (.int (1 : Int32)), .val (.int (1 : Int32)), .unset, .unset, .unset, .unset, .unset, .unset] [(.int (1 : Int32))])) _
    refine XS.istore X21.here hx rfl (hb hby at_68) rfl (l' := #[.val (.long ax), .second, .val (.long bx), .second, .val (.long cx), .second, .val (.long dx), .second, .val (.ref b1), .val (.int (1 : Int32)), .val (.int (1 : Int32)), .val (.int (1 : Int32)), .unset, .unset, .unset, .unset, .unset]) rfl ?_
    show Steps p.tables e below (T21.setTop (mkF m 70 #[.val (.long ax), .second, .val (.long bx), .second, .val (.long cx), .second, .val (.long dx), .second, .val (.ref b1), .val (.int (1 : Int32)), .val (.int (1 : Int32)), .val (.int (1 : Int32)), .unset, .unset, .unset, .unset, .unset] [])) _
    refine XS.lload X21.here hx rfl (hb hby at_70) rfl  ?_
    show Steps p.tables e below (T21.setTop (mkF m 72 #[.val (.long ax), .second, .val (.long bx), .second, .val (.long cx), .second, .val (.long dx), .second, .val (.ref b1), .val (.int (1 : Int32)), .val (.int (1 : Int32)), .val (.int (1 : Int32)), .unset, .unset, .unset, .unset, .unset] [(.long cx)])) _
    refine XS.lload X21.here hx rfl (hb hby at_72) rfl  ?_
    exact k)
  obtain ⟨_, _, ⟨T30, L30, k30, n30⟩, -, X30, ⟨Lc30, hQ30, l30, y30, z30⟩, st30⟩ := Jvm.LawKit.callS X21 hx (y := (⟨"java/lang/Math", "min", "(JJ)J"⟩ : MethodName)) hown (mvT hZ (hw _ (List.mem_of_getElem? (i := 68) rfl))) (mvT hZ (hw _ (List.mem_of_getElem? (i := 69) rfl))) (mvT hZ (hw _ (List.mem_of_getElem? (i := 70) rfl))) (mvT hZ (hw _ (List.mem_of_getElem? (i := 71) rfl))) (by decide) (backOf (W := 0) (rm10 l Z a0 hw [] cx dx T4.heap n0 z4k ) hZ (hw _ (List.mem_of_getElem? (i := 71) rfl)) (hw _ (List.mem_of_getElem? (i := 70) rfl)) (by decide) (by decide)) (g := (mkF m 74 #[.val (.long ax), .second, .val (.long bx), .second, .val (.long cx), .second, .val (.long dx), .second, .val (.ref b1), .val (.int (1 : Int32)), .val (.int (1 : Int32)), .val (.int (1 : Int32)), .unset, .unset, .unset, .unset, .unset] [(.long dx), (.long cx)])) rfl (by rw [hml]; rfl) (argsL := [(.long cx), (.long dx)]) (rest := []) (lenOf pd_lJJrJ rfl) rfl (by show 2 * 0 + _ ≤ _; exact Nat.le_of_eq rfl) (hb hby at_74) (fun _ _ => ⟨rfl, e21, (by decide : 4 + 0 ≤ _), (by decide : 21 + 0 ≤ _)⟩)
  dsimp only [Pt.U, Pt.locs, Pt.cells, Pt.slots] at X30 l30 y30 z30 st30 hQ30
  subst l30 y30 z30
  obtain ⟨rfl, N30q, e30⟩ := hQ30
  have N30 := Fr.app N21 N30q
  have P31 : Wy p.tables e below (s₁.setTop (entryFrame m #[(.long ax), (.long bx), (.long cx), (.long dx)] maxLocals)) (T30.setTop (mkF m 77 #[.val (.long ax), .second, .val (.long bx), .second, .val (.long cx), .second, .val (.long dx), .second, .val (.ref b1), .val (.int (1 : Int32)), .val (.int (1 : Int32)), .val (.int (1 : Int32)), .unset, .unset, .unset, .unset, .unset] [(.long (Fmin cx dx))])) := fun t k => P29 t (st30 _ k)
  have P32 : Wy p.tables e below (s₁.setTop (entryFrame m #[(.long ax), (.long bx), (.long cx), (.long dx)] maxLocals)) (T30.setTop (mkF m 79 #[.val (.long ax), .second, .val (.long bx), .second, .val (.long cx), .second, .val (.long dx), .second, .val (.ref b1), .val (.int (1 : Int32)), .val (.int (1 : Int32)), .val (.int (1 : Int32)), .val (.long (Fmin cx dx)), .second, .unset, .unset, .unset] [])) := fun t k => P31 t (by
    show Steps p.tables e below (T30.setTop (mkF m 77 #[.val (.long ax), .second, .val (.long bx), .second, .val (.long cx), .second, .val (.long dx), .second, .val (.ref b1), .val (.int (1 : Int32)), .val (.int (1 : Int32)), .val (.int (1 : Int32)), .unset, .unset, .unset, .unset, .unset] [(.long (Fmin cx dx))])) _
    refine XS.lstore X30.here hx rfl (hb hby at_77) rfl (l' := #[.val (.long ax), .second, .val (.long bx), .second, .val (.long cx), .second, .val (.long dx), .second, .val (.ref b1), .val (.int (1 : Int32)), .val (.int (1 : Int32)), .val (.int (1 : Int32)), .val (.long (Fmin cx dx)), .second, .unset, .unset, .unset]) rfl ?_
    exact k)
  obtain ⟨v33, hv33⟩ : ∃ z : Int64, z = (Fmin cx dx) := ⟨_, rfl⟩
  have P34 : Wy p.tables e below (s₁.setTop (entryFrame m #[(.long ax), (.long bx), (.long cx), (.long dx)] maxLocals)) (T30.setTop (mkF m 79 #[.val (.long ax), .second, .val (.long bx), .second, .val (.long cx), .second, .val (.long dx), .second, .val (.ref b1), .val (.int (1 : Int32)), .val (.int (1 : Int32)), .val (.int (1 : Int32)), .val (.long v33), .second, .unset, .unset, .unset] [])) := fun t k => by subst hv33; exact P32 t k
  have P35 : Wy p.tables e below (s₁.setTop (entryFrame m #[(.long ax), (.long bx), (.long cx), (.long dx)] maxLocals)) (T30.setTop (mkF m 83 #[.val (.long ax), .second, .val (.long bx), .second, .val (.long cx), .second, .val (.long dx), .second, .val (.ref b1), .val (.int (1 : Int32)), .val (.int (1 : Int32)), .val (.int (1 : Int32)), .val (.long v33), .second, .unset, .unset, .unset] [(.long dx), (.long cx)])) := fun t k => P34 t (by
    show Steps p.tables e below (T30.setTop (mkF m 79 #[.val (.long ax), .second, .val (.long bx), .second, .val (.long cx), .second, .val (.long dx), .second, .val (.ref b1), .val (.int (1 : Int32)), .val (.int (1 : Int32)), .val (.int (1 : Int32)), .val (.long v33), .second, .unset, .unset, .unset] [])) _
    refine XS.lload X30.here hx rfl (hb hby at_79) rfl  ?_
    show Steps p.tables e below (T30.setTop (mkF m 81 #[.val (.long ax), .second, .val (.long bx), .second, .val (.long cx), .second, .val (.long dx), .second, .val (.ref b1), .val (.int (1 : Int32)), .val (.int (1 : Int32)), .val (.int (1 : Int32)), .val (.long v33), .second, .unset, .unset, .unset] [(.long cx)])) _
    refine XS.lload X30.here hx rfl (hb hby at_81) rfl  ?_
    exact k)
  obtain ⟨_, _, ⟨T36, L36, k36, n36⟩, -, X36, ⟨Lc36, hQ36, l36, y36, z36⟩, st36⟩ := Jvm.LawKit.callS X30 hx (y := (⟨"java/lang/Math", "max", "(JJ)J"⟩ : MethodName)) hown (mvT hZ (hw _ (List.mem_of_getElem? (i := 72) rfl))) (mvT hZ (hw _ (List.mem_of_getElem? (i := 73) rfl))) (mvT hZ (hw _ (List.mem_of_getElem? (i := 70) rfl))) (mvT hZ (hw _ (List.mem_of_getElem? (i := 74) rfl))) (by decide) (backOf (W := 0) (rm11 l Z a0 hw [] cx dx T4.heap n0 z4k ) hZ (hw _ (List.mem_of_getElem? (i := 74) rfl)) (hw _ (List.mem_of_getElem? (i := 70) rfl)) (by decide) (by decide)) (g := (mkF m 83 #[.val (.long ax), .second, .val (.long bx), .second, .val (.long cx), .second, .val (.long dx), .second, .val (.ref b1), .val (.int (1 : Int32)), .val (.int (1 : Int32)), .val (.int (1 : Int32)), .val (.long v33), .second, .unset, .unset, .unset] [(.long dx), (.long cx)])) rfl (by rw [hml]; rfl) (argsL := [(.long cx), (.long dx)]) (rest := []) (lenOf pd_lJJrJ rfl) rfl (by show 2 * 0 + _ ≤ _; exact Nat.le_of_eq rfl) (hb hby at_83) (fun _ _ => ⟨rfl, e30, (by decide : 4 + 0 ≤ _), (by decide : 21 + 0 ≤ _)⟩)
  dsimp only [Pt.U, Pt.locs, Pt.cells, Pt.slots] at X36 l36 y36 z36 st36 hQ36
  subst l36 y36 z36
  obtain ⟨rfl, N36q, e36⟩ := hQ36
  have N36 := Fr.app N30 N36q
  have P37 : Wy p.tables e below (s₁.setTop (entryFrame m #[(.long ax), (.long bx), (.long cx), (.long dx)] maxLocals)) (T36.setTop (mkF m 86 #[.val (.long ax), .second, .val (.long bx), .second, .val (.long cx), .second, .val (.long dx), .second, .val (.ref b1), .val (.int (1 : Int32)), .val (.int (1 : Int32)), .val (.int (1 : Int32)), .val (.long v33), .second, .unset, .unset, .unset] [(.long (Fmax cx dx))])) := fun t k => P35 t (st36 _ k)
  have P38 : Wy p.tables e below (s₁.setTop (entryFrame m #[(.long ax), (.long bx), (.long cx), (.long dx)] maxLocals)) (T36.setTop (mkF m 88 #[.val (.long ax), .second, .val (.long bx), .second, .val (.long cx), .second, .val (.long dx), .second, .val (.ref b1), .val (.int (1 : Int32)), .val (.int (1 : Int32)), .val (.int (1 : Int32)), .val (.long v33), .second, .val (.long (Fmax cx dx)), .second, .unset] [])) := fun t k => P37 t (by
    show Steps p.tables e below (T36.setTop (mkF m 86 #[.val (.long ax), .second, .val (.long bx), .second, .val (.long cx), .second, .val (.long dx), .second, .val (.ref b1), .val (.int (1 : Int32)), .val (.int (1 : Int32)), .val (.int (1 : Int32)), .val (.long v33), .second, .unset, .unset, .unset] [(.long (Fmax cx dx))])) _
    refine XS.lstore X36.here hx rfl (hb hby at_86) rfl (l' := #[.val (.long ax), .second, .val (.long bx), .second, .val (.long cx), .second, .val (.long dx), .second, .val (.ref b1), .val (.int (1 : Int32)), .val (.int (1 : Int32)), .val (.int (1 : Int32)), .val (.long v33), .second, .val (.long (Fmax cx dx)), .second, .unset]) rfl ?_
    exact k)
  obtain ⟨v39, hv39⟩ : ∃ z : Int64, z = (Fmax cx dx) := ⟨_, rfl⟩
  have P40 : Wy p.tables e below (s₁.setTop (entryFrame m #[(.long ax), (.long bx), (.long cx), (.long dx)] maxLocals)) (T36.setTop (mkF m 88 #[.val (.long ax), .second, .val (.long bx), .second, .val (.long cx), .second, .val (.long dx), .second, .val (.ref b1), .val (.int (1 : Int32)), .val (.int (1 : Int32)), .val (.int (1 : Int32)), .val (.long v33), .second, .val (.long v39), .second, .unset] [])) := fun t k => by subst hv39; exact P38 t k
  obtain ⟨T51, L51, X51, e51, N51, P50⟩ : ∃ T51 L51, Stand p l e room_1 s m #[(.long ax), (.long bx), (.long cx), (.long dx)] below meth c T51 L51 4 21 ∧ T51.heap = T4.heap ∧ Fr n0 L51 ∧ Wy p.tables e below (s₁.setTop (entryFrame m #[(.long ax), (.long bx), (.long cx), (.long dx)] maxLocals)) (T51.setTop (mkF m 113 #[.val (.long ax), .second, .val (.long bx), .second, .val (.long cx), .second, .val (.long dx), .second, .val (.ref b1), .val (.int (1 : Int32)), .val (.int (1 : Int32)), .val (.int (1 : Int32)), .val (.long v33), .second, .val (.long v39), .second, .unset] [(.int (1 : Int32))])) := by
    have P52 : Wy p.tables e below (s₁.setTop (entryFrame m #[(.long ax), (.long bx), (.long cx), (.long dx)] maxLocals)) (T36.setTop (mkF m 92 #[.val (.long ax), .second, .val (.long bx), .second, .val (.long cx), .second, .val (.long dx), .second, .val (.ref b1), .val (.int (1 : Int32)), .val (.int (1 : Int32)), .val (.int (1 : Int32)), .val (.long v33), .second, .val (.long v39), .second, .unset] [(.long v39), (.ref b1)])) := fun t k => P40 t (by
      show Steps p.tables e below (T36.setTop (mkF m 88 #[.val (.long ax), .second, .val (.long bx), .second, .val (.long cx), .second, .val (.long dx), .second, .val (.ref b1), .val (.int (1 : Int32)), .val (.int (1 : Int32)), .val (.int (1 : Int32)), .val (.long v33), .second, .val (.long v39), .second, .unset] [])) _
      refine XS.aload X36.here hx rfl (hb hby at_88) rfl rfl  ?_
      show Steps p.tables e below (T36.setTop (mkF m 90 #[.val (.long ax), .second, .val (.long bx), .second, .val (.long cx), .second, .val (.long dx), .second, .val (.ref b1), .val (.int (1 : Int32)), .val (.int (1 : Int32)), .val (.int (1 : Int32)), .val (.long v33), .second, .val (.long v39), .second, .unset] [(.ref b1)])) _
      refine XS.lload X36.here hx rfl (hb hby at_90) rfl  ?_
      exact k)
    obtain ⟨cq53, kq53, q53a, q53b, q53c⟩ := isOf hZ e36 E4q
    obtain ⟨_, _, ⟨T53, L53, k53, n53⟩, -, X53, ⟨Lc53, hQ53, l53, y53, z53⟩, st53⟩ := X36.virtualBack hx (y := (⟨"com/example/fifo3/fifo3/client/Resync", "follows", "(J)Z"⟩ : MethodName)) (z := (⟨"com/example/fifo3/fifo3/client/Resync", "follows", "(J)Z"⟩ : MethodName)) hown (mvT hZ (hw _ (List.mem_of_getElem? (i := 62) rfl))) (mvT hZ (hw _ (List.mem_of_getElem? (i := 63) rfl))) (notFace_of_selects (args := #[]) (mvT hZ (hw _ (List.mem_of_getElem? (i := 65) rfl)))) (mvT hZ (hw _ (List.mem_of_getElem? (i := 65) rfl))) (mvT hZ (hw _ (List.mem_of_getElem? (i := 64) rfl))) (by decide) (backOf (W := 0) (rm9 l Z a0 hw [] b1 v39 bx T4.heap n0 z4k  F4q_place ) hZ (hw _ (List.mem_of_getElem? (i := 66) rfl)) (hw _ (List.mem_of_getElem? (i := 2) rfl)) (by decide) (by decide)) q53a q53c (g := (mkF m 92 #[.val (.long ax), .second, .val (.long bx), .second, .val (.long cx), .second, .val (.long dx), .second, .val (.ref b1), .val (.int (1 : Int32)), .val (.int (1 : Int32)), .val (.int (1 : Int32)), .val (.long v33), .second, .val (.long v39), .second, .unset] [(.long v39), (.ref b1)])) rfl (by rw [hml]; rfl) (Steps.refl _) (argsL := [(.long v39)]) (rest := []) (lenOf pd_lJrZ rfl) rfl (by show 2 * 0 + _ ≤ _; exact Nat.le_of_eq rfl) (hb hby at_92) (fun _ _ => ⟨rfl, e36, (by decide : 4 + 0 ≤ _), (by decide : 21 + 0 ≤ _)⟩)
    dsimp only [Pt.U, Pt.locs, Pt.cells, Pt.slots] at X53 l53 y53 z53 st53 hQ53
    subst l53 y53 z53
    obtain ⟨rfl, N53q, e53⟩ := hQ53
    have N53 := Fr.app N36 N53q
    have P54 : Wy p.tables e below (s₁.setTop (entryFrame m #[(.long ax), (.long bx), (.long cx), (.long dx)] maxLocals)) (T53.setTop (mkF m 95 #[.val (.long ax), .second, .val (.long bx), .second, .val (.long cx), .second, .val (.long dx), .second, .val (.ref b1), .val (.int (1 : Int32)), .val (.int (1 : Int32)), .val (.int (1 : Int32)), .val (.long v33), .second, .val (.long v39), .second, .unset] [(.int (own_G v39 bx))])) := fun t k => P52 t (st53.trans k)
    by_cases hc95_55 : (own_G v39 bx) = (0 : Int32)
    · have P56 : Wy p.tables e below (s₁.setTop (entryFrame m #[(.long ax), (.long bx), (.long cx), (.long dx)] maxLocals)) (T53.setTop (mkF m 113 #[.val (.long ax), .second, .val (.long bx), .second, .val (.long cx), .second, .val (.long dx), .second, .val (.ref b1), .val (.int (1 : Int32)), .val (.int (1 : Int32)), .val (.int (1 : Int32)), .val (.long v33), .second, .val (.long v39), .second, .unset] [(.int (1 : Int32))])) := fun t k => P54 t (by
        show Steps p.tables e below (T53.setTop (mkF m 95 #[.val (.long ax), .second, .val (.long bx), .second, .val (.long cx), .second, .val (.long dx), .second, .val (.ref b1), .val (.int (1 : Int32)), .val (.int (1 : Int32)), .val (.int (1 : Int32)), .val (.long v33), .second, .val (.long v39), .second, .unset] [(.int (own_G v39 bx))])) _
        refine XS.ifYes X53.here hx rfl (pc0 := 95) (pc' := 108) rfl (hb hby at_95) rfl ((if0 _ _).trans (teq hc95_55).1) (by decide) (by decide) ?_
        show Steps p.tables e below (T53.setTop (mkF m 108 #[.val (.long ax), .second, .val (.long bx), .second, .val (.long cx), .second, .val (.long dx), .second, .val (.ref b1), .val (.int (1 : Int32)), .val (.int (1 : Int32)), .val (.int (1 : Int32)), .val (.long v33), .second, .val (.long v39), .second, .unset] [])) _
        refine XS.iconst X53.here hx rfl (hb hby at_108) ?_
        show Steps p.tables e below (T53.setTop (mkF m 109 #[.val (.long ax), .second, .val (.long bx), .second, .val (.long cx), .second, .val (.long dx), .second, .val (.ref b1), .val (.int (1 : Int32)), .val (.int (1 : Int32)), .val (.int (1 : Int32)), .val (.long v33), .second, .val (.long v39), .second, .unset] [(.int (1 : Int32))])) _
        refine XS.goto X53.here hx rfl (pc0 := 109) (pc' := 113) rfl (hb hby at_109) (by decide) (by decide) ?_
        exact k)
      exact ⟨T53, _, X53, e53, N53, P56⟩
    · have P57 : Wy p.tables e below (s₁.setTop (entryFrame m #[(.long ax), (.long bx), (.long cx), (.long dx)] maxLocals)) (T53.setTop (mkF m 102 #[.val (.long ax), .second, .val (.long bx), .second, .val (.long cx), .second, .val (.long dx), .second, .val (.ref b1), .val (.int (1 : Int32)), .val (.int (1 : Int32)), .val (.int (1 : Int32)), .val (.long v33), .second, .val (.long v39), .second, .unset] [(.long v33), (.ref b1)])) := fun t k => P54 t (by
        show Steps p.tables e below (T53.setTop (mkF m 95 #[.val (.long ax), .second, .val (.long bx), .second, .val (.long cx), .second, .val (.long dx), .second, .val (.ref b1), .val (.int (1 : Int32)), .val (.int (1 : Int32)), .val (.int (1 : Int32)), .val (.long v33), .second, .val (.long v39), .second, .unset] [(.int (own_G v39 bx))])) _
        refine XS.ifNo X53.here hx rfl (hb hby at_95) rfl ((if0 _ _).trans (feq hc95_55).1) ?_
        show Steps p.tables e below (T53.setTop (mkF m 98 #[.val (.long ax), .second, .val (.long bx), .second, .val (.long cx), .second, .val (.long dx), .second, .val (.ref b1), .val (.int (1 : Int32)), .val (.int (1 : Int32)), .val (.int (1 : Int32)), .val (.long v33), .second, .val (.long v39), .second, .unset] [])) _
        refine XS.aload X53.here hx rfl (hb hby at_98) rfl rfl  ?_
        show Steps p.tables e below (T53.setTop (mkF m 100 #[.val (.long ax), .second, .val (.long bx), .second, .val (.long cx), .second, .val (.long dx), .second, .val (.ref b1), .val (.int (1 : Int32)), .val (.int (1 : Int32)), .val (.int (1 : Int32)), .val (.long v33), .second, .val (.long v39), .second, .unset] [(.ref b1)])) _
        refine XS.lload X53.here hx rfl (hb hby at_100) rfl  ?_
        exact k)
      obtain ⟨cq58, kq58, q58a, q58b, q58c⟩ := isOf hZ e53 E4q
      obtain ⟨_, _, ⟨T58, L58, k58, n58⟩, -, X58, ⟨Lc58, hQ58, l58, y58, z58⟩, st58⟩ := X53.virtualBack hx (y := (⟨"com/example/fifo3/fifo3/client/Resync", "follows", "(J)Z"⟩ : MethodName)) (z := (⟨"com/example/fifo3/fifo3/client/Resync", "follows", "(J)Z"⟩ : MethodName)) hown (mvT hZ (hw _ (List.mem_of_getElem? (i := 62) rfl))) (mvT hZ (hw _ (List.mem_of_getElem? (i := 63) rfl))) (notFace_of_selects (args := #[]) (mvT hZ (hw _ (List.mem_of_getElem? (i := 65) rfl)))) (mvT hZ (hw _ (List.mem_of_getElem? (i := 65) rfl))) (mvT hZ (hw _ (List.mem_of_getElem? (i := 64) rfl))) (by decide) (backOf (W := 0) (rm9 l Z a0 hw [] b1 v33 bx T4.heap n0 z4k  F4q_place ) hZ (hw _ (List.mem_of_getElem? (i := 66) rfl)) (hw _ (List.mem_of_getElem? (i := 2) rfl)) (by decide) (by decide)) q58a q58c (g := (mkF m 102 #[.val (.long ax), .second, .val (.long bx), .second, .val (.long cx), .second, .val (.long dx), .second, .val (.ref b1), .val (.int (1 : Int32)), .val (.int (1 : Int32)), .val (.int (1 : Int32)), .val (.long v33), .second, .val (.long v39), .second, .unset] [(.long v33), (.ref b1)])) rfl (by rw [hml]; rfl) (Steps.refl _) (argsL := [(.long v33)]) (rest := []) (lenOf pd_lJrZ rfl) rfl (by show 2 * 0 + _ ≤ _; exact Nat.le_of_eq rfl) (hb hby at_102) (fun _ _ => ⟨rfl, e53, (by decide : 4 + 0 ≤ _), (by decide : 21 + 0 ≤ _)⟩)
      dsimp only [Pt.U, Pt.locs, Pt.cells, Pt.slots] at X58 l58 y58 z58 st58 hQ58
      subst l58 y58 z58
      obtain ⟨rfl, N58q, e58⟩ := hQ58
      have N58 := Fr.app N53 N58q
      have P59 : Wy p.tables e below (s₁.setTop (entryFrame m #[(.long ax), (.long bx), (.long cx), (.long dx)] maxLocals)) (T58.setTop (mkF m 105 #[.val (.long ax), .second, .val (.long bx), .second, .val (.long cx), .second, .val (.long dx), .second, .val (.ref b1), .val (.int (1 : Int32)), .val (.int (1 : Int32)), .val (.int (1 : Int32)), .val (.long v33), .second, .val (.long v39), .second, .unset] [(.int (own_G v33 bx))])) := fun t k => P57 t (st58.trans k)
      have P60 : Wy p.tables e below (s₁.setTop (entryFrame m #[(.long ax), (.long bx), (.long cx), (.long dx)] maxLocals)) (T58.setTop (mkF m 113 #[.val (.long ax), .second, .val (.long bx), .second, .val (.long cx), .second, .val (.long dx), .second, .val (.ref b1), .val (.int (1 : Int32)), .val (.int (1 : Int32)), .val (.int (1 : Int32)), .val (.long v33), .second, .val (.long v39), .second, .unset] [(.int (1 : Int32))])) := fun t k => P59 t (by
        show Steps p.tables e below (T58.setTop (mkF m 105 #[.val (.long ax), .second, .val (.long bx), .second, .val (.long cx), .second, .val (.long dx), .second, .val (.ref b1), .val (.int (1 : Int32)), .val (.int (1 : Int32)), .val (.int (1 : Int32)), .val (.long v33), .second, .val (.long v39), .second, .unset] [(.int (own_G v33 bx))])) _
        refine XS.ifNo X58.here hx rfl (hb hby at_105) rfl ((if0 _ _).trans (feq (own_down hv33 hv39 hc95_55 : ¬ ((own_G v33 bx) = (0 : Int32)))).1) ?_
        show Steps p.tables e below (T58.setTop (mkF m 108 #[.val (.long ax), .second, .val (.long bx), .second, .val (.long cx), .second, .val (.long dx), .second, .val (.ref b1), .val (.int (1 : Int32)), .val (.int (1 : Int32)), .val (.int (1 : Int32)), .val (.long v33), .second, .val (.long v39), .second, .unset] [])) _
        refine XS.iconst X58.here hx rfl (hb hby at_108) ?_
        show Steps p.tables e below (T58.setTop (mkF m 109 #[.val (.long ax), .second, .val (.long bx), .second, .val (.long cx), .second, .val (.long dx), .second, .val (.ref b1), .val (.int (1 : Int32)), .val (.int (1 : Int32)), .val (.int (1 : Int32)), .val (.long v33), .second, .val (.long v39), .second, .unset] [(.int (1 : Int32))])) _
        refine XS.goto X58.here hx rfl (pc0 := 109) (pc' := 113) rfl (hb hby at_109) (by decide) (by decide) ?_
        exact k)
      exact ⟨T58, _, X58, e58, N58, P60⟩
  have P61 : Wy p.tables e below (s₁.setTop (entryFrame m #[(.long ax), (.long bx), (.long cx), (.long dx)] maxLocals)) (T51.setTop (mkF m 140 #[.val (.long ax), .second, .val (.long bx), .second, .val (.long cx), .second, .val (.long dx), .second, .val (.ref b1), .val (.int (1 : Int32)), .val (.int (1 : Int32)), .val (.int (1 : Int32)), .val (.long v33), .second, .val (.long v39), .second, .val (.int (1 : Int32))] [(.int (1 : Int32))])) := fun t k => P50 t (by
    show Steps p.tables e below (T51.setTop (mkF m 113 #[.val (.long ax), .second, .val (.long bx), .second, .val (.long cx), .second, .val (.long dx), .second, .val (.ref b1), .val (.int (1 : Int32)), .val (.int (1 : Int32)), .val (.int (1 : Int32)), .val (.long v33), .second, .val (.long v39), .second, .unset] [(.int (1 : Int32))])) _
    refine XS.istore X51.here hx rfl (hb hby at_113) rfl (l' := #[.val (.long ax), .second, .val (.long bx), .second, .val (.long cx), .second, .val (.long dx), .second, .val (.ref b1), .val (.int (1 : Int32)), .val (.int (1 : Int32)), .val (.int (1 : Int32)), .val (.long v33), .second, .val (.long v39), .second, .val (.int (1 : Int32))]) rfl ?_
    show Steps p.tables e below (T51.setTop (mkF m 115 #[.val (.long ax), .second, .val (.long bx), .second, .val (.long cx), .second, .val (.long dx), .second, .val (.ref b1), .val (.int (1 : Int32)), .val (.int (1 : Int32)), .val (.int (1 : Int32)), .val (.long v33), .second, .val (.long v39), .second, .val (.int (1 : Int32))] [])) _
    refine XS.iload X51.here hx rfl (hb hby at_115) rfl  ?_
    show Steps p.tables e below (T51.setTop (mkF m 117 #[.val (.long ax), .second, .val (.long bx), .second, .val (.long cx), .second, .val (.long dx), .second, .val (.ref b1), .val (.int (1 : Int32)), .val (.int (1 : Int32)), .val (.int (1 : Int32)), .val (.long v33), .second, .val (.long v39), .second, .val (.int (1 : Int32))] [(.int (1 : Int32))])) _
    refine XS.ifNo X51.here hx rfl (hb hby at_117) rfl ((if0 _ _).trans (feq (by decide : ¬ ((1 : Int32) = (0 : Int32)))).1) ?_
    show Steps p.tables e below (T51.setTop (mkF m 120 #[.val (.long ax), .second, .val (.long bx), .second, .val (.long cx), .second, .val (.long dx), .second, .val (.ref b1), .val (.int (1 : Int32)), .val (.int (1 : Int32)), .val (.int (1 : Int32)), .val (.long v33), .second, .val (.long v39), .second, .val (.int (1 : Int32))] [])) _
    refine XS.iload X51.here hx rfl (hb hby at_120) rfl  ?_
    show Steps p.tables e below (T51.setTop (mkF m 122 #[.val (.long ax), .second, .val (.long bx), .second, .val (.long cx), .second, .val (.long dx), .second, .val (.ref b1), .val (.int (1 : Int32)), .val (.int (1 : Int32)), .val (.int (1 : Int32)), .val (.long v33), .second, .val (.long v39), .second, .val (.int (1 : Int32))] [(.int (1 : Int32))])) _
    refine XS.ifNo X51.here hx rfl (hb hby at_122) rfl ((if0 _ _).trans (feq (by decide : ¬ ((1 : Int32) = (0 : Int32)))).1) ?_
    show Steps p.tables e below (T51.setTop (mkF m 125 #[.val (.long ax), .second, .val (.long bx), .second, .val (.long cx), .second, .val (.long dx), .second, .val (.ref b1), .val (.int (1 : Int32)), .val (.int (1 : Int32)), .val (.int (1 : Int32)), .val (.long v33), .second, .val (.long v39), .second, .val (.int (1 : Int32))] [])) _
    refine XS.iload X51.here hx rfl (hb hby at_125) rfl  ?_
    show Steps p.tables e below (T51.setTop (mkF m 127 #[.val (.long ax), .second, .val (.long bx), .second, .val (.long cx), .second, .val (.long dx), .second, .val (.ref b1), .val (.int (1 : Int32)), .val (.int (1 : Int32)), .val (.int (1 : Int32)), .val (.long v33), .second, .val (.long v39), .second, .val (.int (1 : Int32))] [(.int (1 : Int32))])) _
    refine XS.ifNo X51.here hx rfl (hb hby at_127) rfl ((if0 _ _).trans (feq (by decide : ¬ ((1 : Int32) = (0 : Int32)))).1) ?_
    show Steps p.tables e below (T51.setTop (mkF m 130 #[.val (.long ax), .second, .val (.long bx), .second, .val (.long cx), .second, .val (.long dx), .second, .val (.ref b1), .val (.int (1 : Int32)), .val (.int (1 : Int32)), .val (.int (1 : Int32)), .val (.long v33), .second, .val (.long v39), .second, .val (.int (1 : Int32))] [])) _
    refine XS.iload X51.here hx rfl (hb hby at_130) rfl  ?_
    show Steps p.tables e below (T51.setTop (mkF m 132 #[.val (.long ax), .second, .val (.long bx), .second, .val (.long cx), .second, .val (.long dx), .second, .val (.ref b1), .val (.int (1 : Int32)), .val (.int (1 : Int32)), .val (.int (1 : Int32)), .val (.long v33), .second, .val (.long v39), .second, .val (.int (1 : Int32))] [(.int (1 : Int32))])) _
    refine XS.ifNo X51.here hx rfl (hb hby at_132) rfl ((if0 _ _).trans (feq (by decide : ¬ ((1 : Int32) = (0 : Int32)))).1) ?_
    show Steps p.tables e below (T51.setTop (mkF m 135 #[.val (.long ax), .second, .val (.long bx), .second, .val (.long cx), .second, .val (.long dx), .second, .val (.ref b1), .val (.int (1 : Int32)), .val (.int (1 : Int32)), .val (.int (1 : Int32)), .val (.long v33), .second, .val (.long v39), .second, .val (.int (1 : Int32))] [])) _
    refine XS.iconst X51.here hx rfl (hb hby at_135) ?_
    show Steps p.tables e below (T51.setTop (mkF m 136 #[.val (.long ax), .second, .val (.long bx), .second, .val (.long cx), .second, .val (.long dx), .second, .val (.ref b1), .val (.int (1 : Int32)), .val (.int (1 : Int32)), .val (.int (1 : Int32)), .val (.long v33), .second, .val (.long v39), .second, .val (.int (1 : Int32))] [(.int (1 : Int32))])) _
    refine XS.goto X51.here hx rfl (pc0 := 136) (pc' := 140) rfl (hb hby at_136) (by decide) (by decide) ?_
    exact k)
  obtain ⟨fs, hr, hrun, hended, hW, hsame⟩ := X51.leave (v := some (.int (nar .boolean (1 : Int32)))) (fun h => by rw [Bd.returns] at h; cases h)
  refine ⟨_, _, P61 _ ?_, hrun, hended, _, _, rfl, ?_, ⟨_, rfl⟩, hW, hsame.mono (by decide) (by decide)⟩
  · show Steps p.tables e below (T51.setTop (mkF m 140 #[.val (.long ax), .second, .val (.long bx), .second, .val (.long cx), .second, .val (.long dx), .second, .val (.ref b1), .val (.int (1 : Int32)), .val (.int (1 : Int32)), .val (.int (1 : Int32)), .val (.long v33), .second, .val (.long v39), .second, .val (.int (1 : Int32))] [(.int (1 : Int32))])) _
    exact retN X51 hx (t := .boolean) Bd.returns (by simp) (hb hby at_140) hr
  · show Q0 Z ax bx cx dx h0 n0 _ T51.heap _
    rw [e51]
    exact ⟨rfl, N51⟩
set_option maxRecDepth 65536 in
set_option maxHeartbeats 40000000 in
theorem comes_1 {Post : Tables → Env → Array Value → State → Outcome → State → Prop} (hpost : ∀ tb e args s v u, (limb_1_1.after args s (.returned v) u = true ∧ limb_1_2.after args s (.returned v) u = true ∧ True) → FrameEnd s (.returned v) u (Jvm.fieldLocs frame_1_writes args s ++ Jvm.arrayLocs frame_1_arrays args s ++ Jvm.staticLocs frame_1_statics s) 16 128 → Post tb e args s (.returned v) u) :
    ArmFor flags0 classFile x code maxLocals ret World_1 tables_1 room_1 Calls_1 rest_1 Pre_1 Post := by
  intro l hfl _ _ p e ha hc hk s m args below hf hA hF happ hP
  obtain ⟨hcalls, hrest, hpre⟩ := hP
  obtain ⟨-, -, -, hnamed, -, -, -, hat⟩ := (Spec.applies_iff hf).mp happ
  obtain ⟨hg, hn⟩ := and_e (Cond.before_iff.mp (show (Jvm.Cond.and given_1 narrow_1).before args s = true from hpre))
  obtain ⟨g1, g2⟩ := and_e hg
  obtain ⟨g3, g4⟩ := and_e g2
  obtain ⟨g5, g6⟩ := and_e g4
  obtain ⟨g7, g8⟩ := and_e g6
  obtain ⟨w0, w1, w2, w3, rfl⟩ : ∃ w0 w1 w2 w3 : Value, args = #[w0, w1, w2, w3] := by
    have hs : args.size = 4 := by simpa [Cond.value, given_1] using g1
    obtain ⟨L⟩ := args
    match L, hs with
    | [w0, w1, w2, w3], _ => exact ⟨w0, w1, w2, w3, rfl⟩
  have hw := fun d (hd : d ∈ tables_1) => atoms_spec (ws := Jvm.Cond.code x code maxLocals ret :: tables_1) hat d (List.mem_cons_of_mem _ hd)
  have hfit : Fit s := fun {y c} hc i hi => by
    obtain ⟨ha, rfl⟩ := Array.getElem?_eq_some_iff.mp hc
    have q := List.all_eq_true.mp ((Array.all_eq_true_iff_forall_mem.mp hF) _ (Array.getElem_mem ha)) i (List.mem_range.mpr hi)
    simpa [Array.getElem?_eq_getElem hi] using q
  obtain ⟨i0, ei0⟩ := isL_v g3
  obtain rfl : w0 = (.long i0) := Option.some.inj ei0
  obtain ⟨i1, ei1⟩ := isL_v g5
  obtain rfl : w1 = (.long i1) := Option.some.inj ei1
  obtain ⟨i2, ei2⟩ := isL_v g7
  obtain rfl : w2 = (.long i2) := Option.some.inj ei2
  obtain ⟨i3, ei3⟩ := isL_v g8
  obtain rfl : w3 = (.long i3) := Option.some.inj ei3
  obtain ⟨n, o, h1, h2, h3, _, L, rfl, ⟨rfl, N⟩, hq⟩ := rm0 l s _ hw tables_1 i0 i1 i2 i3 s.heap s.heap.size (Nat.le_refl _)  p e ha hc hk s m _ below hf ((Spec.applies_iff_loose hf).mp happ).1 ⟨rfl, State.Warmed39.refl s, rfl⟩ trivial
  refine ⟨n, _, h1, h2, h3, hpost _ _ _ _ _ _ ⟨Cond.after_iff.mpr rfl, Cond.after_iff.mpr (eq_i res_at (Term.int_eval (1)) rfl), trivial⟩ ⟨hq.1, hq.2.1, (hq.2.2.sift fun y hy => Or.inr (N y hy)).mono (by decide) (by decide)⟩⟩
theorem main_1_1 : Claimed_1_1 := comes_1 fun _ _ _ _ _ _ h hF => ⟨h.1, hF⟩
theorem main_1_2 : Claimed_1_2 := comes_1 fun _ _ _ _ _ _ h hF => ⟨h.2.1, hF⟩
end Jvm.Pilot.@@N@@

namespace Jvm.Pilot.@@N@@
open Jvm Jvm.ClassFile Sem Op Lib Jvm.Free Jvm.Stand Jvm.Pilot.@@N@@.Jvm.D
/-! MADE BY PROGRAM (witnessworld.py) out of the Statement's table words and the real class files: 19 classes; the members and pool entries that the words name. The judged class is class 1, her method 1. -/
namespace start1
open Jvm.ClassFile
def u (s : String) : CpInfo := .utf8 (stringToUtf16 s)
/-- a pool by its gaps: so many unusable entries, then the entry; so many at the end -/
def gap : Nat → List CpInfo → List CpInfo
  | 0, r => r
  | n + 1, r => .unusable :: gap n r
def poolList (es : List (Nat × CpInfo)) (last : Nat) : List CpInfo := es.foldr (fun e r => gap e.1 (e.2 :: r)) (gap last [])
def pool (es : List (Nat × CpInfo)) (last : Nat) : Array CpInfo := ⟨poolList es last⟩
def fileOf (pool : Array CpInfo) (this : Nat) (attrs : Array Attribute := #[]) (ms : Array MethodInfo := #[]) (fl : Nat := 33) (sup : Nat := 0) (ifs : Array Nat := #[]) (fds : Array FieldInfo := #[]) : ClassFile where
  minorVersion := 0
  majorVersion := 65
  constantPool := pool
  accessFlags := fl
  thisClass := this
  superClass := sup
  interfaces := ifs
  fields := fds
  methods := ms
  attributes := attrs
def plain (name : String) (sup : Option ClassId) : Class where
  name := name
  kind := .ordinary
  loader := none
  accessFlags := 33
  super := sup
  interfaces := #[]
  cf := none
  fields := #[]
  methods := #[]
  instanceTypes := #[]
  staticTypes := #[]
  resolved := #[]
  callSites := []
  init := .initialized
  statics := none
  mirror := none

def pool0 : Array CpInfo := pool [(5, u "<init>"), (0, u "()V"), (1, .class_ 10), (1, u "java/lang/Object")] 113

def k0c0 : Code := { maxStack := 0, maxLocals := 1, code := object_method_1_code, exceptionTable := #[], attributes := #[] }
def k0m0 : Method := { name := "<init>", desc := "()V", sig := { parameters := [], returnType := none }, accessFlags := 1, code := some k0c0 }
/-- java/lang/Object -/
def k0 : Class := { plain "java/lang/Object" none with
  accessFlags := 33
  interfaces := #[]
  cf := some (fileOf pool0 8 #[] #[{ accessFlags := 1, nameIndex := 5, descriptorIndex := 6, attributes := #[] }] 33 0 #[] #[])
  fields := #[]
  methods := #[k0m0]
  instanceTypes := #[]
  staticTypes := #[]
  resolved := Array.replicate 124 none
  statics := none }

def pool1 : Array CpInfo := pool [(2, .class_ 4), (1, u "java/lang/Object"), (0, u "<init>"), (0, u "()V"), (0, .class_ 8), (0, u "com/example/fifo3/fifo3/client/Resync"), (0, .methodref 7 10), (0, .nameAndType 5 11), (0, u "(JJ)V"), (0, .methodref 7 13), (0, .nameAndType 14 15), (0, u "correlationId"), (0, u "()J"), (0, .methodref 7 17), (0, .nameAndType 18 19), (0, u "follows"), (0, u "(J)Z"), (2, .long 9223372036854775808), (1, .methodref 25 26), (0, .class_ 27), (0, .nameAndType 28 29), (0, u "java/lang/Math"), (0, u "min"), (0, u "(JJ)J"), (0, .methodref 25 31), (0, .nameAndType 32 29), (0, u "max"), (0, .class_ 34), (0, u "com/example/fifo3/fifo3/client/ResyncFollowsPinLaw"), (2, u "law"), (0, u "(JJJJ)Z")] 3

def k1m0 : Method := { name := "<init>", desc := "()V", sig := { parameters := [], returnType := none }, accessFlags := 2, code := none }
def k1c1 : Code := { maxStack := 6, maxLocals := 17, code := code, exceptionTable := #[], attributes := #[] }
def k1m1 : Method := { name := "law", desc := "(JJJJ)Z", sig := { parameters := [.long, .long, .long, .long], returnType := some .boolean }, accessFlags := 9, code := some k1c1 }
/-- com/example/fifo3/fifo3/client/ResyncFollowsPinLaw -/
def k1 : Class := { plain "com/example/fifo3/fifo3/client/ResyncFollowsPinLaw" (some 0) with
  accessFlags := 49
  interfaces := #[]
  cf := some (fileOf pool1 33 #[] #[{ accessFlags := 2, nameIndex := 5, descriptorIndex := 6, attributes := #[] }, { accessFlags := 9, nameIndex := 37, descriptorIndex := 38, attributes := #[] }] 49 2 #[] #[])
  fields := #[]
  methods := #[k1m0, k1m1]
  instanceTypes := #[]
  staticTypes := #[]
  resolved := Array.replicate 42 none
  statics := none }

def pool2 : Array CpInfo := pool [(1, .methodref 2 3), (0, .class_ 4), (0, .nameAndType 5 6), (0, u "java/lang/Object"), (0, u "<init>"), (0, u "()V"), (0, .class_ 8), (0, u "java/util/HashSet"), (0, .methodref 7 3), (0, .fieldref 11 12), (0, .class_ 13), (0, .nameAndType 14 15), (0, u "com/example/fifo3/fifo3/client/Resync"), (0, u "registrations"), (0, u "Ljava/util/Set;"), (0, .class_ 17), (0, u "java/util/HashMap"), (0, .methodref 16 3), (0, .fieldref 11 20), (0, .nameAndType 21 22), (0, u "images"), (0, u "Ljava/util/Map;"), (0, .fieldref 11 24), (0, .nameAndType 25 26), (0, u "correlationId"), (0, u "J"), (0, .fieldref 11 28), (0, .nameAndType 29 26), (0, u "place"), (5, u "()J"), (55, u "(JJ)V"), (2, u "follows"), (0, u "(J)Z")] 41

def k2c0 : Code := { maxStack := 3, maxLocals := 5, code := prog_58_method_1_code, exceptionTable := #[], attributes := #[] }
def k2m0 : Method := { name := "<init>", desc := "(JJ)V", sig := { parameters := [.long, .long], returnType := none }, accessFlags := 0, code := some k2c0 }
def k2c1 : Code := { maxStack := 2, maxLocals := 1, code := prog_58_method_2_code, exceptionTable := #[], attributes := #[] }
def k2m1 : Method := { name := "correlationId", desc := "()J", sig := { parameters := [], returnType := some .long }, accessFlags := 0, code := some k2c1 }
def k2c2 : Code := { maxStack := 4, maxLocals := 3, code := prog_58_method_3_code, exceptionTable := #[], attributes := #[] }
def k2m2 : Method := { name := "follows", desc := "(J)Z", sig := { parameters := [.long], returnType := some .boolean }, accessFlags := 0, code := some k2c2 }
/-- com/example/fifo3/fifo3/client/Resync -/
def k2 : Class := { plain "com/example/fifo3/fifo3/client/Resync" (some 0) with
  accessFlags := 32
  interfaces := #[]
  cf := some (fileOf pool2 11 #[] #[{ accessFlags := 0, nameIndex := 5, descriptorIndex := 91, attributes := #[] }, { accessFlags := 0, nameIndex := 25, descriptorIndex := 35, attributes := #[] }, { accessFlags := 0, nameIndex := 94, descriptorIndex := 95, attributes := #[] }] 32 2 #[] #[{ accessFlags := 18, nameIndex := 25, descriptorIndex := 26, attributes := #[] }, { accessFlags := 18, nameIndex := 29, descriptorIndex := 26, attributes := #[] }, { accessFlags := 18, nameIndex := 14, descriptorIndex := 15, attributes := #[] }, { accessFlags := 18, nameIndex := 21, descriptorIndex := 22, attributes := #[] }])
  fields := #[{ name := "correlationId", type := .long, accessFlags := 18, slot := 0, constantValue := 0 }, { name := "place", type := .long, accessFlags := 18, slot := 1, constantValue := 0 }, { name := "registrations", type := (.object "java/util/Set"), accessFlags := 18, slot := 2, constantValue := 0 }, { name := "images", type := (.object "java/util/Map"), accessFlags := 18, slot := 3, constantValue := 0 }]
  methods := #[k2m0, k2m1, k2m2]
  instanceTypes := #[.long, .long, (.object "java/util/Set"), (.object "java/util/Map")]
  staticTypes := #[]
  resolved := Array.replicate 137 none
  statics := none }

def pool3 : Array CpInfo := pool [(8, .class_ 10), (1, u "java/lang/Iterable"), (24, .class_ 36), (0, u "java/lang/Object")] 25

/-- java/lang/Iterable -/
def k3 : Class := { plain "java/lang/Iterable" (some 0) with
  accessFlags := 1537
  interfaces := #[]
  cf := some (fileOf pool3 8 #[] #[] 1537 35 #[] #[])
  fields := #[]
  methods := #[]
  instanceTypes := #[]
  staticTypes := #[]
  resolved := Array.replicate 62 none
  statics := none }

def pool4 : Array CpInfo := pool [(10, .class_ 12), (1, u "java/util/Collection"), (47, .class_ 61), (0, u "java/lang/Object"), (0, .class_ 63), (0, u "java/lang/Iterable")] 51

/-- java/util/Collection -/
def k4 : Class := { plain "java/util/Collection" (some 0) with
  accessFlags := 1537
  interfaces := #[3]
  cf := some (fileOf pool4 10 #[] #[] 1537 60 #[62] #[])
  fields := #[]
  methods := #[]
  instanceTypes := #[]
  staticTypes := #[]
  resolved := Array.replicate 115 none
  statics := none }

def pool5 : Array CpInfo := pool [(1, .methodref 2 3), (0, .class_ 4), (0, .nameAndType 5 6), (0, u "java/lang/Object"), (0, u "<init>"), (0, u "()V"), (1, .class_ 10), (1, u "java/util/AbstractCollection"), (66, .class_ 78), (0, u "java/util/Collection")] 81

def k5c0 : Code := { maxStack := 1, maxLocals := 1, code := jdk_22_method_1_code, exceptionTable := #[], attributes := #[] }
def k5m0 : Method := { name := "<init>", desc := "()V", sig := { parameters := [], returnType := none }, accessFlags := 4, code := some k5c0 }
/-- java/util/AbstractCollection -/
def k5 : Class := { plain "java/util/AbstractCollection" (some 0) with
  accessFlags := 1057
  interfaces := #[4]
  cf := some (fileOf pool5 8 #[] #[{ accessFlags := 4, nameIndex := 5, descriptorIndex := 6, attributes := #[] }] 1057 2 #[77] #[])
  fields := #[]
  methods := #[k5m0]
  instanceTypes := #[]
  staticTypes := #[]
  resolved := Array.replicate 160 none
  statics := none }

def pool6 : Array CpInfo := pool [(26, .class_ 27), (0, u "java/lang/Object"), (5, .class_ 34), (0, u "java/util/Set"), (1, .class_ 38), (1, u "java/util/Collection")] 105

/-- java/util/Set -/
def k6 : Class := { plain "java/util/Set" (some 0) with
  accessFlags := 1537
  interfaces := #[4]
  cf := some (fileOf pool6 33 #[] #[] 1537 26 #[36] #[])
  fields := #[]
  methods := #[]
  instanceTypes := #[]
  staticTypes := #[]
  resolved := Array.replicate 144 none
  statics := none }

def pool7 : Array CpInfo := pool [(1, .methodref 2 3), (0, .class_ 4), (0, .nameAndType 5 6), (0, u "java/util/AbstractCollection"), (0, u "<init>"), (0, u "()V"), (0, .class_ 8), (0, u "java/util/Set"), (7, .class_ 17), (0, u "java/util/AbstractSet")] 78

def k7c0 : Code := { maxStack := 1, maxLocals := 1, code := jdk_91_method_1_code, exceptionTable := #[], attributes := #[] }
def k7m0 : Method := { name := "<init>", desc := "()V", sig := { parameters := [], returnType := none }, accessFlags := 4, code := some k7c0 }
/-- java/util/AbstractSet -/
def k7 : Class := { plain "java/util/AbstractSet" (some 5) with
  accessFlags := 1057
  interfaces := #[6]
  cf := some (fileOf pool7 16 #[] #[{ accessFlags := 4, nameIndex := 5, descriptorIndex := 6, attributes := #[] }] 1057 2 #[7] #[])
  fields := #[]
  methods := #[k7m0]
  instanceTypes := #[]
  staticTypes := #[]
  resolved := Array.replicate 96 none
  statics := none }

def pool8 : Array CpInfo := pool [(1, .class_ 2), (0, u "java/lang/Cloneable"), (0, .class_ 4), (0, u "java/lang/Object")] 2

/-- java/lang/Cloneable -/
def k8 : Class := { plain "java/lang/Cloneable" (some 0) with
  accessFlags := 1537
  interfaces := #[]
  cf := some (fileOf pool8 1 #[] #[] 1537 3 #[] #[])
  fields := #[]
  methods := #[]
  instanceTypes := #[]
  staticTypes := #[]
  resolved := Array.replicate 7 none
  statics := none }

def pool9 : Array CpInfo := pool [(1, .class_ 2), (0, u "java/io/Serializable"), (0, .class_ 4), (0, u "java/lang/Object")] 2

/-- java/io/Serializable -/
def k9 : Class := { plain "java/io/Serializable" (some 0) with
  accessFlags := 1537
  interfaces := #[]
  cf := some (fileOf pool9 1 #[] #[] 1537 3 #[] #[])
  fields := #[]
  methods := #[]
  instanceTypes := #[]
  staticTypes := #[]
  resolved := Array.replicate 7 none
  statics := none }

def pool10 : Array CpInfo := pool [(1, .methodref 2 3), (0, .class_ 4), (0, .nameAndType 5 6), (0, u "java/util/AbstractSet"), (0, u "<init>"), (0, u "()V"), (0, .class_ 8), (0, u "java/util/HashMap"), (0, .methodref 7 3), (0, .fieldref 11 12), (0, .class_ 13), (0, .nameAndType 14 15), (0, u "java/util/HashSet"), (0, u "map"), (0, u "Ljava/util/HashMap;"), (34, .class_ 52), (1, u "java/util/Set"), (13, u "PRESENT"), (0, u "Ljava/lang/Object;"), (158, .class_ 227), (0, u "java/lang/Cloneable"), (0, .class_ 229), (0, u "java/io/Serializable"), (0, u "serialVersionUID"), (0, u "J")] 71

def k10c0 : Code := { maxStack := 3, maxLocals := 1, code := jdk_93_method_1_code, exceptionTable := #[], attributes := #[] }
def k10m0 : Method := { name := "<init>", desc := "()V", sig := { parameters := [], returnType := none }, accessFlags := 1, code := some k10c0 }
/-- java/util/HashSet -/
def k10 : Class := { plain "java/util/HashSet" (some 7) with
  accessFlags := 33
  interfaces := #[6, 8, 9]
  cf := some (fileOf pool10 11 #[] #[{ accessFlags := 1, nameIndex := 5, descriptorIndex := 6, attributes := #[] }] 33 2 #[50, 226, 228] #[{ accessFlags := 24, nameIndex := 230, descriptorIndex := 231, attributes := #[] }, { accessFlags := 128, nameIndex := 14, descriptorIndex := 15, attributes := #[] }, { accessFlags := 24, nameIndex := 66, descriptorIndex := 67, attributes := #[] }])
  fields := #[{ name := "serialVersionUID", type := .long, accessFlags := 24, slot := 0, constantValue := 0 }, { name := "map", type := (.object "java/util/HashMap"), accessFlags := 128, slot := 0, constantValue := 0 }, { name := "PRESENT", type := (.object "java/lang/Object"), accessFlags := 24, slot := 1, constantValue := 0 }]
  methods := #[k10m0]
  instanceTypes := #[(.object "java/util/HashMap")]
  staticTypes := #[.long, (.object "java/lang/Object")]
  resolved := Array.replicate 303 none
  statics := none }

def pool11 : Array CpInfo := pool [(2, .class_ 4), (1, u "java/util/Map"), (31, .class_ 37), (0, u "java/util/Map$Entry"), (55, .class_ 94), (0, u "java/lang/Object")] 168

/-- java/util/Map -/
def k11 : Class := { plain "java/util/Map" (some 0) with
  accessFlags := 1537
  interfaces := #[]
  cf := some (fileOf pool11 2 #[.nestMembers #[36]] #[] 1537 93 #[] #[])
  fields := #[]
  methods := #[]
  instanceTypes := #[]
  staticTypes := #[]
  resolved := Array.replicate 263 none
  statics := none }

def pool12 : Array CpInfo := pool [(1, .methodref 2 3), (0, .class_ 4), (0, .nameAndType 5 6), (0, u "java/lang/Object"), (0, u "<init>"), (0, u "()V"), (1, .class_ 10), (1, u "java/util/AbstractMap"), (42, .class_ 54), (0, u "java/util/Map"), (9, u "keySet"), (0, u "Ljava/util/Set;"), (0, .class_ 67), (0, u "java/util/AbstractMap$1"), (5, u "values"), (0, u "Ljava/util/Collection;"), (0, .class_ 76), (0, u "java/util/AbstractMap$2"), (104, .class_ 182), (0, u "java/util/AbstractMap$ViewCollection"), (0, .class_ 184), (0, u "java/util/AbstractMap$SimpleImmutableEntry"), (0, .class_ 186), (0, u "java/util/AbstractMap$SimpleEntry"), (0, .class_ 188), (0, u "java/util/AbstractMap$2$1"), (0, .class_ 190), (0, u "java/util/AbstractMap$1$1")] 5

def k12c0 : Code := { maxStack := 1, maxLocals := 1, code := jdk_71_method_1_code, exceptionTable := #[], attributes := #[] }
def k12m0 : Method := { name := "<init>", desc := "()V", sig := { parameters := [], returnType := none }, accessFlags := 4, code := some k12c0 }
/-- java/util/AbstractMap -/
def k12 : Class := { plain "java/util/AbstractMap" (some 0) with
  accessFlags := 1057
  interfaces := #[11]
  cf := some (fileOf pool12 8 #[.nestMembers #[181, 183, 185, 75, 187, 66, 189]] #[{ accessFlags := 4, nameIndex := 5, descriptorIndex := 6, attributes := #[] }] 1057 2 #[53] #[{ accessFlags := 128, nameIndex := 64, descriptorIndex := 65, attributes := #[] }, { accessFlags := 128, nameIndex := 73, descriptorIndex := 74, attributes := #[] }])
  fields := #[{ name := "keySet", type := (.object "java/util/Set"), accessFlags := 128, slot := 0, constantValue := 0 }, { name := "values", type := (.object "java/util/Collection"), accessFlags := 128, slot := 1, constantValue := 0 }]
  methods := #[k12m0]
  instanceTypes := #[(.object "java/util/Set"), (.object "java/util/Collection")]
  staticTypes := #[]
  resolved := Array.replicate 196 none
  statics := none }

def pool13 : Array CpInfo := pool [(40, .class_ 41), (0, u "java/util/HashMap"), (1, .methodref 44 45), (0, .class_ 46), (0, .nameAndType 47 48), (0, u "java/util/AbstractMap"), (0, u "<init>"), (0, u "()V"), (32, .fieldref 40 82), (0, .nameAndType 83 84), (0, u "loadFactor"), (0, u "F"), (5, u "threshold"), (0, u "I"), (0, .float 1061158912), (8, .class_ 103), (1, u "java/util/Map"), (0, u "size"), (2, u "table"), (0, u "[Ljava/util/HashMap$Node;"), (14, u "entrySet"), (39, .class_ 165), (1, u "java/util/HashMap$Node"), (14, .class_ 181), (0, u "java/util/HashMap$TreeNode"), (22, u "modCount"), (37, u "Ljava/util/Set;"), (0, .class_ 244), (0, u "java/util/HashMap$KeySet"), (18, .class_ 264), (0, u "java/util/HashMap$Values"), (3, .class_ 269), (0, u "java/util/HashMap$EntrySet"), (76, .class_ 348), (1, u "java/util/HashMap$UnsafeHolder"), (43, .class_ 393), (0, u "java/lang/Cloneable"), (0, .class_ 395), (0, u "java/io/Serializable"), (0, u "serialVersionUID"), (0, u "J"), (3, u "DEFAULT_INITIAL_CAPACITY"), (1, u "MAXIMUM_CAPACITY"), (0, u "DEFAULT_LOAD_FACTOR"), (0, u "TREEIFY_THRESHOLD"), (1, u "UNTREEIFY_THRESHOLD"), (1, u "MIN_TREEIFY_CAPACITY"), (186, .class_ 597), (0, u "java/util/HashMap$EntrySpliterator"), (0, .class_ 599), (0, u "java/util/HashMap$ValueSpliterator"), (0, .class_ 601), (0, u "java/util/HashMap$KeySpliterator"), (0, .class_ 603), (0, u "java/util/HashMap$HashMapSpliterator"), (0, .class_ 605), (0, u "java/util/HashMap$EntryIterator"), (0, .class_ 607), (0, u "java/util/HashMap$ValueIterator"), (0, .class_ 609), (0, u "java/util/HashMap$KeyIterator"), (0, .class_ 611), (0, u "java/util/HashMap$HashIterator")] 17

def k13c0 : Code := { maxStack := 2, maxLocals := 1, code := jdk_69_method_7_code, exceptionTable := #[], attributes := #[] }
def k13m0 : Method := { name := "<init>", desc := "()V", sig := { parameters := [], returnType := none }, accessFlags := 1, code := some k13c0 }
/-- java/util/HashMap -/
def k13 : Class := { plain "java/util/HashMap" (some 12) with
  accessFlags := 33
  interfaces := #[11, 8, 9]
  cf := some (fileOf pool13 40 #[.nestMembers #[180, 596, 598, 600, 602, 604, 606, 608, 610, 346, 268, 263, 243, 163]] #[{ accessFlags := 1, nameIndex := 47, descriptorIndex := 48, attributes := #[] }] 33 44 #[101, 392, 394] #[{ accessFlags := 26, nameIndex := 396, descriptorIndex := 397, attributes := #[] }, { accessFlags := 24, nameIndex := 401, descriptorIndex := 91, attributes := #[] }, { accessFlags := 24, nameIndex := 403, descriptorIndex := 91, attributes := #[] }, { accessFlags := 24, nameIndex := 404, descriptorIndex := 84, attributes := #[] }, { accessFlags := 24, nameIndex := 405, descriptorIndex := 91, attributes := #[] }, { accessFlags := 24, nameIndex := 407, descriptorIndex := 91, attributes := #[] }, { accessFlags := 24, nameIndex := 409, descriptorIndex := 91, attributes := #[] }, { accessFlags := 128, nameIndex := 107, descriptorIndex := 108, attributes := #[] }, { accessFlags := 128, nameIndex := 123, descriptorIndex := 242, attributes := #[] }, { accessFlags := 128, nameIndex := 104, descriptorIndex := 91, attributes := #[] }, { accessFlags := 128, nameIndex := 204, descriptorIndex := 91, attributes := #[] }, { accessFlags := 0, nameIndex := 90, descriptorIndex := 91, attributes := #[] }, { accessFlags := 16, nameIndex := 83, descriptorIndex := 84, attributes := #[] }])
  fields := #[{ name := "serialVersionUID", type := .long, accessFlags := 26, slot := 0, constantValue := 0 }, { name := "DEFAULT_INITIAL_CAPACITY", type := .int, accessFlags := 24, slot := 1, constantValue := 0 }, { name := "MAXIMUM_CAPACITY", type := .int, accessFlags := 24, slot := 2, constantValue := 0 }, { name := "DEFAULT_LOAD_FACTOR", type := .float, accessFlags := 24, slot := 3, constantValue := 0 }, { name := "TREEIFY_THRESHOLD", type := .int, accessFlags := 24, slot := 4, constantValue := 0 }, { name := "UNTREEIFY_THRESHOLD", type := .int, accessFlags := 24, slot := 5, constantValue := 0 }, { name := "MIN_TREEIFY_CAPACITY", type := .int, accessFlags := 24, slot := 6, constantValue := 0 }, { name := "table", type := (.array (.object "java/util/HashMap$Node")), accessFlags := 128, slot := 2, constantValue := 0 }, { name := "entrySet", type := (.object "java/util/Set"), accessFlags := 128, slot := 3, constantValue := 0 }, { name := "size", type := .int, accessFlags := 128, slot := 4, constantValue := 0 }, { name := "modCount", type := .int, accessFlags := 128, slot := 5, constantValue := 0 }, { name := "threshold", type := .int, accessFlags := 0, slot := 6, constantValue := 0 }, { name := "loadFactor", type := .float, accessFlags := 16, slot := 7, constantValue := 0 }]
  methods := #[k13m0]
  instanceTypes := #[(.object "java/util/Set"), (.object "java/util/Collection"), (.array (.object "java/util/HashMap$Node")), (.object "java/util/Set"), .int, .int, .int, .float]
  staticTypes := #[.long, .int, .int, .float, .int, .int, .int]
  resolved := Array.replicate 629 none
  statics := none }

def pool14 : Array CpInfo := pool [(1, .class_ 2), (0, u "java/lang/Math"), (1, .class_ 6), (1, u "java/lang/Object"), (0, u "<init>"), (0, u "()V"), (89, .class_ 100), (1, u "java/lang/Math$RandomNumberGeneratorHolder"), (20, u "(JJ)J"), (50, u "negativeZeroFloatBits"), (0, u "J"), (2, u "negativeZeroDoubleBits"), (21, u "max"), (2, u "min"), (43, u "$assertionsDisabled"), (0, u "Z"), (91, u "twoToTheDoubleScaleDown"), (0, u "D"), (4, u "twoToTheDoubleScaleUp"), (9, u "E"), (3, u "PI"), (2, u "TAU"), (2, u "DEGREES_TO_RADIANS"), (0, u "RADIANS_TO_DEGREES")] 94

def k14m0 : Method := { name := "<init>", desc := "()V", sig := { parameters := [], returnType := none }, accessFlags := 2, code := none }
def k14c1 : Code := { maxStack := 4, maxLocals := 4, code := jdk_29_method_66_code, exceptionTable := #[], attributes := #[] }
def k14m1 : Method := { name := "max", desc := "(JJ)J", sig := { parameters := [.long, .long], returnType := some .long }, accessFlags := 9, code := some k14c1 }
def k14c2 : Code := { maxStack := 4, maxLocals := 4, code := jdk_29_method_70_code, exceptionTable := #[], attributes := #[] }
def k14m2 : Method := { name := "min", desc := "(JJ)J", sig := { parameters := [.long, .long], returnType := some .long }, accessFlags := 9, code := some k14c2 }
/-- java/lang/Math -/
def k14 : Class := { plain "java/lang/Math" (some 0) with
  accessFlags := 49
  interfaces := #[]
  cf := some (fileOf pool14 1 #[.nestMembers #[98]] #[{ accessFlags := 2, nameIndex := 7, descriptorIndex := 8, attributes := #[] }, { accessFlags := 9, nameIndex := 198, descriptorIndex := 121, attributes := #[] }, { accessFlags := 9, nameIndex := 201, descriptorIndex := 121, attributes := #[] }] 49 4 #[] #[{ accessFlags := 25, nameIndex := 354, descriptorIndex := 339, attributes := #[] }, { accessFlags := 25, nameIndex := 358, descriptorIndex := 339, attributes := #[] }, { accessFlags := 25, nameIndex := 361, descriptorIndex := 339, attributes := #[] }, { accessFlags := 26, nameIndex := 364, descriptorIndex := 339, attributes := #[] }, { accessFlags := 26, nameIndex := 365, descriptorIndex := 339, attributes := #[] }, { accessFlags := 26, nameIndex := 172, descriptorIndex := 173, attributes := #[] }, { accessFlags := 26, nameIndex := 176, descriptorIndex := 173, attributes := #[] }, { accessFlags := 8, nameIndex := 344, descriptorIndex := 339, attributes := #[] }, { accessFlags := 8, nameIndex := 338, descriptorIndex := 339, attributes := #[] }, { accessFlags := 4120, nameIndex := 245, descriptorIndex := 246, attributes := #[] }])
  fields := #[{ name := "E", type := .double, accessFlags := 25, slot := 0, constantValue := 0 }, { name := "PI", type := .double, accessFlags := 25, slot := 1, constantValue := 0 }, { name := "TAU", type := .double, accessFlags := 25, slot := 2, constantValue := 0 }, { name := "DEGREES_TO_RADIANS", type := .double, accessFlags := 26, slot := 3, constantValue := 0 }, { name := "RADIANS_TO_DEGREES", type := .double, accessFlags := 26, slot := 4, constantValue := 0 }, { name := "negativeZeroFloatBits", type := .long, accessFlags := 26, slot := 5, constantValue := 0 }, { name := "negativeZeroDoubleBits", type := .long, accessFlags := 26, slot := 6, constantValue := 0 }, { name := "twoToTheDoubleScaleUp", type := .double, accessFlags := 8, slot := 7, constantValue := 0 }, { name := "twoToTheDoubleScaleDown", type := .double, accessFlags := 8, slot := 8, constantValue := 0 }, { name := "$assertionsDisabled", type := .boolean, accessFlags := 4120, slot := 9, constantValue := 0 }]
  methods := #[k14m0, k14m1, k14m2]
  instanceTypes := #[]
  staticTypes := #[.double, .double, .double, .double, .double, .long, .long, .double, .double, .boolean]
  resolved := Array.replicate 460 none
  statics := none }

/-- the primitive byte -/
def k15 : Class := { plain "byte" none with kind := .primitive 'B', accessFlags := 0x411 }
/-- [B -/
def k16 : Class := { plain "[B" (some 0) with kind := .array 15 .byte, interfaces := #[8, 9], accessFlags := 1041 }

/-- the primitive int -/
def k17 : Class := { plain "int" none with kind := .primitive 'I', accessFlags := 0x411 }
/-- [I -/
def k18 : Class := { plain "[I" (some 0) with kind := .array 17 .int, interfaces := #[8, 9], accessFlags := 1041 }

def heap : Heap := #[]
def classes : Array Class := #[k0, k1, k2, k3, k4, k5, k6, k7, k8, k9, k10, k11, k12, k13, k14, k15, k16, k17, k18]
def interned : List (Array UInt16 × Addr) := []
def slotsUsed : Nat := 0
def theMethod : MethodId := ⟨1, 1⟩
def args0 : Array Value := #[.long 5, .long 7, .long 3, .long 4]
def aboutOver (below : List Frame) : State where
  vm := { classes := classes, interned := interned.toArray }
  heap := heap
  slotsUsed := slotsUsed
  threads := #[{ frames := .invoking theMethod args0 :: below }]
def below0 : List Frame := [.native { method := ⟨0, 0⟩, args := #[] }]
def about1 : State := aboutOver below0
def p0 : Program := .bare "" "" ""
def e0 : Env := launch0.env 0 0 0
theorem w_frames : about1.frames = Frame.invoking theMethod args0 :: below0 := rfl
set_option maxRecDepth 65536 in
theorem w_args : argsFit about1.vm theMethod args0 = true := by decide +kernel
set_option maxRecDepth 65536 in
theorem w_heap : heapFits about1 = true := by decide +kernel
set_option maxRecDepth 65536 in
theorem w_runnable : about1.curStatus? = some .runnable := by decide +kernel
set_option maxRecDepth 65536 in
theorem w_alone : about1.alone = true := by decide +kernel
set_option maxRecDepth 65536 in
theorem w_named : about1.methodNamed? x = some theMethod := by decide +kernel
set_option maxRecDepth 65536 in
theorem w_hears : about1.hears theMethod below0 = true := by decide +kernel
set_option maxRecDepth 65536 in
theorem w_ripe : about1.ripe theMethod args0 below0 = true := by decide +kernel
theorem w_running : about1.status = .running := rfl
set_option maxRecDepth 65536 in
theorem w_room : about1.hasRoom e0.platform room_1 = true :=
  launch0.hasRoom_least _ room_1 (by decide +kernel) (by decide +kernel) (by decide +kernel) (by decide +kernel) (by decide +kernel) (by decide +kernel)
theorem allAtoms_all (ts : List Jvm.Cond) (a : Array Jvm.Value) (st : Jvm.State) : (allAtoms ts).before a st = ts.all (fun c => c.before a st) := by
  induction ts with
  | nil => rfl
  | cons c t ih =>
    show (Jvm.Cond.and c (allAtoms t)).before a st = _
    rw [Jvm.Cond.before_and, ih, List.all_cons]
def words1 : List Jvm.Cond := Jvm.Cond.code x code maxLocals ret :: tables_1
/-- a 'code' word, met by the world's own term for the bytes: nothing is compared byte by byte -/
theorem code_word {y : MethodName} {bytes : ByteArray} {mx : Nat} {rt : Option FieldType} {a : Array Value} {s : State} {m : MethodId} {meth : Method} {c : Code} (h1 : s.methodNamed? y = some m) (h2 : s.vm.method? m = some meth) (h3 : meth.code = some c) (h4 : c.code = bytes)
    (h5 : (c.maxLocals == mx && c.exceptionTable.isEmpty && decide (c.maxStack ≤ mostOperands) && decide (meth.sig.returnType = rt) && !meth.locks && decide (parseMethodDescriptor y.desc = some meth.sig)) = true) : (Jvm.Cond.code y bytes mx rt).before a s = true := by
  simp only [Bool.and_eq_true, beq_iff_eq, Bool.not_eq_true', decide_eq_true_eq] at h5
  obtain ⟨⟨⟨⟨⟨g1, g2⟩, g3⟩, g4⟩, g5⟩, g6⟩ := h5
  simp [Cond.before, Cond.holds, Cond.value, h1, h2, h3, h4, g1, g2, g3, g4, g5, g6]
def isCode : Jvm.Cond → Bool
  | .code _ _ _ _ => true
  | _ => false
theorem all_split {L : List Jvm.Cond} {P : Jvm.Cond → Bool} (h1 : L.all (fun c => isCode c || P c) = true) (h2 : ∀ c ∈ L.filter isCode, P c = true) : L.all P = true := by
  refine List.all_eq_true.mpr fun c hc => ?_
  have h := List.all_eq_true.mp h1 c hc
  rcases Bool.eq_false_or_eq_true (isCode c) with hi | hi
  · exact h2 c (List.mem_filter.mpr ⟨hc, hi⟩)
  · simpa [hi] using h
set_option maxRecDepth 65536 in
theorem w_c0 : (Jvm.Cond.code x code maxLocals ret).before args0 about1 = true := code_word (m := ⟨1, 1⟩) (meth := k1m1) (c := k1c1) (by decide +kernel) rfl rfl rfl (by decide +kernel)
set_option maxRecDepth 65536 in
theorem w_c1 : (Jvm.Cond.code ({ cls := "com/example/fifo3/fifo3/client/Resync", name := "<init>", desc := "(JJ)V" } : Jvm.MethodName) prog_58_method_1_code (5 : Nat) (Option.none : Option Jvm.ClassFile.FieldType)).before args0 about1 = true := code_word (m := ⟨2, 0⟩) (meth := k2m0) (c := k2c0) (by decide +kernel) rfl rfl rfl (by decide +kernel)
set_option maxRecDepth 65536 in
theorem w_c2 : (Jvm.Cond.code ({ cls := "java/lang/Object", name := "<init>", desc := "()V" } : Jvm.MethodName) object_method_1_code (1 : Nat) (Option.none : Option Jvm.ClassFile.FieldType)).before args0 about1 = true := code_word (m := ⟨0, 0⟩) (meth := k0m0) (c := k0c0) (by decide +kernel) rfl rfl rfl (by decide +kernel)
set_option maxRecDepth 65536 in
theorem w_c3 : (Jvm.Cond.code ({ cls := "java/util/HashSet", name := "<init>", desc := "()V" } : Jvm.MethodName) jdk_93_method_1_code (1 : Nat) (Option.none : Option Jvm.ClassFile.FieldType)).before args0 about1 = true := code_word (m := ⟨10, 0⟩) (meth := k10m0) (c := k10c0) (by decide +kernel) rfl rfl rfl (by decide +kernel)
set_option maxRecDepth 65536 in
theorem w_c4 : (Jvm.Cond.code ({ cls := "java/util/AbstractSet", name := "<init>", desc := "()V" } : Jvm.MethodName) jdk_91_method_1_code (1 : Nat) (Option.none : Option Jvm.ClassFile.FieldType)).before args0 about1 = true := code_word (m := ⟨7, 0⟩) (meth := k7m0) (c := k7c0) (by decide +kernel) rfl rfl rfl (by decide +kernel)
set_option maxRecDepth 65536 in
theorem w_c5 : (Jvm.Cond.code ({ cls := "java/util/AbstractCollection", name := "<init>", desc := "()V" } : Jvm.MethodName) jdk_22_method_1_code (1 : Nat) (Option.none : Option Jvm.ClassFile.FieldType)).before args0 about1 = true := code_word (m := ⟨5, 0⟩) (meth := k5m0) (c := k5c0) (by decide +kernel) rfl rfl rfl (by decide +kernel)
set_option maxRecDepth 65536 in
theorem w_c6 : (Jvm.Cond.code ({ cls := "java/util/HashMap", name := "<init>", desc := "()V" } : Jvm.MethodName) jdk_69_method_7_code (1 : Nat) (Option.none : Option Jvm.ClassFile.FieldType)).before args0 about1 = true := code_word (m := ⟨13, 0⟩) (meth := k13m0) (c := k13c0) (by decide +kernel) rfl rfl rfl (by decide +kernel)
set_option maxRecDepth 65536 in
theorem w_c7 : (Jvm.Cond.code ({ cls := "java/util/AbstractMap", name := "<init>", desc := "()V" } : Jvm.MethodName) jdk_71_method_1_code (1 : Nat) (Option.none : Option Jvm.ClassFile.FieldType)).before args0 about1 = true := code_word (m := ⟨12, 0⟩) (meth := k12m0) (c := k12c0) (by decide +kernel) rfl rfl rfl (by decide +kernel)
set_option maxRecDepth 65536 in
theorem w_c8 : (Jvm.Cond.code ({ cls := "com/example/fifo3/fifo3/client/Resync", name := "correlationId", desc := "()J" } : Jvm.MethodName) prog_58_method_2_code (1 : Nat) (Option.some Jvm.ClassFile.FieldType.long)).before args0 about1 = true := code_word (m := ⟨2, 1⟩) (meth := k2m1) (c := k2c1) (by decide +kernel) rfl rfl rfl (by decide +kernel)
set_option maxRecDepth 65536 in
theorem w_c9 : (Jvm.Cond.code ({ cls := "com/example/fifo3/fifo3/client/Resync", name := "follows", desc := "(J)Z" } : Jvm.MethodName) prog_58_method_3_code (3 : Nat) (Option.some Jvm.ClassFile.FieldType.boolean)).before args0 about1 = true := code_word (m := ⟨2, 2⟩) (meth := k2m2) (c := k2c2) (by decide +kernel) rfl rfl rfl (by decide +kernel)
set_option maxRecDepth 65536 in
theorem w_c10 : (Jvm.Cond.code ({ cls := "java/lang/Math", name := "min", desc := "(JJ)J" } : Jvm.MethodName) jdk_29_method_70_code (4 : Nat) (Option.some Jvm.ClassFile.FieldType.long)).before args0 about1 = true := code_word (m := ⟨14, 2⟩) (meth := k14m2) (c := k14c2) (by decide +kernel) rfl rfl rfl (by decide +kernel)
set_option maxRecDepth 65536 in
theorem w_c11 : (Jvm.Cond.code ({ cls := "java/lang/Math", name := "max", desc := "(JJ)J" } : Jvm.MethodName) jdk_29_method_66_code (4 : Nat) (Option.some Jvm.ClassFile.FieldType.long)).before args0 about1 = true := code_word (m := ⟨14, 1⟩) (meth := k14m1) (c := k14c1) (by decide +kernel) rfl rfl rfl (by decide +kernel)
def codes1 : List Jvm.Cond := [Jvm.Cond.code x code maxLocals ret, Jvm.Cond.code ({ cls := "com/example/fifo3/fifo3/client/Resync", name := "<init>", desc := "(JJ)V" } : Jvm.MethodName) prog_58_method_1_code (5 : Nat) (Option.none : Option Jvm.ClassFile.FieldType), Jvm.Cond.code ({ cls := "java/lang/Object", name := "<init>", desc := "()V" } : Jvm.MethodName) object_method_1_code (1 : Nat) (Option.none : Option Jvm.ClassFile.FieldType), Jvm.Cond.code ({ cls := "java/util/HashSet", name := "<init>", desc := "()V" } : Jvm.MethodName) jdk_93_method_1_code (1 : Nat) (Option.none : Option Jvm.ClassFile.FieldType), Jvm.Cond.code ({ cls := "java/util/AbstractSet", name := "<init>", desc := "()V" } : Jvm.MethodName) jdk_91_method_1_code (1 : Nat) (Option.none : Option Jvm.ClassFile.FieldType), Jvm.Cond.code ({ cls := "java/util/AbstractCollection", name := "<init>", desc := "()V" } : Jvm.MethodName) jdk_22_method_1_code (1 : Nat) (Option.none : Option Jvm.ClassFile.FieldType), Jvm.Cond.code ({ cls := "java/util/HashMap", name := "<init>", desc := "()V" } : Jvm.MethodName) jdk_69_method_7_code (1 : Nat) (Option.none : Option Jvm.ClassFile.FieldType), Jvm.Cond.code ({ cls := "java/util/AbstractMap", name := "<init>", desc := "()V" } : Jvm.MethodName) jdk_71_method_1_code (1 : Nat) (Option.none : Option Jvm.ClassFile.FieldType), Jvm.Cond.code ({ cls := "com/example/fifo3/fifo3/client/Resync", name := "correlationId", desc := "()J" } : Jvm.MethodName) prog_58_method_2_code (1 : Nat) (Option.some Jvm.ClassFile.FieldType.long), Jvm.Cond.code ({ cls := "com/example/fifo3/fifo3/client/Resync", name := "follows", desc := "(J)Z" } : Jvm.MethodName) prog_58_method_3_code (3 : Nat) (Option.some Jvm.ClassFile.FieldType.boolean), Jvm.Cond.code ({ cls := "java/lang/Math", name := "min", desc := "(JJ)J" } : Jvm.MethodName) jdk_29_method_70_code (4 : Nat) (Option.some Jvm.ClassFile.FieldType.long), Jvm.Cond.code ({ cls := "java/lang/Math", name := "max", desc := "(JJ)J" } : Jvm.MethodName) jdk_29_method_66_code (4 : Nat) (Option.some Jvm.ClassFile.FieldType.long)]
set_option maxRecDepth 65536 in
theorem codes_eq : words1.filter isCode = codes1 := rfl
theorem w_codes : ∀ c ∈ words1.filter isCode, c.before args0 about1 = true := by
  rw [codes_eq]
  intro c hc
  simp only [codes1, List.mem_cons, List.not_mem_nil, or_false] at hc
  rcases hc with rfl | rfl | rfl | rfl | rfl | rfl | rfl | rfl | rfl | rfl | rfl | rfl
  · exact w_c0
  · exact w_c1
  · exact w_c2
  · exact w_c3
  · exact w_c4
  · exact w_c5
  · exact w_c6
  · exact w_c7
  · exact w_c8
  · exact w_c9
  · exact w_c10
  · exact w_c11
set_option maxRecDepth 65536 in
theorem w_t1 : (words1.take 24).all (fun c => isCode c || c.before args0 about1) = true := by decide +kernel
set_option maxRecDepth 65536 in
theorem w_t2 : ((words1.drop 24).take 24).all (fun c => isCode c || c.before args0 about1) = true := by decide +kernel
set_option maxRecDepth 65536 in
theorem w_t3 : (((words1.drop 24).drop 24).take 24).all (fun c => isCode c || c.before args0 about1) = true := by decide +kernel
set_option maxRecDepth 65536 in
theorem w_t4 : (((words1.drop 24).drop 24).drop 24).all (fun c => isCode c || c.before args0 about1) = true := by decide +kernel
theorem w_tables : (allAtoms (Jvm.Cond.code x code maxLocals ret :: tables_1)).before args0 about1 = true := by
  rw [allAtoms_all]
  show words1.all (fun c => c.before args0 about1) = true
  refine all_split ?_ w_codes
  rw [← List.take_append_drop 24 words1, List.all_append, w_t1, ← List.take_append_drop 24 (words1.drop 24), List.all_append, w_t2, ← List.take_append_drop 24 ((words1.drop 24).drop 24), List.all_append, w_t3, w_t4]
  rfl
set_option maxRecDepth 65536 in
theorem w_case : (Jvm.Cond.and given_1 narrow_1).before args0 about1 = true := by decide +kernel
theorem w_applies : (headSpec (Jvm.Cond.code x code maxLocals ret :: tables_1) room_1).applies x e0.platform about1 = true :=
  (Spec.applies_iff w_frames).mpr ⟨w_running, w_runnable, w_alone, w_named, w_hears, w_ripe, w_room, w_tables⟩
theorem atStart : AtStart classFile x code maxLocals ret World_1 tables_1 room_1 Calls_1 rest_1 Pre_1 launch0 p0 e0 about1 theMethod args0 below0 :=
  ⟨lists_1, trivial, launch0.admits_env _ _ _, launch0.least_env, fairChoices_fair.cas, fairChoices_fair.clock, w_frames, w_args, w_heap, w_applies, trivial, trivial, w_case⟩
end start1
theorem witness_1 : WitnessClaimed_1 := ⟨start1.p0, start1.e0, start1.about1, start1.theMethod, start1.args0, start1.below0, start1.atStart⟩
end Jvm.Pilot.@@N@@
