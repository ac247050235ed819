import JvmDerived
import JvmDerived.Pilot.@@N@@Statement
import JvmDerived.Pilot.@@N@@Code
set_option linter.unusedVariables false
set_option linter.unusedSimpArgs false

namespace Jvm.RoadKit
open Sem ClassFile Op Lib Jvm.Stand Jvm.Free Jvm.LawKit
section New
variable {p : Program} {l : Launch} {e : Env} {R : Room} {s : State} {m : MethodId} {args : Array Value} {below : List Frame} {meth : Method} {c : Code} {T : State} {locs : List Loc} {cells slots : Nat}
theorem retI (X : Stand p l e R s m args below meth c T locs cells slots) (hx : p.tables.exec = Jvm.exec) {pc : Nat} {Ls : Array Slot} {z : Int32} {rest : List Value} (hret : meth.sig.returnType = some .int) (hd : decode c.code pc = .ok (.ireturn, 1)) {fs : List Frame}
    (hl : ∀ (f : JFrame) (acts : List Action), f.method = m → f.locked = none → f.entered = [] → (doReturn e (T.setTop f) acts (some (.int z))).1 = T.setFrames fs) : Steps p.tables e below (T.setTop (mkF m pc Ls (.int z :: rest))) (T.setFrames fs) := by
  have hm' : T.vm.method? m = some meth := X.method'
  have hn : narrow .int (.int z) = .int z := rfl
  show Steps p.tables e below (T.setTop { method := m, pc := pc, locals := Ls, stack := _ :: rest, locked := none }) _
  jvm_step X.here [X.here.top, hx, hd, hm', hret, hn]
  first | (intro acts; rw [hl _ acts rfl rfl rfl]) | rw [hl _ _ rfl rfl rfl]
  exact Steps.refl _
end New
end Jvm.RoadKit
namespace Jvm.Pilot.@@N@@
open Jvm Jvm.ClassFile Sem Op Lib Jvm.Free Jvm.Stand Jvm.LawKit Jvm.RoadKit Bundle Jvm.Pilot.@@N@@.Jvm.D
/-- from A the run comes to B -/
abbrev Wy (tb : Tables) (e : Env) (below : List Frame) (A B : State) : Prop := ∀ t, Steps tb e below B t → Steps tb e below A t
theorem own_nat {c : Int32} (h : 0 ≤ c.toInt) : c = Int32.ofNat c.toInt.toNat := by
  apply Int32.toInt_inj.mp
  have h1 := c.toInt_lt
  rw [Int32.toInt_ofNat_of_lt (by omega)]
  omega
theorem own_lt {a b : Int32} : a < b ↔ a.toInt < b.toInt := Int32.lt_iff_toInt_lt
theorem own_ltF (k : Nat) (c : Int32) (h0 : 0 ≤ c.toInt) (h1 : c.toInt < k) : ∃ n : Fin k, c = Int32.ofNat n.val :=
  ⟨⟨c.toInt.toNat, by omega⟩, own_nat h0⟩
theorem own_rem (x y : Int32) (hx : 0 ≤ x.toInt) (hy : 0 < y.toInt) : (x - (x / y) * y).toInt = x.toInt % y.toInt := by
  have h1 := (c_idiv x y y.toInt rfl (by intro h; rw [h] at hy; exact absurd hy (by decide))).1 hx
  have h2 := c_imul (x / y) y
  have h3 := c_isub x ((x / y) * y)
  have r1 := rng32 ((x / y) * y)
  have r2 := rng32 (x - (x / y) * y)
  have r3 := rng32 x
  have r4 := rng32 y
  have e : x.toInt / y.toInt * y.toInt = x.toInt - x.toInt % y.toInt := by
    have := Int.emod_def x.toInt y.toInt
    rw [Int.mul_comm] at this
    omega
  rw [h1, e] at h2
  have b1 := Int.emod_nonneg x.toInt (show y.toInt ≠ 0 by omega)
  have b2 := Int.emod_lt_of_pos x.toInt hy
  have b3 : x.toInt % y.toInt ≤ x.toInt := by
    by_cases q : x.toInt < y.toInt
    · rw [Int.emod_eq_of_lt hx q]; omega
    · omega
  omega
theorem own_nm {a b : Addr} (h : a ≠ b) : a ∉ [b] := by simpa using h
theorem own_nm2 {a b c : Addr} (h : a ≠ b) (h2 : a ≠ c) : a ∉ [b, c] := by simp [h, h2]

theorem d2_0 : decode jdk_30_method_1_code 0 = .ok (.aload_n 0, 1) := by decide +kernel
theorem d2_1 : decode jdk_30_method_1_code 1 = .ok (.invokespecial 1, 3) := by decide +kernel
theorem d2_4 : decode jdk_30_method_1_code 4 = .ok (.return_, 1) := by decide +kernel
theorem pn_java_lang_Record : plainName "java/lang/Record" = true := by first | (simp [plainName, overriddenIn]; done) | decide +kernel
theorem ef_rm2 (m : MethodId) (ad : Addr)  : entryFrame m #[(.ref ad)] 1 = (mkF m 0 #[.val (.ref ad)] []) := by first | (simp [entryFrame, mkF, argsToLocals, Value.category]; done) | rfl
def Q2 (Z : State) (ad : Addr) (h0 : Heap) (n0 : Nat) (v : Option Value) (h : Heap) (L : List Loc) : Prop := v = none ∧ Fr n0 L ∧ h = h0
set_option maxRecDepth 65536 in
set_option maxHeartbeats 40000000 in
theorem rm2 (l : Launch) (Z : State) (a0 : Array Value) (hw : ∀ d ∈ tables_1, d.before a0 Z = true) (ws : List Jvm.Cond) (ad : Addr) (h0 : Heap) (n0 : Nat) (Z0 : n0 ≤ h0.size)   :
    MetFree l (⟨"java/lang/Record", "<init>", "()V"⟩ : MethodName) (head1 (Jvm.Cond.code (⟨"java/lang/Record", "<init>", "()V"⟩ : MethodName) jdk_30_method_1_code 1 none :: ws) ({ frames := 1, cells := 0, slots := 0, locals := 12 } : Room)) (fun a U => a = #[(.ref ad)] ∧ Z.Warmed39 U.vm ∧ U.heap = h0) (fun _ _ _ _ _ => True) (fun _ U o U' => ∃ v L, o = .returned v ∧ Q2 Z ad h0 n0 v U'.heap L ∧ FrameEnd U o U' L ({ frames := 1, cells := 0, slots := 0, locals := 12 } : Room).cells ({ frames := 1, cells := 0, slots := 0, locals := 12 } : Room).slots) := by
  refine MetFree.of_bodySF (plainFor_of_name pn_java_lang_Record) hisR ?_
  intro p e s m args below meth c s₁ Bd hml0 hP hK
  obtain ⟨rfl, hZ, hh⟩ := hP
  have hx := Bd.exec
  have hby := Bd.bytes
  have hml : c.maxLocals = 1 := hml0
  have hown : s.vm.findClass "java/lang/Record" = some m.cls := by have q := findClass_of_methodNamed Bd.named; exact q
  have hnm := (name_of_methodNamed Bd.named Bd.method).1
  have X0 : Stand p l e ({ frames := 1, cells := 0, slots := 0, locals := 12 } : Room) s m #[(.ref ad)] below meth c s₁ [] 0 0 := Stand.of_body Bd
  have e0 : s₁.heap = h0 := by rw [← hh, Bd.state]; rfl
  have N0 := Fr.nil n0
  have P0 : Wy p.tables e below (s₁.setTop (entryFrame m #[(.ref ad)] 1)) (s₁.setTop (mkF m 0 #[.val (.ref ad)] [])) := fun t k => castTop (ef_rm2 m ad) k
  have P1 : Wy p.tables e below (s₁.setTop (entryFrame m #[(.ref ad)] 1)) (s₁.setTop (mkF m 1 #[.val (.ref ad)] [(.ref ad)])) := fun t k => P0 t (by
    show Steps p.tables e below (s₁.setTop (mkF m 0 #[.val (.ref ad)] [])) _
    refine XS.aloadN X0.here hx rfl (hb hby d2_0) rfl rfl  ?_
    exact k)
  obtain ⟨T2, X2, e2, st2⟩ := initO X0 hx hZ hown (hw _ (List.mem_of_getElem? (i := 11) rfl)) (hw _ (List.mem_of_getElem? (i := 12) rfl)) (hw _ (List.mem_of_getElem? (i := 13) rfl)) e0 (g := (mkF m 1 #[.val (.ref ad)] [(.ref ad)])) rfl (by rw [hml]; rfl) rfl (hb hby d2_1) (by decide) (W := 0) (by show 2 * 0 + _ ≤ _; exact Nat.le_of_eq rfl) (by decide)
  have P3 : Wy p.tables e below (s₁.setTop (entryFrame m #[(.ref ad)] 1)) (T2.setTop (mkF m 4 #[.val (.ref ad)] [])) := fun t k => P1 t (st2 _ k)
  obtain ⟨fs, hr, hrun, hended, hW, hsame⟩ := X2.leave (v := none) (fun _ => rfl)
  refine ⟨_, _, P3 _ ?_, hrun, hended, _, _, rfl, ?_, ⟨_, rfl⟩, hW, hsame.mono (by decide) (by decide)⟩
  · show Steps p.tables e below (T2.setTop (mkF m 4 #[.val (.ref ad)] [])) _
    exact X2.returnOut hx Bd.returns (hb hby d2_4) hr
  · show Q2 Z ad h0 n0 _ T2.heap _
    rw [e2]
    exact ⟨rfl, N0, rfl⟩
theorem d1_0 : decode prog_7_method_1_code 0 = .ok (.aload_n 0, 1) := by decide +kernel
theorem d1_1 : decode prog_7_method_1_code 1 = .ok (.invokespecial 1, 3) := by decide +kernel
theorem d1_4 : decode prog_7_method_1_code 4 = .ok (.aload_n 0, 1) := by decide +kernel
theorem d1_5 : decode prog_7_method_1_code 5 = .ok (.iload_n 1, 1) := by decide +kernel
theorem d1_6 : decode prog_7_method_1_code 6 = .ok (.putfield 7, 3) := by decide +kernel
theorem d1_9 : decode prog_7_method_1_code 9 = .ok (.aload_n 0, 1) := by decide +kernel
theorem d1_10 : decode prog_7_method_1_code 10 = .ok (.iload_n 2, 1) := by decide +kernel
theorem d1_11 : decode prog_7_method_1_code 11 = .ok (.putfield 13, 3) := by decide +kernel
theorem d1_14 : decode prog_7_method_1_code 14 = .ok (.return_, 1) := by decide +kernel
theorem pn_own_site_11 : plainName site_11.cls = true := by first | (simp [plainName, overriddenIn]; done) | decide +kernel
theorem pd_lrV : parseMethodDescriptor "()V" = some ⟨[], none⟩ := by decide +kernel
theorem ef_rm1 (m : MethodId) (ad : Addr) (ax : Int32) (bx : Int32)  : entryFrame m #[(.ref ad), (.int ax), (.int bx)] 3 = (mkF m 0 #[.val (.ref ad), .val (.int ax), .val (.int bx)] []) := by first | (simp [entryFrame, mkF, argsToLocals, Value.category]; done) | rfl
def Q1 (Z : State) (ad : Addr) (ax : Int32) (bx : Int32) (h0 : Heap) (n0 : Nat) (v : Option Value) (h : Heap) (L : List Loc) : Prop := v = none ∧ Fr n0 L ∧ Keep h0 h [ad] ∧ Exa Z h ad site_11.cls ∧ Fld Z h ad site_11.cls "code" "I" (.int ax) ∧ Fld Z h ad site_11.cls "countWidth" "I" (.int bx)
set_option maxRecDepth 65536 in
set_option maxHeartbeats 40000000 in
theorem rm1 (l : Launch) (Z : State) (a0 : Array Value) (hw : ∀ d ∈ tables_1, d.before a0 Z = true) (ws : List Jvm.Cond) (ad : Addr) (ax : Int32) (bx : Int32) (h0 : Heap) (n0 : Nat) (Z0 : n0 ≤ h0.size) (E_ad : Exa Z h0 ad site_11.cls) (F_code : Fld Z h0 ad site_11.cls "code" "I" (.int (0 : Int32))) (F_countWidth : Fld Z h0 ad site_11.cls "countWidth" "I" (.int (0 : Int32))) (g_ad : n0 ≤ ad)  :
    MetFree l (⟨site_11.cls, "<init>", "(II)V"⟩ : MethodName) (head1 (Jvm.Cond.code (⟨site_11.cls, "<init>", "(II)V"⟩ : MethodName) prog_7_method_1_code 3 none :: ws) ({ frames := 2, cells := 0, slots := 0, locals := 24 } : Room)) (fun a U => a = #[(.ref ad), (.int ax), (.int bx)] ∧ Z.Warmed39 U.vm ∧ U.heap = h0) (fun _ _ _ _ _ => True) (fun _ U o U' => ∃ v L, o = .returned v ∧ Q1 Z ad ax bx h0 n0 v U'.heap L ∧ FrameEnd U o U' L ({ frames := 2, cells := 0, slots := 0, locals := 24 } : Room).cells ({ frames := 2, cells := 0, slots := 0, locals := 24 } : Room).slots) := by
  refine MetFree.of_bodySF (plainFor_of_name pn_own_site_11) hisR ?_
  intro p e s m args below meth c s₁ Bd hml0 hP hK
  obtain ⟨rfl, hZ, hh⟩ := hP
  have hx := Bd.exec
  have hby := Bd.bytes
  have hml : c.maxLocals = 3 := hml0
  have hown : s.vm.findClass site_11.cls = some m.cls := by have q := findClass_of_methodNamed Bd.named; exact q
  have hnm := (name_of_methodNamed Bd.named Bd.method).1
  have X0 : Stand p l e ({ frames := 2, cells := 0, slots := 0, locals := 24 } : Room) s m #[(.ref ad), (.int ax), (.int bx)] below meth c s₁ [] 0 0 := Stand.of_body Bd
  have e0 : s₁.heap = h0 := by rw [← hh, Bd.state]; rfl
  have N0 := Fr.nil n0
  have P0 : Wy p.tables e below (s₁.setTop (entryFrame m #[(.ref ad), (.int ax), (.int bx)] 3)) (s₁.setTop (mkF m 0 #[.val (.ref ad), .val (.int ax), .val (.int bx)] [])) := fun t k => castTop (ef_rm1 m ad ax bx) k
  have P1 : Wy p.tables e below (s₁.setTop (entryFrame m #[(.ref ad), (.int ax), (.int bx)] 3)) (s₁.setTop (mkF m 1 #[.val (.ref ad), .val (.int ax), .val (.int bx)] [(.ref ad)])) := fun t k => P0 t (by
    show Steps p.tables e below (s₁.setTop (mkF m 0 #[.val (.ref ad), .val (.int ax), .val (.int bx)] [])) _
    refine XS.aloadN X0.here hx rfl (hb hby d1_0) rfl rfl  ?_
    exact k)
  obtain ⟨_, _, ⟨T2, L2, k2, n2⟩, -, X2, ⟨Lc2, hQ2, l2, y2, z2⟩, st2⟩ := X0.specialBack hx (y := (⟨"java/lang/Record", "<init>", "()V"⟩ : MethodName)) rfl hown (mvT hZ (hw _ (List.mem_of_getElem? (i := 6) rfl))) (mvT hZ (hw _ (List.mem_of_getElem? (i := 7) rfl))) (mvT hZ (hw _ (List.mem_of_getElem? (i := 10) rfl))) (by decide) (backOf (W := 0) (rm2 l Z a0 hw [] ad  h0 n0 Z0   ) hZ (hw _ (List.mem_of_getElem? (i := 10) rfl)) (hw _ (List.mem_of_getElem? (i := 9) rfl)) (by decide) (by decide)) (g := (mkF m 1 #[.val (.ref ad), .val (.int ax), .val (.int bx)] [(.ref ad)])) rfl (by rw [hml]; rfl) (Steps.refl _) (a := ad) (argsL := []) (rest := []) (lenOf pd_lrV rfl) rfl (by show 2 * 0 + _ ≤ _; exact Nat.le_of_eq rfl) (hb hby d1_1) (fun _ _ => ⟨rfl, e0, (by decide : 0 + 0 ≤ _), (by decide : 0 + 0 ≤ _)⟩)
  dsimp only [Pt.U, Pt.locs, Pt.cells, Pt.slots] at X2 l2 y2 z2 st2 hQ2
  subst l2 y2 z2
  obtain ⟨rfl, N2q, e2⟩ := hQ2
  have N2 := Fr.app N0 N2q
  have P3 : Wy p.tables e below (s₁.setTop (entryFrame m #[(.ref ad), (.int ax), (.int bx)] 3)) (T2.setTop (mkF m 4 #[.val (.ref ad), .val (.int ax), .val (.int bx)] [])) := fun t k => P1 t (st2.trans k)
  have P4 : Wy p.tables e below (s₁.setTop (entryFrame m #[(.ref ad), (.int ax), (.int bx)] 3)) (T2.setTop (mkF m 6 #[.val (.ref ad), .val (.int ax), .val (.int bx)] [(.int ax), (.ref ad)])) := fun t k => P3 t (by
    show Steps p.tables e below (T2.setTop (mkF m 4 #[.val (.ref ad), .val (.int ax), .val (.int bx)] [])) _
    refine XS.aloadN X2.here hx rfl (hb hby d1_4) rfl rfl  ?_
    show Steps p.tables e below (T2.setTop (mkF m 5 #[.val (.ref ad), .val (.int ax), .val (.int bx)] [(.ref ad)])) _
    refine XS.iloadN X2.here hx rfl (hb hby d1_5) rfl  ?_
    exact k)
  obtain ⟨T5, h5, X5, e5, W5, st5⟩ := putF X2 hx hZ hown (host := "") (Or.inl (hw _ (List.mem_of_getElem? (i := 14) rfl))) Via.refl e2 F_code E_ad (Or.inr ⟨(hw _ (List.mem_of_getElem? (i := 15) rfl)), rfl, hnm⟩) (hw _ (List.mem_of_getElem? (i := 1) rfl)) (ty := .int) (by decide) rfl rfl (g := (mkF m 6 #[.val (.ref ad), .val (.int ax), .val (.int bx)] [(.int ax), (.ref ad)])) rfl rfl (hb hby d1_6)
  have Fw5 := F_code.same W5
  have N5 := Fr.snoc X5 N2 g_ad
  have z5 : n0 ≤ h5.size := Nat.le_trans Z0 (Keep.of_wr W5).1
  have A5_ad := E_ad.wr W5
  have F5_ad_countWidth := F_countWidth.other W5 (Or.inr (slot_ne (Or.inr (hw _ (List.mem_of_getElem? (i := 17) rfl))) (Or.inr (hw _ (List.mem_of_getElem? (i := 15) rfl))) (by decide) (t := .int) (t' := .int) (by decide) (by decide)))
  have K5 : Keep h0 h5 [ad] := (Keep.refl h0 [ad]).wr W5 (Or.inl (List.mem_of_getElem? (i := 0) rfl))
  have P6 : Wy p.tables e below (s₁.setTop (entryFrame m #[(.ref ad), (.int ax), (.int bx)] 3)) (T5.setTop (mkF m 9 #[.val (.ref ad), .val (.int ax), .val (.int bx)] [])) := fun t k => P4 t (st5 _ k)
  have P7 : Wy p.tables e below (s₁.setTop (entryFrame m #[(.ref ad), (.int ax), (.int bx)] 3)) (T5.setTop (mkF m 11 #[.val (.ref ad), .val (.int ax), .val (.int bx)] [(.int bx), (.ref ad)])) := fun t k => P6 t (by
    show Steps p.tables e below (T5.setTop (mkF m 9 #[.val (.ref ad), .val (.int ax), .val (.int bx)] [])) _
    refine XS.aloadN X5.here hx rfl (hb hby d1_9) rfl rfl  ?_
    show Steps p.tables e below (T5.setTop (mkF m 10 #[.val (.ref ad), .val (.int ax), .val (.int bx)] [(.ref ad)])) _
    refine XS.iloadN X5.here hx rfl (hb hby d1_10) rfl  ?_
    exact k)
  obtain ⟨T8, h8, X8, e8, W8, st8⟩ := putF X5 hx hZ hown (host := "") (Or.inl (hw _ (List.mem_of_getElem? (i := 16) rfl))) Via.refl e5 F5_ad_countWidth A5_ad (Or.inr ⟨(hw _ (List.mem_of_getElem? (i := 17) rfl)), rfl, hnm⟩) (hw _ (List.mem_of_getElem? (i := 1) rfl)) (ty := .int) (by decide) rfl rfl (g := (mkF m 11 #[.val (.ref ad), .val (.int ax), .val (.int bx)] [(.int bx), (.ref ad)])) rfl rfl (hb hby d1_11)
  have Fw8 := F5_ad_countWidth.same W8
  have N8 := Fr.snoc X8 N5 g_ad
  have z8 : n0 ≤ h8.size := Nat.le_trans z5 (Keep.of_wr W8).1
  have A8_ad := A5_ad.wr W8
  have F8_ad_code := Fw5.other W8 (Or.inr (slot_ne (Or.inr (hw _ (List.mem_of_getElem? (i := 15) rfl))) (Or.inr (hw _ (List.mem_of_getElem? (i := 17) rfl))) (by decide) (t := .int) (t' := .int) (by decide) (by decide)))
  have K8 : Keep h0 h8 [ad] := K5.wr W8 (Or.inl (List.mem_of_getElem? (i := 0) rfl))
  have P9 : Wy p.tables e below (s₁.setTop (entryFrame m #[(.ref ad), (.int ax), (.int bx)] 3)) (T8.setTop (mkF m 14 #[.val (.ref ad), .val (.int ax), .val (.int bx)] [])) := fun t k => P7 t (st8 _ k)
  obtain ⟨fs, hr, hrun, hended, hW, hsame⟩ := X8.leave (v := none) (fun _ => rfl)
  refine ⟨_, _, P9 _ ?_, hrun, hended, _, _, rfl, ?_, ⟨_, rfl⟩, hW, hsame.mono (by decide) (by decide)⟩
  · show Steps p.tables e below (T8.setTop (mkF m 14 #[.val (.ref ad), .val (.int ax), .val (.int bx)] [])) _
    exact X8.returnOut hx Bd.returns (hb hby d1_14) hr
  · show Q1 Z ad ax bx h0 n0 _ T8.heap _
    rw [e8]
    exact ⟨rfl, N8, K8, A8_ad, F8_ad_code, Fw8⟩
def own_max (w : Int32) : Int64 := ((1 : Int64) <<< (((8 : Int32) * w) &&& 0x3f).toInt64) - (1 : Int64)
theorem d4_0 : decode prog_7_method_2_code 0 = .ok (.lconst 1, 1) := by decide +kernel
theorem d4_1 : decode prog_7_method_2_code 1 = .ok (.bipush 8, 2) := by decide +kernel
theorem d4_3 : decode prog_7_method_2_code 3 = .ok (.aload_n 0, 1) := by decide +kernel
theorem d4_4 : decode prog_7_method_2_code 4 = .ok (.getfield 13, 3) := by decide +kernel
theorem d4_7 : decode prog_7_method_2_code 7 = .ok (.imul, 1) := by decide +kernel
theorem d4_8 : decode prog_7_method_2_code 8 = .ok (.lshl, 1) := by decide +kernel
theorem d4_9 : decode prog_7_method_2_code 9 = .ok (.lconst 1, 1) := by decide +kernel
theorem d4_10 : decode prog_7_method_2_code 10 = .ok (.lsub, 1) := by decide +kernel
theorem d4_11 : decode prog_7_method_2_code 11 = .ok (.lreturn, 1) := by decide +kernel
theorem ef_rm4 (m : MethodId) (ad : Addr)  : entryFrame m #[(.ref ad)] 1 = (mkF m 0 #[.val (.ref ad)] []) := by first | (simp [entryFrame, mkF, argsToLocals, Value.category]; done) | rfl
def Q4 (Z : State) (ad : Addr) (wx : Int32) (h0 : Heap) (n0 : Nat) (v : Option Value) (h : Heap) (L : List Loc) : Prop := v = some (.long (own_max wx)) ∧ Fr n0 L ∧ h = h0
set_option maxRecDepth 65536 in
set_option maxHeartbeats 40000000 in
theorem rm4 (l : Launch) (Z : State) (a0 : Array Value) (hw : ∀ d ∈ tables_1, d.before a0 Z = true) (ws : List Jvm.Cond) (ad : Addr) (wx : Int32) (h0 : Heap) (n0 : Nat) (Z0 : n0 ≤ h0.size)  (F_countWidth : Fld Z h0 ad site_11.cls "countWidth" "I" (.int wx))  :
    MetFree l (⟨site_11.cls, "maxCount", "()J"⟩ : MethodName) (head1 (Jvm.Cond.code (⟨site_11.cls, "maxCount", "()J"⟩ : MethodName) prog_7_method_2_code 1 (some .long) :: ws) ({ frames := 0, cells := 0, slots := 0, locals := 0 } : Room)) (fun a U => a = #[(.ref ad)] ∧ Z.Warmed39 U.vm ∧ U.heap = h0) (fun _ _ _ _ _ => True) (fun _ U o U' => ∃ v L, o = .returned v ∧ Q4 Z ad wx h0 n0 v U'.heap L ∧ FrameEnd U o U' L ({ frames := 0, cells := 0, slots := 0, locals := 0 } : Room).cells ({ frames := 0, cells := 0, slots := 0, locals := 0 } : Room).slots) := by
  refine MetFree.of_bodySF (plainFor_of_name pn_own_site_11) hisR ?_
  intro p e s m args below meth c s₁ Bd hml0 hP hK
  obtain ⟨rfl, hZ, hh⟩ := hP
  have hx := Bd.exec
  have hby := Bd.bytes
  have hml : c.maxLocals = 1 := hml0
  have hown : s.vm.findClass site_11.cls = some m.cls := by have q := findClass_of_methodNamed Bd.named; exact q
  have hnm := (name_of_methodNamed Bd.named Bd.method).1
  have X0 : Stand p l e ({ frames := 0, cells := 0, slots := 0, locals := 0 } : Room) s m #[(.ref ad)] below meth c s₁ [] 0 0 := Stand.of_body Bd
  have e0 : s₁.heap = h0 := by rw [← hh, Bd.state]; rfl
  have N0 := Fr.nil n0
  have P0 : Wy p.tables e below (s₁.setTop (entryFrame m #[(.ref ad)] 1)) (s₁.setTop (mkF m 0 #[.val (.ref ad)] [])) := fun t k => castTop (ef_rm4 m ad) k
  have P1 : Wy p.tables e below (s₁.setTop (entryFrame m #[(.ref ad)] 1)) (s₁.setTop (mkF m 4 #[.val (.ref ad)] [(.ref ad), (.int (8 : Int32)), (.long (1 : Int64))])) := fun t k => P0 t (by
    show Steps p.tables e below (s₁.setTop (mkF m 0 #[.val (.ref ad)] [])) _
    refine XS.lconst X0.here hx rfl (hb hby d4_0) ?_
    show Steps p.tables e below (s₁.setTop (mkF m 1 #[.val (.ref ad)] [(.long (1 : Int64))])) _
    refine XS.bipush X0.here hx rfl (hb hby d4_1) ?_
    show Steps p.tables e below (s₁.setTop (mkF m 3 #[.val (.ref ad)] [(.int (8 : Int32)), (.long (1 : Int64))])) _
    refine XS.aloadN X0.here hx rfl (hb hby d4_3) rfl rfl  ?_
    exact k)
  obtain ⟨T2, X2, e2, st2⟩ := getF X0 hx hZ hown (host := "") (Or.inl (hw _ (List.mem_of_getElem? (i := 16) rfl))) Via.refl e0 F_countWidth (g := (mkF m 4 #[.val (.ref ad)] [(.ref ad), (.int (8 : Int32)), (.long (1 : Int64))])) rfl rfl (hb hby d4_4)
  have P3 : Wy p.tables e below (s₁.setTop (entryFrame m #[(.ref ad)] 1)) (T2.setTop (mkF m 7 #[.val (.ref ad)] [(.int wx), (.int (8 : Int32)), (.long (1 : Int64))])) := fun t k => P1 t (st2 _ k)
  have P4 : Wy p.tables e below (s₁.setTop (entryFrame m #[(.ref ad)] 1)) (T2.setTop (mkF m 11 #[.val (.ref ad)] [(.long (((1 : Int64) <<< (((8 : Int32) * wx) &&& 0x3f).toInt64) - (1 : Int64)))])) := fun t k => P3 t (by
    show Steps p.tables e below (T2.setTop (mkF m 7 #[.val (.ref ad)] [(.int wx), (.int (8 : Int32)), (.long (1 : Int64))])) _
    refine XS.imul X2.here hx rfl (hb hby d4_7) rfl ?_
    show Steps p.tables e below (T2.setTop (mkF m 8 #[.val (.ref ad)] [(.int ((8 : Int32) * wx)), (.long (1 : Int64))])) _
    refine XS.lshl X2.here hx rfl (hb hby d4_8) rfl ?_
    show Steps p.tables e below (T2.setTop (mkF m 9 #[.val (.ref ad)] [(.long ((1 : Int64) <<< (((8 : Int32) * wx) &&& 0x3f).toInt64))])) _
    refine XS.lconst X2.here hx rfl (hb hby d4_9) ?_
    show Steps p.tables e below (T2.setTop (mkF m 10 #[.val (.ref ad)] [(.long (1 : Int64)), (.long ((1 : Int64) <<< (((8 : Int32) * wx) &&& 0x3f).toInt64))])) _
    refine XS.lsub X2.here hx rfl (hb hby d4_10) rfl ?_
    exact k)
  obtain ⟨fs, hr, hrun, hended, hW, hsame⟩ := X2.leave (v := some (.long (((1 : Int64) <<< (((8 : Int32) * wx) &&& 0x3f).toInt64) - (1 : Int64)))) (fun h => by rw [Bd.returns] at h; cases h)
  refine ⟨_, _, P4 _ ?_, hrun, hended, _, _, rfl, ?_, ⟨_, rfl⟩, hW, hsame.mono (by decide) (by decide)⟩
  · show Steps p.tables e below (T2.setTop (mkF m 11 #[.val (.ref ad)] [(.long (((1 : Int64) <<< (((8 : Int32) * wx) &&& 0x3f).toInt64) - (1 : Int64)))])) _
    exact X2.lreturnOut hx Bd.returns (hb hby d4_11) hr
  · show Q4 Z ad wx h0 n0 _ T2.heap _
    rw [e2]
    exact ⟨congrArg (fun z => some (Value.long z)) (show _ = (own_max wx) from by rfl), N0, rfl⟩
def F5 (ax : Int32) : Int64 := (if ax = (0 : Int32) then (0 : Int64) else (if ax = (1 : Int32) then (255 : Int64) else (if ax = (2 : Int32) then (65535 : Int64) else (if ax = (3 : Int32) then (16777215 : Int64) else (if ax = (4 : Int32) then (4294967295 : Int64) else (if ax = (5 : Int32) then (1099511627775 : Int64) else (if ax = (6 : Int32) then (281474976710655 : Int64) else (72057594037927935 : Int64))))))))
theorem d5_0 : decode method_2_code 0 = .ok (.iload_n 0, 1) := by decide +kernel
theorem d5_1 : decode method_2_code 1 = .ok (.ifCond .ne 5, 3) := by decide +kernel
theorem d5_4 : decode method_2_code 4 = .ok (.lconst 0, 1) := by decide +kernel
theorem d5_5 : decode method_2_code 5 = .ok (.lreturn, 1) := by decide +kernel
theorem d5_6 : decode method_2_code 6 = .ok (.iload_n 0, 1) := by decide +kernel
theorem d5_7 : decode method_2_code 7 = .ok (.iconst 1, 1) := by decide +kernel
theorem d5_8 : decode method_2_code 8 = .ok (.if_icmp .ne 7, 3) := by decide +kernel
theorem d5_11 : decode method_2_code 11 = .ok (.ldc2_w 7, 3) := by decide +kernel
theorem d5_14 : decode method_2_code 14 = .ok (.lreturn, 1) := by decide +kernel
theorem d5_15 : decode method_2_code 15 = .ok (.iload_n 0, 1) := by decide +kernel
theorem d5_16 : decode method_2_code 16 = .ok (.iconst 2, 1) := by decide +kernel
theorem d5_17 : decode method_2_code 17 = .ok (.if_icmp .ne 7, 3) := by decide +kernel
theorem d5_20 : decode method_2_code 20 = .ok (.ldc2_w 9, 3) := by decide +kernel
theorem d5_23 : decode method_2_code 23 = .ok (.lreturn, 1) := by decide +kernel
theorem d5_24 : decode method_2_code 24 = .ok (.iload_n 0, 1) := by decide +kernel
theorem d5_25 : decode method_2_code 25 = .ok (.iconst 3, 1) := by decide +kernel
theorem d5_26 : decode method_2_code 26 = .ok (.if_icmp .ne 7, 3) := by decide +kernel
theorem d5_29 : decode method_2_code 29 = .ok (.ldc2_w 11, 3) := by decide +kernel
theorem d5_32 : decode method_2_code 32 = .ok (.lreturn, 1) := by decide +kernel
theorem d5_33 : decode method_2_code 33 = .ok (.iload_n 0, 1) := by decide +kernel
theorem d5_34 : decode method_2_code 34 = .ok (.iconst 4, 1) := by decide +kernel
theorem d5_35 : decode method_2_code 35 = .ok (.if_icmp .ne 7, 3) := by decide +kernel
theorem d5_38 : decode method_2_code 38 = .ok (.ldc2_w 13, 3) := by decide +kernel
theorem d5_41 : decode method_2_code 41 = .ok (.lreturn, 1) := by decide +kernel
theorem d5_42 : decode method_2_code 42 = .ok (.iload_n 0, 1) := by decide +kernel
theorem d5_43 : decode method_2_code 43 = .ok (.iconst 5, 1) := by decide +kernel
theorem d5_44 : decode method_2_code 44 = .ok (.if_icmp .ne 7, 3) := by decide +kernel
theorem d5_47 : decode method_2_code 47 = .ok (.ldc2_w 15, 3) := by decide +kernel
theorem d5_50 : decode method_2_code 50 = .ok (.lreturn, 1) := by decide +kernel
theorem d5_51 : decode method_2_code 51 = .ok (.iload_n 0, 1) := by decide +kernel
theorem d5_52 : decode method_2_code 52 = .ok (.bipush 6, 2) := by decide +kernel
theorem d5_54 : decode method_2_code 54 = .ok (.if_icmp .ne 7, 3) := by decide +kernel
theorem d5_57 : decode method_2_code 57 = .ok (.ldc2_w 17, 3) := by decide +kernel
theorem d5_60 : decode method_2_code 60 = .ok (.lreturn, 1) := by decide +kernel
theorem d5_61 : decode method_2_code 61 = .ok (.ldc2_w 19, 3) := by decide +kernel
theorem d5_64 : decode method_2_code 64 = .ok (.lreturn, 1) := by decide +kernel
theorem pn_own_x : plainName x.cls = true := by first | (simp [plainName, overriddenIn]; done) | decide +kernel
theorem ef_rm5 (m : MethodId) (ax : Int32)  : entryFrame m #[(.int ax)] 1 = (mkF m 0 #[.val (.int ax)] []) := by first | (simp [entryFrame, mkF, argsToLocals, Value.category]; done) | rfl
def Q5 (Z : State) (ax : Int32) (h0 : Heap) (n0 : Nat) (v : Option Value) (h : Heap) (L : List Loc) : Prop := v = some (.long (F5 ax)) ∧ Fr n0 L ∧ h = h0
set_option maxRecDepth 65536 in
set_option maxHeartbeats 40000000 in
theorem rm5 (l : Launch) (Z : State) (a0 : Array Value) (hw : ∀ d ∈ tables_1, d.before a0 Z = true) (ws : List Jvm.Cond) (ax : Int32) (h0 : Heap) (n0 : Nat) (Z0 : n0 ≤ h0.size)  :
    MetFree l (⟨x.cls, "expected", "(I)J"⟩ : MethodName) (head1 (Jvm.Cond.code (⟨x.cls, "expected", "(I)J"⟩ : MethodName) method_2_code 1 (some .long) :: ws) ({ frames := 0, cells := 0, slots := 0, locals := 0 } : Room)) (fun a U => a = #[(.int ax)] ∧ Z.Warmed39 U.vm ∧ U.heap = h0) (fun _ _ _ _ _ => True) (fun _ U o U' => ∃ v L, o = .returned v ∧ Q5 Z ax h0 n0 v U'.heap L ∧ FrameEnd U o U' L ({ frames := 0, cells := 0, slots := 0, locals := 0 } : Room).cells ({ frames := 0, cells := 0, slots := 0, locals := 0 } : Room).slots) := by
  refine MetFree.of_bodySF (plainFor_of_name pn_own_x) hisR ?_
  intro p e s m args below meth c s₁ Bd hml0 hP hK
  obtain ⟨rfl, hZ, hh⟩ := hP
  have hx := Bd.exec
  have hby := Bd.bytes
  have hml : c.maxLocals = 1 := hml0
  have hown : s.vm.findClass x.cls = some m.cls := by have q := findClass_of_methodNamed Bd.named; exact q
  have hnm := (name_of_methodNamed Bd.named Bd.method).1
  have X0 : Stand p l e ({ frames := 0, cells := 0, slots := 0, locals := 0 } : Room) s m #[(.int ax)] below meth c s₁ [] 0 0 := Stand.of_body Bd
  have e0 : s₁.heap = h0 := by rw [← hh, Bd.state]; rfl
  have N0 := Fr.nil n0
  have P0 : Wy p.tables e below (s₁.setTop (entryFrame m #[(.int ax)] 1)) (s₁.setTop (mkF m 0 #[.val (.int ax)] [])) := fun t k => castTop (ef_rm5 m ax) k
  have P1 : Wy p.tables e below (s₁.setTop (entryFrame m #[(.int ax)] 1)) (s₁.setTop (mkF m 1 #[.val (.int ax)] [(.int ax)])) := fun t k => P0 t (by
    show Steps p.tables e below (s₁.setTop (mkF m 0 #[.val (.int ax)] [])) _
    refine XS.iloadN X0.here hx rfl (hb hby d5_0) rfl  ?_
    exact k)
  by_cases hc1_2 : ax = (0 : Int32)
  · have P3 : Wy p.tables e below (s₁.setTop (entryFrame m #[(.int ax)] 1)) (s₁.setTop (mkF m 5 #[.val (.int ax)] [(.long (0 : Int64))])) := fun t k => P1 t (by
      show Steps p.tables e below (s₁.setTop (mkF m 1 #[.val (.int ax)] [(.int ax)])) _
      refine XS.ifNo X0.here hx rfl (hb hby d5_1) rfl ((if0 _ _).trans (teq hc1_2).2) ?_
      show Steps p.tables e below (s₁.setTop (mkF m 4 #[.val (.int ax)] [])) _
      refine XS.lconst X0.here hx rfl (hb hby d5_4) ?_
      exact k)
    obtain ⟨fs, hr, hrun, hended, hW, hsame⟩ := X0.leave (v := some (.long (0 : Int64))) (fun h => by rw [Bd.returns] at h; cases h)
    refine ⟨_, _, P3 _ ?_, hrun, hended, _, _, rfl, ?_, ⟨_, rfl⟩, hW, hsame.mono (by decide) (by decide)⟩
    · show Steps p.tables e below (s₁.setTop (mkF m 5 #[.val (.int ax)] [(.long (0 : Int64))])) _
      exact X0.lreturnOut hx Bd.returns (hb hby d5_5) hr
    · show Q5 Z ax h0 n0 _ s₁.heap _
      rw [e0]
      exact ⟨congrArg (fun z => some (Value.long z)) (show _ = F5 ax from by simp only [F5, if_pos hc1_2]; try rfl), N0, rfl⟩
  · have P4 : Wy p.tables e below (s₁.setTop (entryFrame m #[(.int ax)] 1)) (s₁.setTop (mkF m 8 #[.val (.int ax)] [(.int (1 : Int32)), (.int ax)])) := fun t k => P1 t (by
      show Steps p.tables e below (s₁.setTop (mkF m 1 #[.val (.int ax)] [(.int ax)])) _
      refine XS.ifYes X0.here hx rfl (pc0 := 1) (pc' := 6) rfl (hb hby d5_1) rfl ((if0 _ _).trans (feq hc1_2).2) (by decide) (by decide) ?_
      show Steps p.tables e below (s₁.setTop (mkF m 6 #[.val (.int ax)] [])) _
      refine XS.iloadN X0.here hx rfl (hb hby d5_6) rfl  ?_
      show Steps p.tables e below (s₁.setTop (mkF m 7 #[.val (.int ax)] [(.int ax)])) _
      refine XS.iconst X0.here hx rfl (hb hby d5_7) ?_
      exact k)
    by_cases hc8_5 : ax = (1 : Int32)
    · have P6 : Wy p.tables e below (s₁.setTop (entryFrame m #[(.int ax)] 1)) (s₁.setTop (mkF m 14 #[.val (.int ax)] [(.long (255 : Int64))])) := fun t k => P4 t (by
        show Steps p.tables e below (s₁.setTop (mkF m 8 #[.val (.int ax)] [(.int (1 : Int32)), (.int ax)])) _
        refine XS.icmpNo X0.here hx rfl (hb hby d5_8) rfl (teq hc8_5).2 ?_
        show Steps p.tables e below (s₁.setTop (mkF m 11 #[.val (.int ax)] [])) _
        refine X0.ldc2Long hx hown (mvT hZ (hw _ (List.mem_of_getElem? (i := 28) rfl))) (g := (mkF m 11 #[.val (.int ax)] [])) rfl (hb hby d5_11) _ ?_
        exact k)
      obtain ⟨fs, hr, hrun, hended, hW, hsame⟩ := X0.leave (v := some (.long (255 : Int64))) (fun h => by rw [Bd.returns] at h; cases h)
      refine ⟨_, _, P6 _ ?_, hrun, hended, _, _, rfl, ?_, ⟨_, rfl⟩, hW, hsame.mono (by decide) (by decide)⟩
      · show Steps p.tables e below (s₁.setTop (mkF m 14 #[.val (.int ax)] [(.long (255 : Int64))])) _
        exact X0.lreturnOut hx Bd.returns (hb hby d5_14) hr
      · show Q5 Z ax h0 n0 _ s₁.heap _
        rw [e0]
        exact ⟨congrArg (fun z => some (Value.long z)) (show _ = F5 ax from by simp only [F5, if_neg hc1_2, if_pos hc8_5]; try rfl), N0, rfl⟩
    · have P7 : Wy p.tables e below (s₁.setTop (entryFrame m #[(.int ax)] 1)) (s₁.setTop (mkF m 17 #[.val (.int ax)] [(.int (2 : Int32)), (.int ax)])) := fun t k => P4 t (by
        show Steps p.tables e below (s₁.setTop (mkF m 8 #[.val (.int ax)] [(.int (1 : Int32)), (.int ax)])) _
        refine XS.icmpYes X0.here hx rfl (pc0 := 8) (pc' := 15) rfl (hb hby d5_8) rfl (feq hc8_5).2 (by decide) (by decide) ?_
        show Steps p.tables e below (s₁.setTop (mkF m 15 #[.val (.int ax)] [])) _
        refine XS.iloadN X0.here hx rfl (hb hby d5_15) rfl  ?_
        show Steps p.tables e below (s₁.setTop (mkF m 16 #[.val (.int ax)] [(.int ax)])) _
        refine XS.iconst X0.here hx rfl (hb hby d5_16) ?_
        exact k)
      by_cases hc17_8 : ax = (2 : Int32)
      · have P9 : Wy p.tables e below (s₁.setTop (entryFrame m #[(.int ax)] 1)) (s₁.setTop (mkF m 23 #[.val (.int ax)] [(.long (65535 : Int64))])) := fun t k => P7 t (by
          show Steps p.tables e below (s₁.setTop (mkF m 17 #[.val (.int ax)] [(.int (2 : Int32)), (.int ax)])) _
          refine XS.icmpNo X0.here hx rfl (hb hby d5_17) rfl (teq hc17_8).2 ?_
          show Steps p.tables e below (s₁.setTop (mkF m 20 #[.val (.int ax)] [])) _
          refine X0.ldc2Long hx hown (mvT hZ (hw _ (List.mem_of_getElem? (i := 33) rfl))) (g := (mkF m 20 #[.val (.int ax)] [])) rfl (hb hby d5_20) _ ?_
          exact k)
        obtain ⟨fs, hr, hrun, hended, hW, hsame⟩ := X0.leave (v := some (.long (65535 : Int64))) (fun h => by rw [Bd.returns] at h; cases h)
        refine ⟨_, _, P9 _ ?_, hrun, hended, _, _, rfl, ?_, ⟨_, rfl⟩, hW, hsame.mono (by decide) (by decide)⟩
        · show Steps p.tables e below (s₁.setTop (mkF m 23 #[.val (.int ax)] [(.long (65535 : Int64))])) _
          exact X0.lreturnOut hx Bd.returns (hb hby d5_23) hr
        · show Q5 Z ax h0 n0 _ s₁.heap _
          rw [e0]
          exact ⟨congrArg (fun z => some (Value.long z)) (show _ = F5 ax from by simp only [F5, if_neg hc1_2, if_neg hc8_5, if_pos hc17_8]; try rfl), N0, rfl⟩
      · have P10 : Wy p.tables e below (s₁.setTop (entryFrame m #[(.int ax)] 1)) (s₁.setTop (mkF m 26 #[.val (.int ax)] [(.int (3 : Int32)), (.int ax)])) := fun t k => P7 t (by
          show Steps p.tables e below (s₁.setTop (mkF m 17 #[.val (.int ax)] [(.int (2 : Int32)), (.int ax)])) _
          refine XS.icmpYes X0.here hx rfl (pc0 := 17) (pc' := 24) rfl (hb hby d5_17) rfl (feq hc17_8).2 (by decide) (by decide) ?_
          show Steps p.tables e below (s₁.setTop (mkF m 24 #[.val (.int ax)] [])) _
          refine XS.iloadN X0.here hx rfl (hb hby d5_24) rfl  ?_
          show Steps p.tables e below (s₁.setTop (mkF m 25 #[.val (.int ax)] [(.int ax)])) _
          refine XS.iconst X0.here hx rfl (hb hby d5_25) ?_
          exact k)
        by_cases hc26_11 : ax = (3 : Int32)
        · have P12 : Wy p.tables e below (s₁.setTop (entryFrame m #[(.int ax)] 1)) (s₁.setTop (mkF m 32 #[.val (.int ax)] [(.long (16777215 : Int64))])) := fun t k => P10 t (by
            show Steps p.tables e below (s₁.setTop (mkF m 26 #[.val (.int ax)] [(.int (3 : Int32)), (.int ax)])) _
            refine XS.icmpNo X0.here hx rfl (hb hby d5_26) rfl (teq hc26_11).2 ?_
            show Steps p.tables e below (s₁.setTop (mkF m 29 #[.val (.int ax)] [])) _
            refine X0.ldc2Long hx hown (mvT hZ (hw _ (List.mem_of_getElem? (i := 27) rfl))) (g := (mkF m 29 #[.val (.int ax)] [])) rfl (hb hby d5_29) _ ?_
            exact k)
          obtain ⟨fs, hr, hrun, hended, hW, hsame⟩ := X0.leave (v := some (.long (16777215 : Int64))) (fun h => by rw [Bd.returns] at h; cases h)
          refine ⟨_, _, P12 _ ?_, hrun, hended, _, _, rfl, ?_, ⟨_, rfl⟩, hW, hsame.mono (by decide) (by decide)⟩
          · show Steps p.tables e below (s₁.setTop (mkF m 32 #[.val (.int ax)] [(.long (16777215 : Int64))])) _
            exact X0.lreturnOut hx Bd.returns (hb hby d5_32) hr
          · show Q5 Z ax h0 n0 _ s₁.heap _
            rw [e0]
            exact ⟨congrArg (fun z => some (Value.long z)) (show _ = F5 ax from by simp only [F5, if_neg hc1_2, if_neg hc8_5, if_neg hc17_8, if_pos hc26_11]; try rfl), N0, rfl⟩
        · have P13 : Wy p.tables e below (s₁.setTop (entryFrame m #[(.int ax)] 1)) (s₁.setTop (mkF m 35 #[.val (.int ax)] [(.int (4 : Int32)), (.int ax)])) := fun t k => P10 t (by
            show Steps p.tables e below (s₁.setTop (mkF m 26 #[.val (.int ax)] [(.int (3 : Int32)), (.int ax)])) _
            refine XS.icmpYes X0.here hx rfl (pc0 := 26) (pc' := 33) rfl (hb hby d5_26) rfl (feq hc26_11).2 (by decide) (by decide) ?_
            show Steps p.tables e below (s₁.setTop (mkF m 33 #[.val (.int ax)] [])) _
            refine XS.iloadN X0.here hx rfl (hb hby d5_33) rfl  ?_
            show Steps p.tables e below (s₁.setTop (mkF m 34 #[.val (.int ax)] [(.int ax)])) _
            refine XS.iconst X0.here hx rfl (hb hby d5_34) ?_
            exact k)
          by_cases hc35_14 : ax = (4 : Int32)
          · have P15 : Wy p.tables e below (s₁.setTop (entryFrame m #[(.int ax)] 1)) (s₁.setTop (mkF m 41 #[.val (.int ax)] [(.long (4294967295 : Int64))])) := fun t k => P13 t (by
              show Steps p.tables e below (s₁.setTop (mkF m 35 #[.val (.int ax)] [(.int (4 : Int32)), (.int ax)])) _
              refine XS.icmpNo X0.here hx rfl (hb hby d5_35) rfl (teq hc35_14).2 ?_
              show Steps p.tables e below (s₁.setTop (mkF m 38 #[.val (.int ax)] [])) _
              refine X0.ldc2Long hx hown (mvT hZ (hw _ (List.mem_of_getElem? (i := 29) rfl))) (g := (mkF m 38 #[.val (.int ax)] [])) rfl (hb hby d5_38) _ ?_
              exact k)
            obtain ⟨fs, hr, hrun, hended, hW, hsame⟩ := X0.leave (v := some (.long (4294967295 : Int64))) (fun h => by rw [Bd.returns] at h; cases h)
            refine ⟨_, _, P15 _ ?_, hrun, hended, _, _, rfl, ?_, ⟨_, rfl⟩, hW, hsame.mono (by decide) (by decide)⟩
            · show Steps p.tables e below (s₁.setTop (mkF m 41 #[.val (.int ax)] [(.long (4294967295 : Int64))])) _
              exact X0.lreturnOut hx Bd.returns (hb hby d5_41) hr
            · show Q5 Z ax h0 n0 _ s₁.heap _
              rw [e0]
              exact ⟨congrArg (fun z => some (Value.long z)) (show _ = F5 ax from by simp only [F5, if_neg hc1_2, if_neg hc8_5, if_neg hc17_8, if_neg hc26_11, if_pos hc35_14]; try rfl), N0, rfl⟩
          · have P16 : Wy p.tables e below (s₁.setTop (entryFrame m #[(.int ax)] 1)) (s₁.setTop (mkF m 44 #[.val (.int ax)] [(.int (5 : Int32)), (.int ax)])) := fun t k => P13 t (by
              show Steps p.tables e below (s₁.setTop (mkF m 35 #[.val (.int ax)] [(.int (4 : Int32)), (.int ax)])) _
              refine XS.icmpYes X0.here hx rfl (pc0 := 35) (pc' := 42) rfl (hb hby d5_35) rfl (feq hc35_14).2 (by decide) (by decide) ?_
              show Steps p.tables e below (s₁.setTop (mkF m 42 #[.val (.int ax)] [])) _
              refine XS.iloadN X0.here hx rfl (hb hby d5_42) rfl  ?_
              show Steps p.tables e below (s₁.setTop (mkF m 43 #[.val (.int ax)] [(.int ax)])) _
              refine XS.iconst X0.here hx rfl (hb hby d5_43) ?_
              exact k)
            by_cases hc44_17 : ax = (5 : Int32)
            · have P18 : Wy p.tables e below (s₁.setTop (entryFrame m #[(.int ax)] 1)) (s₁.setTop (mkF m 50 #[.val (.int ax)] [(.long (1099511627775 : Int64))])) := fun t k => P16 t (by
                show Steps p.tables e below (s₁.setTop (mkF m 44 #[.val (.int ax)] [(.int (5 : Int32)), (.int ax)])) _
                refine XS.icmpNo X0.here hx rfl (hb hby d5_44) rfl (teq hc44_17).2 ?_
                show Steps p.tables e below (s₁.setTop (mkF m 47 #[.val (.int ax)] [])) _
                refine X0.ldc2Long hx hown (mvT hZ (hw _ (List.mem_of_getElem? (i := 30) rfl))) (g := (mkF m 47 #[.val (.int ax)] [])) rfl (hb hby d5_47) _ ?_
                exact k)
              obtain ⟨fs, hr, hrun, hended, hW, hsame⟩ := X0.leave (v := some (.long (1099511627775 : Int64))) (fun h => by rw [Bd.returns] at h; cases h)
              refine ⟨_, _, P18 _ ?_, hrun, hended, _, _, rfl, ?_, ⟨_, rfl⟩, hW, hsame.mono (by decide) (by decide)⟩
              · show Steps p.tables e below (s₁.setTop (mkF m 50 #[.val (.int ax)] [(.long (1099511627775 : Int64))])) _
                exact X0.lreturnOut hx Bd.returns (hb hby d5_50) hr
              · show Q5 Z ax h0 n0 _ s₁.heap _
                rw [e0]
                exact ⟨congrArg (fun z => some (Value.long z)) (show _ = F5 ax from by simp only [F5, if_neg hc1_2, if_neg hc8_5, if_neg hc17_8, if_neg hc26_11, if_neg hc35_14, if_pos hc44_17]; try rfl), N0, rfl⟩
            · have P19 : Wy p.tables e below (s₁.setTop (entryFrame m #[(.int ax)] 1)) (s₁.setTop (mkF m 54 #[.val (.int ax)] [(.int (6 : Int32)), (.int ax)])) := fun t k => P16 t (by
                show Steps p.tables e below (s₁.setTop (mkF m 44 #[.val (.int ax)] [(.int (5 : Int32)), (.int ax)])) _
                refine XS.icmpYes X0.here hx rfl (pc0 := 44) (pc' := 51) rfl (hb hby d5_44) rfl (feq hc44_17).2 (by decide) (by decide) ?_
                show Steps p.tables e below (s₁.setTop (mkF m 51 #[.val (.int ax)] [])) _
                refine XS.iloadN X0.here hx rfl (hb hby d5_51) rfl  ?_
                show Steps p.tables e below (s₁.setTop (mkF m 52 #[.val (.int ax)] [(.int ax)])) _
                refine XS.bipush X0.here hx rfl (hb hby d5_52) ?_
                exact k)
              by_cases hc54_20 : ax = (6 : Int32)
              · have P21 : Wy p.tables e below (s₁.setTop (entryFrame m #[(.int ax)] 1)) (s₁.setTop (mkF m 60 #[.val (.int ax)] [(.long (281474976710655 : Int64))])) := fun t k => P19 t (by
                  show Steps p.tables e below (s₁.setTop (mkF m 54 #[.val (.int ax)] [(.int (6 : Int32)), (.int ax)])) _
                  refine XS.icmpNo X0.here hx rfl (hb hby d5_54) rfl (teq hc54_20).2 ?_
                  show Steps p.tables e below (s₁.setTop (mkF m 57 #[.val (.int ax)] [])) _
                  refine X0.ldc2Long hx hown (mvT hZ (hw _ (List.mem_of_getElem? (i := 32) rfl))) (g := (mkF m 57 #[.val (.int ax)] [])) rfl (hb hby d5_57) _ ?_
                  exact k)
                obtain ⟨fs, hr, hrun, hended, hW, hsame⟩ := X0.leave (v := some (.long (281474976710655 : Int64))) (fun h => by rw [Bd.returns] at h; cases h)
                refine ⟨_, _, P21 _ ?_, hrun, hended, _, _, rfl, ?_, ⟨_, rfl⟩, hW, hsame.mono (by decide) (by decide)⟩
                · show Steps p.tables e below (s₁.setTop (mkF m 60 #[.val (.int ax)] [(.long (281474976710655 : Int64))])) _
                  exact X0.lreturnOut hx Bd.returns (hb hby d5_60) hr
                · show Q5 Z ax h0 n0 _ s₁.heap _
                  rw [e0]
                  exact ⟨congrArg (fun z => some (Value.long z)) (show _ = F5 ax from by simp only [F5, if_neg hc1_2, if_neg hc8_5, if_neg hc17_8, if_neg hc26_11, if_neg hc35_14, if_neg hc44_17, if_pos hc54_20]; try rfl), N0, rfl⟩
              · have P22 : Wy p.tables e below (s₁.setTop (entryFrame m #[(.int ax)] 1)) (s₁.setTop (mkF m 64 #[.val (.int ax)] [(.long (72057594037927935 : Int64))])) := fun t k => P19 t (by
                  show Steps p.tables e below (s₁.setTop (mkF m 54 #[.val (.int ax)] [(.int (6 : Int32)), (.int ax)])) _
                  refine XS.icmpYes X0.here hx rfl (pc0 := 54) (pc' := 61) rfl (hb hby d5_54) rfl (feq hc54_20).2 (by decide) (by decide) ?_
                  show Steps p.tables e below (s₁.setTop (mkF m 61 #[.val (.int ax)] [])) _
                  refine X0.ldc2Long hx hown (mvT hZ (hw _ (List.mem_of_getElem? (i := 31) rfl))) (g := (mkF m 61 #[.val (.int ax)] [])) rfl (hb hby d5_61) _ ?_
                  exact k)
                obtain ⟨fs, hr, hrun, hended, hW, hsame⟩ := X0.leave (v := some (.long (72057594037927935 : Int64))) (fun h => by rw [Bd.returns] at h; cases h)
                refine ⟨_, _, P22 _ ?_, hrun, hended, _, _, rfl, ?_, ⟨_, rfl⟩, hW, hsame.mono (by decide) (by decide)⟩
                · show Steps p.tables e below (s₁.setTop (mkF m 64 #[.val (.int ax)] [(.long (72057594037927935 : Int64))])) _
                  exact X0.lreturnOut hx Bd.returns (hb hby d5_64) hr
                · show Q5 Z ax h0 n0 _ s₁.heap _
                  rw [e0]
                  exact ⟨congrArg (fun z => some (Value.long z)) (show _ = F5 ax from by simp only [F5, if_neg hc1_2, if_neg hc8_5, if_neg hc17_8, if_neg hc26_11, if_neg hc35_14, if_neg hc44_17, if_neg hc54_20]; try rfl), N0, rfl⟩
theorem own_tab : ∀ n : Fin 8, own_max (Int32.ofNat n.val) = F5 (Int32.ofNat n.val) := by decide +kernel
theorem own_law {bx w : Int32} {r : Int64} (hw : w = (bx &&& (7 : Int32))) (hr : r = own_max w) : lcmpW r (F5 w) = 0 := by
  have h := c_and bx 7 (by decide)
  rw [← hw, show (7 : Int32).toInt = 7 from rfl] at h
  obtain ⟨n, rfl⟩ := own_ltF 8 w h.1 (by omega)
  subst hr
  exact (lw_eq _ _).mpr (own_tab n)
theorem pd_lIIrV : parseMethodDescriptor "(II)V" = some ⟨[.int, .int], none⟩ := by decide +kernel
theorem pd_lrJ : parseMethodDescriptor "()J" = some ⟨[], some .long⟩ := by decide +kernel
theorem pd_lIrJ : parseMethodDescriptor "(I)J" = some ⟨[.int], some .long⟩ := by decide +kernel
theorem ef_rm0 (m : MethodId) (ax : Int32) (bx : Int32)  : entryFrame m #[(.int ax), (.int bx)] maxLocals = (mkF m 0 #[.val (.int ax), .val (.int bx), .unset, .unset, .unset, .unset] []) := by first | (simp [entryFrame, mkF, argsToLocals, Value.category, maxLocals]; done) | rfl
def Q0 (Z : State) (ax bx : Int32) (h0 : Heap) (n0 : Nat) (v : Option Value) (h : Heap) (L : List Loc) : Prop := v = some (.int 1) ∧ Fr n0 L
set_option maxRecDepth 65536 in
set_option maxHeartbeats 40000000 in
theorem rm0 (l : Launch) (Z : State) (a0 : Array Value) (hw : ∀ d ∈ tables_1, d.before a0 Z = true) (ws : List Jvm.Cond) (ax bx : Int32) (h0 : Heap) (n0 : Nat) (Z0 : n0 ≤ h0.size)  :
    MetFree l x (head1 (Jvm.Cond.code x code maxLocals ret :: ws) room_1) (fun a U => a = #[(.int ax), (.int bx)] ∧ Z.Warmed39 U.vm ∧ U.heap = h0) (fun _ _ _ _ _ => True) (fun _ U o U' => ∃ v L, o = .returned v ∧ Q0 Z ax bx h0 n0 v U'.heap L ∧ FrameEnd U o U' L room_1.cells room_1.slots) := by
  refine MetFree.of_bodySF (plainFor_of_name pn_own_x) hisR ?_
  intro p e s m args below meth c s₁ Bd hml0 hP hK
  obtain ⟨rfl, hZ, hh⟩ := hP
  have hx := Bd.exec
  have hby := Bd.bytes
  have hml : c.maxLocals = 6 := hml0
  have hown : s.vm.findClass x.cls = some m.cls := by have q := findClass_of_methodNamed Bd.named; exact q
  have hnm := (name_of_methodNamed Bd.named Bd.method).1
  have X0 : Stand p l e room_1 s m #[(.int ax), (.int bx)] below meth c s₁ [] 0 0 := Stand.of_body Bd
  have e0 : s₁.heap = h0 := by rw [← hh, Bd.state]; rfl
  have N0 := Fr.nil n0
  have P0 : Wy p.tables e below (s₁.setTop (entryFrame m #[(.int ax), (.int bx)] maxLocals)) (s₁.setTop (mkF m 0 #[.val (.int ax), .val (.int bx), .unset, .unset, .unset, .unset] [])) := fun t k => castTop (ef_rm0 m ax bx) k
  have P1 : Wy p.tables e below (s₁.setTop (entryFrame m #[(.int ax), (.int bx)] maxLocals)) (s₁.setTop (mkF m 5 #[.val (.int ax), .val (.int bx), .val (.int (bx &&& (7 : Int32))), .unset, .unset, .unset] [])) := fun t k => P0 t (by
    show Steps p.tables e below (s₁.setTop (mkF m 0 #[.val (.int ax), .val (.int bx), .unset, .unset, .unset, .unset] [])) _
    refine XS.iloadN X0.here hx rfl (hb hby at_0) rfl  ?_
    show Steps p.tables e below (s₁.setTop (mkF m 1 #[.val (.int ax), .val (.int bx), .unset, .unset, .unset, .unset] [(.int bx)])) _
    refine XS.bipush X0.here hx rfl (hb hby at_1) ?_
    show Steps p.tables e below (s₁.setTop (mkF m 3 #[.val (.int ax), .val (.int bx), .unset, .unset, .unset, .unset] [(.int (7 : Int32)), (.int bx)])) _
    refine XS.iand X0.here hx rfl (hb hby at_3) rfl ?_
    show Steps p.tables e below (s₁.setTop (mkF m 4 #[.val (.int ax), .val (.int bx), .unset, .unset, .unset, .unset] [(.int (bx &&& (7 : Int32)))])) _
    refine XS.istoreN X0.here hx rfl (hb hby at_4) rfl (l' := #[.val (.int ax), .val (.int bx), .val (.int (bx &&& (7 : Int32))), .unset, .unset, .unset]) rfl ?_
    exact k)
  obtain ⟨v2, hv2⟩ : ∃ z : Int32, z = (bx &&& (7 : Int32)) := ⟨_, rfl⟩
  have P3 : Wy p.tables e below (s₁.setTop (entryFrame m #[(.int ax), (.int bx)] maxLocals)) (s₁.setTop (mkF m 5 #[.val (.int ax), .val (.int bx), .val (.int v2), .unset, .unset, .unset] [])) := fun t k => by subst hv2; exact P1 t k
  obtain ⟨T4, h4, X4, e4, E4, A4, D4, -, st4⟩ := newO X0 hx hZ hown (hw _ (List.mem_of_getElem? (i := 0) rfl)) (hw _ (List.mem_of_getElem? (i := 1) rfl)) (hw _ (List.mem_of_getElem? (i := 2) rfl)) e0 (g := (mkF m 5 #[.val (.int ax), .val (.int bx), .val (.int v2), .unset, .unset, .unset] [])) rfl (hb hby at_5) (by decide) (by decide)
  obtain ⟨b4, g4⟩ : ∃ z, z = h0.size := ⟨_, rfl⟩
  rw [← g4] at A4 D4 st4
  have g_b4 : n0 ≤ b4 := Nat.le_trans Z0 (Nat.le_of_eq g4.symm)
  have z4 : n0 ≤ h4.size := Nat.le_trans Z0 E4.1
  have F4_code : Fld Z h4 b4 site_11.cls "code" "I" (.int (0 : Int32)) := D4 (Or.inr (hw _ (List.mem_of_getElem? (i := 15) rfl))) (ty := .int) (by decide)
  have F4_countWidth : Fld Z h4 b4 site_11.cls "countWidth" "I" (.int (0 : Int32)) := D4 (Or.inr (hw _ (List.mem_of_getElem? (i := 17) rfl))) (ty := .int) (by decide)
  have P5 : Wy p.tables e below (s₁.setTop (entryFrame m #[(.int ax), (.int bx)] maxLocals)) (T4.setTop (mkF m 8 #[.val (.int ax), .val (.int bx), .val (.int v2), .unset, .unset, .unset] [(.ref b4)])) := fun t k => P3 t (st4 _ k)
  have P6 : Wy p.tables e below (s₁.setTop (entryFrame m #[(.int ax), (.int bx)] maxLocals)) (T4.setTop (mkF m 11 #[.val (.int ax), .val (.int bx), .val (.int v2), .unset, .unset, .unset] [(.int v2), (.int ax), (.ref b4), (.ref b4)])) := fun t k => P5 t (by
    show Steps p.tables e below (T4.setTop (mkF m 8 #[.val (.int ax), .val (.int bx), .val (.int v2), .unset, .unset, .unset] [(.ref b4)])) _
    refine XS.dup X4.here hx rfl (hb hby at_8) rfl rfl ?_
    show Steps p.tables e below (T4.setTop (mkF m 9 #[.val (.int ax), .val (.int bx), .val (.int v2), .unset, .unset, .unset] [(.ref b4), (.ref b4)])) _
    refine XS.iloadN X4.here hx rfl (hb hby at_9) rfl  ?_
    show Steps p.tables e below (T4.setTop (mkF m 10 #[.val (.int ax), .val (.int bx), .val (.int v2), .unset, .unset, .unset] [(.int ax), (.ref b4), (.ref b4)])) _
    refine XS.iloadN X4.here hx rfl (hb hby at_10) rfl  ?_
    exact k)
  obtain ⟨_, _, ⟨T7, L7, k7, n7⟩, -, X7, ⟨Lc7, hQ7, l7, y7, z7⟩, st7⟩ := X4.specialBack hx (y := (⟨site_11.cls, "<init>", "(II)V"⟩ : MethodName)) rfl hown (mvT hZ (hw _ (List.mem_of_getElem? (i := 3) rfl))) (mvT hZ (hw _ (List.mem_of_getElem? (i := 4) rfl))) (mvT hZ (hw _ (List.mem_of_getElem? (i := 5) rfl))) (by decide) (backOf (W := 1) (rm1 l Z a0 hw [] b4 ax v2  h4 n0 z4 A4 F4_code F4_countWidth g_b4 ) hZ (hw _ (List.mem_of_getElem? (i := 5) rfl)) (hw _ (List.mem_of_getElem? (i := 2) rfl)) (by decide) (by decide)) (g := (mkF m 11 #[.val (.int ax), .val (.int bx), .val (.int v2), .unset, .unset, .unset] [(.int v2), (.int ax), (.ref b4), (.ref b4)])) rfl (by rw [hml]; rfl) (Steps.refl _) (a := b4) (argsL := [(.int ax), (.int v2)]) (rest := [(.ref b4)]) (lenOf pd_lIIrV rfl) rfl (by show 2 * 0 + _ ≤ _; exact Nat.le_of_eq rfl) (hb hby at_11) (fun _ _ => ⟨rfl, e4, (by decide : 1 + 0 ≤ _), (by decide : 2 + 0 ≤ _)⟩)
  dsimp only [Pt.U, Pt.locs, Pt.cells, Pt.slots] at X7 l7 y7 z7 st7 hQ7
  subst l7 y7 z7
  obtain ⟨rfl, N7q, K7q, E7q, F7q_code, F7q_countWidth⟩ := hQ7
  have N7 := Fr.app N0 N7q
  have z7k : n0 ≤ T7.heap.size := Nat.le_trans z4 K7q.1
  have A7_b4 := A4.keep K7q
  have P8 : Wy p.tables e below (s₁.setTop (entryFrame m #[(.int ax), (.int bx)] maxLocals)) (T7.setTop (mkF m 14 #[.val (.int ax), .val (.int bx), .val (.int v2), .unset, .unset, .unset] [(.ref b4)])) := fun t k => P6 t (st7.trans k)
  have P9 : Wy p.tables e below (s₁.setTop (entryFrame m #[(.int ax), (.int bx)] maxLocals)) (T7.setTop (mkF m 16 #[.val (.int ax), .val (.int bx), .val (.int v2), .val (.ref b4), .unset, .unset] [(.ref b4)])) := fun t k => P8 t (by
    show Steps p.tables e below (T7.setTop (mkF m 14 #[.val (.int ax), .val (.int bx), .val (.int v2), .unset, .unset, .unset] [(.ref b4)])) _
    refine XS.astoreN X7.here hx rfl (hb hby at_14) rfl rfl (l' := #[.val (.int ax), .val (.int bx), .val (.int v2), .val (.ref b4), .unset, .unset]) rfl ?_
    show Steps p.tables e below (T7.setTop (mkF m 15 #[.val (.int ax), .val (.int bx), .val (.int v2), .val (.ref b4), .unset, .unset] [])) _
    refine XS.aloadN X7.here hx rfl (hb hby at_15) rfl rfl  ?_
    exact k)
  obtain ⟨cq10, kq10, q10a, q10b, q10c⟩ := isOf hZ rfl E7q
  obtain ⟨_, _, ⟨T10, L10, k10, n10⟩, -, X10, ⟨Lc10, hQ10, l10, y10, z10⟩, st10⟩ := X7.virtualBack hx (y := (⟨site_11.cls, "maxCount", "()J"⟩ : MethodName)) (z := (⟨site_11.cls, "maxCount", "()J"⟩ : MethodName)) hown (mvT hZ (hw _ (List.mem_of_getElem? (i := 18) rfl))) (mvT hZ (hw _ (List.mem_of_getElem? (i := 19) rfl))) (notFace_of_selects (args := #[]) (mvT hZ (hw _ (List.mem_of_getElem? (i := 21) rfl)))) (mvT hZ (hw _ (List.mem_of_getElem? (i := 21) rfl))) (mvT hZ (hw _ (List.mem_of_getElem? (i := 20) rfl))) (by decide) (backOf (W := 0) (rm4 l Z a0 hw [] b4 v2 T7.heap n0 z7k  F7q_countWidth ) hZ (hw _ (List.mem_of_getElem? (i := 22) rfl)) (hw _ (List.mem_of_getElem? (i := 2) rfl)) (by decide) (by decide)) q10a q10c (g := (mkF m 16 #[.val (.int ax), .val (.int bx), .val (.int v2), .val (.ref b4), .unset, .unset] [(.ref b4)])) rfl (by rw [hml]; rfl) (Steps.refl _) (argsL := []) (rest := []) (lenOf pd_lrJ rfl) rfl (by show 2 * 0 + _ ≤ _; exact Nat.le_of_eq rfl) (hb hby at_16) (fun _ _ => ⟨rfl, rfl, (by decide : 1 + 0 ≤ _), (by decide : 2 + 0 ≤ _)⟩)
  dsimp only [Pt.U, Pt.locs, Pt.cells, Pt.slots] at X10 l10 y10 z10 st10 hQ10
  subst l10 y10 z10
  obtain ⟨rfl, N10q, e10⟩ := hQ10
  have N10 := Fr.app N7 N10q
  have P11 : Wy p.tables e below (s₁.setTop (entryFrame m #[(.int ax), (.int bx)] maxLocals)) (T10.setTop (mkF m 19 #[.val (.int ax), .val (.int bx), .val (.int v2), .val (.ref b4), .unset, .unset] [(.long (own_max v2))])) := fun t k => P9 t (st10.trans k)
  have P12 : Wy p.tables e below (s₁.setTop (entryFrame m #[(.int ax), (.int bx)] maxLocals)) (T10.setTop (mkF m 21 #[.val (.int ax), .val (.int bx), .val (.int v2), .val (.ref b4), .val (.long (own_max v2)), .second] [])) := fun t k => P11 t (by
    show Steps p.tables e below (T10.setTop (mkF m 19 #[.val (.int ax), .val (.int bx), .val (.int v2), .val (.ref b4), .unset, .unset] [(.long (own_max v2))])) _
    refine XS.lstore X10.here hx rfl (hb hby at_19) rfl (l' := #[.val (.int ax), .val (.int bx), .val (.int v2), .val (.ref b4), .val (.long (own_max v2)), .second]) rfl ?_
    exact k)
  obtain ⟨v13, hv13⟩ : ∃ z : Int64, z = (own_max v2) := ⟨_, rfl⟩
  have P14 : Wy p.tables e below (s₁.setTop (entryFrame m #[(.int ax), (.int bx)] maxLocals)) (T10.setTop (mkF m 21 #[.val (.int ax), .val (.int bx), .val (.int v2), .val (.ref b4), .val (.long v13), .second] [])) := fun t k => by subst hv13; exact P12 t k
  have P15 : Wy p.tables e below (s₁.setTop (entryFrame m #[(.int ax), (.int bx)] maxLocals)) (T10.setTop (mkF m 24 #[.val (.int ax), .val (.int bx), .val (.int v2), .val (.ref b4), .val (.long v13), .second] [(.int v2), (.long v13)])) := fun t k => P14 t (by
    show Steps p.tables e below (T10.setTop (mkF m 21 #[.val (.int ax), .val (.int bx), .val (.int v2), .val (.ref b4), .val (.long v13), .second] [])) _
    refine XS.lload X10.here hx rfl (hb hby at_21) rfl  ?_
    show Steps p.tables e below (T10.setTop (mkF m 23 #[.val (.int ax), .val (.int bx), .val (.int v2), .val (.ref b4), .val (.long v13), .second] [(.long v13)])) _
    refine XS.iloadN X10.here hx rfl (hb hby at_23) rfl  ?_
    exact k)
  obtain ⟨_, _, ⟨T16, L16, k16, n16⟩, -, X16, ⟨Lc16, hQ16, l16, y16, z16⟩, st16⟩ := Jvm.LawKit.callS X10 hx (y := (⟨x.cls, "expected", "(I)J"⟩ : MethodName)) hown (mvT hZ (hw _ (List.mem_of_getElem? (i := 23) rfl))) (mvT hZ (hw _ (List.mem_of_getElem? (i := 24) rfl))) (mvT hZ (hw _ (List.mem_of_getElem? (i := 25) rfl))) (mvT hZ (hw _ (List.mem_of_getElem? (i := 26) rfl))) (by decide) (backOf (W := 2) (rm5 l Z a0 hw [] v2 T7.heap n0 z7k ) hZ (hw _ (List.mem_of_getElem? (i := 26) rfl)) (hw _ (List.mem_of_getElem? (i := 25) rfl)) (by decide) (by decide)) (g := (mkF m 24 #[.val (.int ax), .val (.int bx), .val (.int v2), .val (.ref b4), .val (.long v13), .second] [(.int v2), (.long v13)])) rfl (by rw [hml]; rfl) (argsL := [(.int v2)]) (rest := [(.long v13)]) (lenOf pd_lIrJ rfl) rfl (by show 2 * 0 + _ ≤ _; exact Nat.le_of_eq rfl) (hb hby at_24) (fun _ _ => ⟨rfl, e10, (by decide : 1 + 0 ≤ _), (by decide : 2 + 0 ≤ _)⟩)
  dsimp only [Pt.U, Pt.locs, Pt.cells, Pt.slots] at X16 l16 y16 z16 st16 hQ16
  subst l16 y16 z16
  obtain ⟨rfl, N16q, e16⟩ := hQ16
  have N16 := Fr.app N10 N16q
  have P17 : Wy p.tables e below (s₁.setTop (entryFrame m #[(.int ax), (.int bx)] maxLocals)) (T16.setTop (mkF m 27 #[.val (.int ax), .val (.int bx), .val (.int v2), .val (.ref b4), .val (.long v13), .second] [(.long (F5 v2)), (.long v13)])) := fun t k => P15 t (st16 _ k)
  have P18 : Wy p.tables e below (s₁.setTop (entryFrame m #[(.int ax), (.int bx)] maxLocals)) (T16.setTop (mkF m 36 #[.val (.int ax), .val (.int bx), .val (.int v2), .val (.ref b4), .val (.long v13), .second] [(.int (1 : Int32))])) := fun t k => P17 t (by
    show Steps p.tables e below (T16.setTop (mkF m 27 #[.val (.int ax), .val (.int bx), .val (.int v2), .val (.ref b4), .val (.long v13), .second] [(.long (F5 v2)), (.long v13)])) _
    refine XS.lcmp X16.here hx rfl (hb hby at_27) rfl ?_
    show Steps p.tables e below (T16.setTop (mkF m 28 #[.val (.int ax), .val (.int bx), .val (.int v2), .val (.ref b4), .val (.long v13), .second] [(.int (lcmpW v13 (F5 v2)))])) _
    refine XS.ifNo X16.here hx rfl (hb hby at_28) rfl ((if0 _ _).trans (teq (own_law hv2 hv13 : (lcmpW v13 (F5 v2)) = (0 : Int32))).2) ?_
    show Steps p.tables e below (T16.setTop (mkF m 31 #[.val (.int ax), .val (.int bx), .val (.int v2), .val (.ref b4), .val (.long v13), .second] [])) _
    refine XS.iconst X16.here hx rfl (hb hby at_31) ?_
    show Steps p.tables e below (T16.setTop (mkF m 32 #[.val (.int ax), .val (.int bx), .val (.int v2), .val (.ref b4), .val (.long v13), .second] [(.int (1 : Int32))])) _
    refine XS.goto X16.here hx rfl (pc0 := 32) (pc' := 36) rfl (hb hby at_32) (by decide) (by decide) ?_
    exact k)
  obtain ⟨fs, hr, hrun, hended, hW, hsame⟩ := X16.leave (v := some (.int (nar .boolean (1 : Int32)))) (fun h => by rw [Bd.returns] at h; cases h)
  refine ⟨_, _, P18 _ ?_, hrun, hended, _, _, rfl, ?_, ⟨_, rfl⟩, hW, hsame.mono (by decide) (by decide)⟩
  · show Steps p.tables e below (T16.setTop (mkF m 36 #[.val (.int ax), .val (.int bx), .val (.int v2), .val (.ref b4), .val (.long v13), .second] [(.int (1 : Int32))])) _
    exact retN X16 hx (t := .boolean) Bd.returns (by simp) (hb hby at_36) hr
  · show Q0 Z ax bx h0 n0 _ T16.heap _
    rw [e16]
    exact ⟨rfl, N16⟩
set_option maxRecDepth 65536 in
set_option maxHeartbeats 40000000 in
theorem comes_1 {Post : Tables → Env → Array Value → State → Outcome → State → Prop} (hpost : ∀ tb e args s v u, (limb_1_1.after args s (.returned v) u = true ∧ limb_1_2.after args s (.returned v) u = true ∧ True) → FrameEnd s (.returned v) u (Jvm.fieldLocs frame_1_writes args s ++ Jvm.arrayLocs frame_1_arrays args s ++ Jvm.staticLocs frame_1_statics s) 16 128 → Post tb e args s (.returned v) u) :
    ArmFor flags0 classFile x code maxLocals ret World_1 tables_1 room_1 Calls_1 rest_1 Pre_1 Post := by
  intro l hfl _ _ p e ha hc hk s m args below hf hA hF happ hP
  obtain ⟨hcalls, hrest, hpre⟩ := hP
  obtain ⟨-, -, -, hnamed, -, -, -, hat⟩ := (Spec.applies_iff hf).mp happ
  obtain ⟨hg, hn⟩ := and_e (Cond.before_iff.mp (show (Jvm.Cond.and given_1 narrow_1).before args s = true from hpre))
  obtain ⟨g1, g2⟩ := and_e hg
  obtain ⟨g3, g4⟩ := and_e g2
  obtain ⟨w0, w1, rfl⟩ : ∃ w0 w1 : Value, args = #[w0, w1] := by
    have hs : args.size = 2 := by simpa [Cond.value, given_1] using g1
    obtain ⟨L⟩ := args
    match L, hs with
    | [w0, w1], _ => exact ⟨w0, w1, rfl⟩
  have hw := fun d (hd : d ∈ tables_1) => atoms_spec (ws := Jvm.Cond.code x code maxLocals ret :: tables_1) hat d (List.mem_cons_of_mem _ hd)
  have hfit : Fit s := fun {y c} hc i hi => by
    obtain ⟨ha, rfl⟩ := Array.getElem?_eq_some_iff.mp hc
    have q := List.all_eq_true.mp ((Array.all_eq_true_iff_forall_mem.mp hF) _ (Array.getElem_mem ha)) i (List.mem_range.mpr hi)
    simpa [Array.getElem?_eq_getElem hi] using q
  obtain ⟨i0, ei0⟩ := is_v g3
  obtain rfl : w0 = (.int i0) := Option.some.inj ei0
  obtain ⟨i1, ei1⟩ := is_v g4
  obtain rfl : w1 = (.int i1) := Option.some.inj ei1
  obtain ⟨n, o, h1, h2, h3, _, L, rfl, ⟨rfl, N⟩, hq⟩ := rm0 l s _ hw tables_1 i0 i1 s.heap s.heap.size (Nat.le_refl _)  p e ha hc hk s m _ below hf ((Spec.applies_iff_loose hf).mp happ).1 ⟨rfl, State.Warmed39.refl s, rfl⟩ trivial
  refine ⟨n, _, h1, h2, h3, hpost _ _ _ _ _ _ ⟨Cond.after_iff.mpr rfl, Cond.after_iff.mpr (eq_i res_at (Term.int_eval (1)) rfl), trivial⟩ ⟨hq.1, hq.2.1, (hq.2.2.sift fun y hy => Or.inr (N y hy)).mono (by decide) (by decide)⟩⟩
theorem main_1_1 : Claimed_1_1 := comes_1 fun _ _ _ _ _ _ h hF => ⟨h.1, hF⟩
theorem main_1_2 : Claimed_1_2 := comes_1 fun _ _ _ _ _ _ h hF => ⟨h.2.1, hF⟩
end Jvm.Pilot.@@N@@
namespace Jvm.Pilot.@@N@@
open Jvm Jvm.ClassFile Sem Op Lib Jvm.Free Jvm.Stand Jvm.Pilot.@@N@@.Jvm.D
/-! MADE BY PROGRAM (witnessworld.py) out of the Statement's table words and the real class files: 10 classes; the members and pool entries that the words name. The judged class is class 1, her method 2. -/
namespace start1
open Jvm.ClassFile
def u (s : String) : CpInfo := .utf8 (stringToUtf16 s)
/-- a pool by its gaps: so many unusable entries, then the entry; so many at the end -/
def gap : Nat → List CpInfo → List CpInfo
  | 0, r => r
  | n + 1, r => .unusable :: gap n r
def poolList (es : List (Nat × CpInfo)) (last : Nat) : List CpInfo := es.foldr (fun e r => gap e.1 (e.2 :: r)) (gap last [])
def pool (es : List (Nat × CpInfo)) (last : Nat) : Array CpInfo := ⟨poolList es last⟩
def fileOf (pool : Array CpInfo) (this : Nat) (attrs : Array Attribute := #[]) (ms : Array MethodInfo := #[]) (fl : Nat := 33) (sup : Nat := 0) (ifs : Array Nat := #[]) (fds : Array FieldInfo := #[]) : ClassFile where
  minorVersion := 0
  majorVersion := 65
  constantPool := pool
  accessFlags := fl
  thisClass := this
  superClass := sup
  interfaces := ifs
  fields := fds
  methods := ms
  attributes := attrs
def plain (name : String) (sup : Option ClassId) : Class where
  name := name
  kind := .ordinary
  loader := none
  accessFlags := 33
  super := sup
  interfaces := #[]
  cf := none
  fields := #[]
  methods := #[]
  instanceTypes := #[]
  staticTypes := #[]
  resolved := #[]
  callSites := []
  init := .initialized
  statics := none
  mirror := none

def pool0 : Array CpInfo := pool [(5, u "<init>"), (0, u "()V"), (1, .class_ 10), (1, u "java/lang/Object")] 113

def k0c0 : Code := { maxStack := 0, maxLocals := 1, code := object_method_1_code, exceptionTable := #[], attributes := #[] }
def k0m0 : Method := { name := "<init>", desc := "()V", sig := { parameters := [], returnType := none }, accessFlags := 1, code := some k0c0 }
/-- java/lang/Object -/
def k0 : Class := { plain "java/lang/Object" none with
  accessFlags := 33
  interfaces := #[]
  cf := some (fileOf pool0 8 #[] #[{ accessFlags := 1, nameIndex := 5, descriptorIndex := 6, attributes := #[] }] 33 0 #[] #[])
  fields := #[]
  methods := #[k0m0]
  instanceTypes := #[]
  staticTypes := #[]
  resolved := Array.replicate 124 none
  statics := none }

def pool1 : Array CpInfo := pool [(2, .class_ 4), (1, u "java/lang/Object"), (0, u "<init>"), (0, u "()V"), (0, .long 255), (1, .long 65535), (1, .long 16777215), (1, .long 4294967295), (1, .long 1099511627775), (1, .long 281474976710655), (1, .long 72057594037927935), (1, .class_ 22), (0, u site_11.cls), (0, .methodref 21 24), (0, .nameAndType 5 25), (0, u "(II)V"), (0, .methodref 21 27), (0, .nameAndType 28 29), (0, u "maxCount"), (0, u "()J"), (0, .methodref 31 32), (0, .class_ 33), (0, .nameAndType 34 35), (0, u x.cls), (0, u "expected"), (0, u "(I)J"), (3, u "law"), (0, u "(II)Z")] 6

def k1m0 : Method := { name := "<init>", desc := "()V", sig := { parameters := [], returnType := none }, accessFlags := 2, code := none }
def k1c1 : Code := { maxStack := 2, maxLocals := 1, code := method_2_code, exceptionTable := #[], attributes := #[] }
def k1m1 : Method := { name := "expected", desc := "(I)J", sig := { parameters := [.int], returnType := some .long }, accessFlags := 10, code := some k1c1 }
def k1c2 : Code := { maxStack := 4, maxLocals := 6, code := code, exceptionTable := #[], attributes := #[] }
def k1m2 : Method := { name := "law", desc := "(II)Z", sig := { parameters := [.int, .int], returnType := some .boolean }, accessFlags := 9, code := some k1c2 }
def k1 : Class := { plain x.cls (some 0) with
  accessFlags := 49
  interfaces := #[]
  cf := some (fileOf pool1 31 #[] #[{ accessFlags := 2, nameIndex := 5, descriptorIndex := 6, attributes := #[] }, { accessFlags := 10, nameIndex := 34, descriptorIndex := 35, attributes := #[] }, { accessFlags := 9, nameIndex := 39, descriptorIndex := 40, attributes := #[] }] 49 2 #[] #[])
  fields := #[]
  methods := #[k1m0, k1m1, k1m2]
  instanceTypes := #[]
  staticTypes := #[]
  resolved := Array.replicate 47 none
  statics := none }

def pool2 : Array CpInfo := pool [(1, .methodref 2 3), (0, .class_ 4), (0, .nameAndType 5 6), (0, u "java/lang/Object"), (0, u "<init>"), (0, u "()V"), (0, .class_ 8), (0, u "java/lang/Record")] 13

def k2c0 : Code := { maxStack := 1, maxLocals := 1, code := jdk_30_method_1_code, exceptionTable := #[], attributes := #[] }
def k2m0 : Method := { name := "<init>", desc := "()V", sig := { parameters := [], returnType := none }, accessFlags := 4, code := some k2c0 }
/-- java/lang/Record -/
def k2 : Class := { plain "java/lang/Record" (some 0) with
  accessFlags := 1057
  interfaces := #[]
  cf := some (fileOf pool2 7 #[] #[{ accessFlags := 4, nameIndex := 5, descriptorIndex := 6, attributes := #[] }] 1057 2 #[] #[])
  fields := #[]
  methods := #[k2m0]
  instanceTypes := #[]
  staticTypes := #[]
  resolved := Array.replicate 22 none
  statics := none }

def pool3 : Array CpInfo := pool [(1, .methodref 2 3), (0, .class_ 4), (0, .nameAndType 5 6), (0, u "java/lang/Record"), (0, u "<init>"), (0, u "()V"), (0, .fieldref 8 9), (0, .class_ 10), (0, .nameAndType 11 12), (0, u site_11.cls), (0, u "code"), (0, u "I"), (0, .fieldref 8 14), (0, .nameAndType 15 12), (0, u "countWidth"), (12, u "(II)V"), (3, u "maxCount"), (0, u "()J"), (6, .class_ 41), (0, u "own/BitEfficientCodes")] 20

def k3c0 : Code := { maxStack := 2, maxLocals := 3, code := prog_7_method_1_code, exceptionTable := #[], attributes := #[] }
def k3m0 : Method := { name := "<init>", desc := "(II)V", sig := { parameters := [.int, .int], returnType := none }, accessFlags := 0, code := some k3c0 }
def k3c1 : Code := { maxStack := 4, maxLocals := 1, code := prog_7_method_2_code, exceptionTable := #[], attributes := #[] }
def k3m1 : Method := { name := "maxCount", desc := "()J", sig := { parameters := [], returnType := some .long }, accessFlags := 0, code := some k3c1 }
def k3 : Class := { plain site_11.cls (some 2) with
  accessFlags := 48
  interfaces := #[]
  cf := some (fileOf pool3 8 #[.nestHost 40] #[{ accessFlags := 0, nameIndex := 5, descriptorIndex := 28, attributes := #[] }, { accessFlags := 0, nameIndex := 32, descriptorIndex := 33, attributes := #[] }] 48 2 #[] #[{ accessFlags := 18, nameIndex := 11, descriptorIndex := 12, attributes := #[] }, { accessFlags := 18, nameIndex := 15, descriptorIndex := 12, attributes := #[] }])
  fields := #[{ name := "code", type := .int, accessFlags := 18, slot := 0, constantValue := 0 }, { name := "countWidth", type := .int, accessFlags := 18, slot := 1, constantValue := 0 }]
  methods := #[k3m0, k3m1]
  instanceTypes := #[.int, .int]
  staticTypes := #[]
  resolved := Array.replicate 62 none
  statics := none }

def pool4 : Array CpInfo := pool [(1, u "java/lang/Cloneable"), (0, .class_ 1), (0, u "java/lang/Object"), (0, .class_ 3)] 3

/-- java/lang/Cloneable -/
def k4 : Class := { plain "java/lang/Cloneable" (some 0) with
  accessFlags := 1537
  interfaces := #[]
  cf := some (fileOf pool4 2 #[] #[] 1537 4 #[] #[])
  fields := #[]
  methods := #[]
  instanceTypes := #[]
  staticTypes := #[]
  resolved := Array.replicate 8 none
  statics := none }

def pool5 : Array CpInfo := pool [(1, u "java/io/Serializable"), (0, .class_ 1), (0, u "java/lang/Object"), (0, .class_ 3)] 3

/-- java/io/Serializable -/
def k5 : Class := { plain "java/io/Serializable" (some 0) with
  accessFlags := 1537
  interfaces := #[]
  cf := some (fileOf pool5 2 #[] #[] 1537 4 #[] #[])
  fields := #[]
  methods := #[]
  instanceTypes := #[]
  staticTypes := #[]
  resolved := Array.replicate 8 none
  statics := none }

/-- the primitive byte -/
def k6 : Class := { plain "byte" none with kind := .primitive 'B', accessFlags := 0x411 }
/-- [B -/
def k7 : Class := { plain "[B" (some 0) with kind := .array 6 .byte, interfaces := #[4, 5], accessFlags := 1041 }

/-- the primitive int -/
def k8 : Class := { plain "int" none with kind := .primitive 'I', accessFlags := 0x411 }
/-- [I -/
def k9 : Class := { plain "[I" (some 0) with kind := .array 8 .int, interfaces := #[4, 5], accessFlags := 1041 }

def heap : Heap := #[]
def classes : Array Class := #[k0, k1, k2, k3, k4, k5, k6, k7, k8, k9]
def interned : List (Array UInt16 × Addr) := []
def slotsUsed : Nat := 0
def theMethod : MethodId := ⟨1, 2⟩
def args0 : Array Value := #[.int 5, .int 7]
def aboutOver (below : List Frame) : State where
  vm := { classes := classes, interned := interned.toArray }
  heap := heap
  slotsUsed := slotsUsed
  threads := #[{ frames := .invoking theMethod args0 :: below }]
def below0 : List Frame := [.native { method := ⟨0, 0⟩, args := #[] }]
def about1 : State := aboutOver below0
def p0 : Program := .bare "" "" ""
def e0 : Env := launch0.env 0 0 0
theorem w_frames : about1.frames = Frame.invoking theMethod args0 :: below0 := rfl
set_option maxRecDepth 65536 in
theorem w_args : argsFit about1.vm theMethod args0 = true := by decide +kernel
set_option maxRecDepth 65536 in
theorem w_heap : heapFits about1 = true := by decide +kernel
set_option maxRecDepth 65536 in
theorem w_runnable : about1.curStatus? = some .runnable := by decide +kernel
set_option maxRecDepth 65536 in
theorem w_alone : about1.alone = true := by decide +kernel
set_option maxRecDepth 65536 in
theorem w_named : about1.methodNamed? x = some theMethod := by decide +kernel
set_option maxRecDepth 65536 in
theorem w_hears : about1.hears theMethod below0 = true := by decide +kernel
set_option maxRecDepth 65536 in
theorem w_ripe : about1.ripe theMethod args0 below0 = true := by decide +kernel
theorem w_running : about1.status = .running := rfl
set_option maxRecDepth 65536 in
theorem w_room : about1.hasRoom e0.platform room_1 = true :=
  launch0.hasRoom_least _ room_1 (by decide +kernel) (by decide +kernel) (by decide +kernel) (by decide +kernel) (by decide +kernel) (by decide +kernel)
theorem allAtoms_all (ts : List Jvm.Cond) (a : Array Jvm.Value) (st : Jvm.State) : (allAtoms ts).before a st = ts.all (fun c => c.before a st) := by
  induction ts with
  | nil => rfl
  | cons c t ih =>
    show (Jvm.Cond.and c (allAtoms t)).before a st = _
    rw [Jvm.Cond.before_and, ih, List.all_cons]
def words1 : List Jvm.Cond := Jvm.Cond.code x code maxLocals ret :: tables_1
/-- a 'code' word, met by the world's own term for the bytes: nothing is compared byte by byte -/
theorem code_word {y : MethodName} {bytes : ByteArray} {mx : Nat} {rt : Option FieldType} {a : Array Value} {s : State} {m : MethodId} {meth : Method} {c : Code} (h1 : s.methodNamed? y = some m) (h2 : s.vm.method? m = some meth) (h3 : meth.code = some c) (h4 : c.code = bytes)
    (h5 : (c.maxLocals == mx && c.exceptionTable.isEmpty && decide (c.maxStack ≤ mostOperands) && decide (meth.sig.returnType = rt) && !meth.locks && decide (parseMethodDescriptor y.desc = some meth.sig)) = true) : (Jvm.Cond.code y bytes mx rt).before a s = true := by
  simp only [Bool.and_eq_true, beq_iff_eq, Bool.not_eq_true', decide_eq_true_eq] at h5
  obtain ⟨⟨⟨⟨⟨g1, g2⟩, g3⟩, g4⟩, g5⟩, g6⟩ := h5
  simp [Cond.before, Cond.holds, Cond.value, h1, h2, h3, h4, g1, g2, g3, g4, g5, g6]
def isCode : Jvm.Cond → Bool
  | .code _ _ _ _ => true
  | _ => false
theorem all_split {L : List Jvm.Cond} {P : Jvm.Cond → Bool} (h1 : L.all (fun c => isCode c || P c) = true) (h2 : ∀ c ∈ L.filter isCode, P c = true) : L.all P = true := by
  refine List.all_eq_true.mpr fun c hc => ?_
  have h := List.all_eq_true.mp h1 c hc
  rcases Bool.eq_false_or_eq_true (isCode c) with hi | hi
  · exact h2 c (List.mem_filter.mpr ⟨hc, hi⟩)
  · simpa [hi] using h
set_option maxRecDepth 65536 in
theorem w_c0 : (Jvm.Cond.code x code maxLocals ret).before args0 about1 = true := code_word (m := ⟨1, 2⟩) (meth := k1m2) (c := k1c2) (by decide +kernel) rfl rfl rfl (by decide +kernel)
set_option maxRecDepth 65536 in
theorem w_c1 : (Jvm.Cond.code ({ cls := site_11.cls, name := "<init>", desc := "(II)V" } : Jvm.MethodName) prog_7_method_1_code (3 : Nat) (Option.none : Option Jvm.ClassFile.FieldType)).before args0 about1 = true := code_word (m := ⟨3, 0⟩) (meth := k3m0) (c := k3c0) (by decide +kernel) rfl rfl rfl (by decide +kernel)
set_option maxRecDepth 65536 in
theorem w_c2 : (Jvm.Cond.code ({ cls := "java/lang/Record", name := "<init>", desc := "()V" } : Jvm.MethodName) jdk_30_method_1_code (1 : Nat) (Option.none : Option Jvm.ClassFile.FieldType)).before args0 about1 = true := code_word (m := ⟨2, 0⟩) (meth := k2m0) (c := k2c0) (by decide +kernel) rfl rfl rfl (by decide +kernel)
set_option maxRecDepth 65536 in
theorem w_c3 : (Jvm.Cond.code ({ cls := "java/lang/Object", name := "<init>", desc := "()V" } : Jvm.MethodName) object_method_1_code (1 : Nat) (Option.none : Option Jvm.ClassFile.FieldType)).before args0 about1 = true := code_word (m := ⟨0, 0⟩) (meth := k0m0) (c := k0c0) (by decide +kernel) rfl rfl rfl (by decide +kernel)
set_option maxRecDepth 65536 in
theorem w_c4 : (Jvm.Cond.code ({ cls := site_11.cls, name := "maxCount", desc := "()J" } : Jvm.MethodName) prog_7_method_2_code (1 : Nat) (Option.some Jvm.ClassFile.FieldType.long)).before args0 about1 = true := code_word (m := ⟨3, 1⟩) (meth := k3m1) (c := k3c1) (by decide +kernel) rfl rfl rfl (by decide +kernel)
set_option maxRecDepth 65536 in
theorem w_c5 : (Jvm.Cond.code ({ cls := x.cls, name := "expected", desc := "(I)J" } : Jvm.MethodName) method_2_code (1 : Nat) (Option.some Jvm.ClassFile.FieldType.long)).before args0 about1 = true := code_word (m := ⟨1, 1⟩) (meth := k1m1) (c := k1c1) (by decide +kernel) rfl rfl rfl (by decide +kernel)
def codes1 : List Jvm.Cond := [Jvm.Cond.code x code maxLocals ret, Jvm.Cond.code ({ cls := site_11.cls, name := "<init>", desc := "(II)V" } : Jvm.MethodName) prog_7_method_1_code (3 : Nat) (Option.none : Option Jvm.ClassFile.FieldType), Jvm.Cond.code ({ cls := "java/lang/Record", name := "<init>", desc := "()V" } : Jvm.MethodName) jdk_30_method_1_code (1 : Nat) (Option.none : Option Jvm.ClassFile.FieldType), Jvm.Cond.code ({ cls := "java/lang/Object", name := "<init>", desc := "()V" } : Jvm.MethodName) object_method_1_code (1 : Nat) (Option.none : Option Jvm.ClassFile.FieldType), Jvm.Cond.code ({ cls := site_11.cls, name := "maxCount", desc := "()J" } : Jvm.MethodName) prog_7_method_2_code (1 : Nat) (Option.some Jvm.ClassFile.FieldType.long), Jvm.Cond.code ({ cls := x.cls, name := "expected", desc := "(I)J" } : Jvm.MethodName) method_2_code (1 : Nat) (Option.some Jvm.ClassFile.FieldType.long)]
set_option maxRecDepth 65536 in
theorem codes_eq : words1.filter isCode = codes1 := rfl
theorem w_codes : ∀ c ∈ words1.filter isCode, c.before args0 about1 = true := by
  rw [codes_eq]
  intro c hc
  simp only [codes1, List.mem_cons, List.not_mem_nil, or_false] at hc
  rcases hc with rfl | rfl | rfl | rfl | rfl | rfl
  · exact w_c0
  · exact w_c1
  · exact w_c2
  · exact w_c3
  · exact w_c4
  · exact w_c5
set_option maxRecDepth 65536 in
theorem w_t1 : (words1.take 24).all (fun c => isCode c || c.before args0 about1) = true := by decide +kernel
set_option maxRecDepth 65536 in
theorem w_t2 : (words1.drop 24).all (fun c => isCode c || c.before args0 about1) = true := by decide +kernel
theorem w_tables : (allAtoms (Jvm.Cond.code x code maxLocals ret :: tables_1)).before args0 about1 = true := by
  rw [allAtoms_all]
  show words1.all (fun c => c.before args0 about1) = true
  refine all_split ?_ w_codes
  rw [← List.take_append_drop 24 words1, List.all_append, w_t1, w_t2]
  rfl
set_option maxRecDepth 65536 in
theorem w_case : (Jvm.Cond.and given_1 narrow_1).before args0 about1 = true := by decide +kernel
theorem w_applies : (headSpec (Jvm.Cond.code x code maxLocals ret :: tables_1) room_1).applies x e0.platform about1 = true :=
  (Spec.applies_iff w_frames).mpr ⟨w_running, w_runnable, w_alone, w_named, w_hears, w_ripe, w_room, w_tables⟩
theorem atStart : AtStart classFile x code maxLocals ret World_1 tables_1 room_1 Calls_1 rest_1 Pre_1 launch0 p0 e0 about1 theMethod args0 below0 :=
  ⟨lists_1, trivial, launch0.admits_env _ _ _, launch0.least_env, fairChoices_fair.cas, fairChoices_fair.clock, w_frames, w_args, w_heap, w_applies, trivial, trivial, w_case⟩
end start1
theorem witness_1 : WitnessClaimed_1 := ⟨start1.p0, start1.e0, start1.about1, start1.theMethod, start1.args0, start1.below0, start1.atStart⟩
end Jvm.Pilot.@@N@@
