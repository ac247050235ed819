import JvmDerived
import JvmDerived.Pilot.@@N@@Statement
import JvmDerived.Pilot.@@N@@Code
set_option linter.unusedVariables false
set_option linter.unusedSimpArgs false

namespace Jvm.RoadKit
open Sem ClassFile Op Lib Jvm.Stand Jvm.Free Jvm.LawKit
section New
variable {p : Program} {l : Launch} {e : Env} {R : Room} {s : State} {m : MethodId} {args : Array Value} {below : List Frame} {meth : Method} {c : Code} {T : State} {locs : List Loc} {cells slots : Nat}
theorem retI (X : Stand p l e R s m args below meth c T locs cells slots) (hx : p.tables.exec = Jvm.exec) {pc : Nat} {Ls : Array Slot} {z : Int32} {rest : List Value} (hret : meth.sig.returnType = some .int) (hd : decode c.code pc = .ok (.ireturn, 1)) {fs : List Frame}
    (hl : ∀ (f : JFrame) (acts : List Action), f.method = m → f.locked = none → f.entered = [] → (doReturn e (T.setTop f) acts (some (.int z))).1 = T.setFrames fs) : Steps p.tables e below (T.setTop (mkF m pc Ls (.int z :: rest))) (T.setFrames fs) := by
  have hm' : T.vm.method? m = some meth := X.method'
  have hn : narrow .int (.int z) = .int z := rfl
  show Steps p.tables e below (T.setTop { method := m, pc := pc, locals := Ls, stack := _ :: rest, locked := none }) _
  jvm_step X.here [X.here.top, hx, hd, hm', hret, hn]
  first | (intro acts; rw [hl _ acts rfl rfl rfl]) | rw [hl _ _ rfl rfl rfl]
  exact Steps.refl _
end New
end Jvm.RoadKit
namespace Jvm.Pilot.@@N@@
open Jvm Jvm.ClassFile Sem Op Lib Jvm.Free Jvm.Stand Jvm.LawKit Jvm.RoadKit Bundle Jvm.Pilot.@@N@@.Jvm.D
/-- from A the run comes to B -/
abbrev Wy (tb : Tables) (e : Env) (below : List Frame) (A B : State) : Prop := ∀ t, Steps tb e below B t → Steps tb e below A t
def F2 (ax : Int32) : Int32 := (if ax < (48 : Int32) then (0 : Int32) else (if (57 : Int32) < ax then (0 : Int32) else (1 : Int32)))
theorem d2_0 : decode prog_33_method_24_code 0 = .ok (.iload_n 0, 1) := by decide +kernel
theorem d2_1 : decode prog_33_method_24_code 1 = .ok (.bipush 48, 2) := by decide +kernel
theorem d2_3 : decode prog_33_method_24_code 3 = .ok (.if_icmp .lt 13, 3) := by decide +kernel
theorem d2_6 : decode prog_33_method_24_code 6 = .ok (.iload_n 0, 1) := by decide +kernel
theorem d2_7 : decode prog_33_method_24_code 7 = .ok (.bipush 57, 2) := by decide +kernel
theorem d2_9 : decode prog_33_method_24_code 9 = .ok (.if_icmp .gt 7, 3) := by decide +kernel
theorem d2_12 : decode prog_33_method_24_code 12 = .ok (.iconst 1, 1) := by decide +kernel
theorem d2_13 : decode prog_33_method_24_code 13 = .ok (.goto 4, 3) := by decide +kernel
theorem d2_16 : decode prog_33_method_24_code 16 = .ok (.iconst 0, 1) := by decide +kernel
theorem d2_17 : decode prog_33_method_24_code 17 = .ok (.ireturn, 1) := by decide +kernel
theorem pn_com_example_dandelion_dandelion_UriParts : plainName "com/example/dandelion/dandelion/UriParts" = true := by first | (simp [plainName, overriddenIn]; done) | decide +kernel
theorem ef_rm2 (m : MethodId) (ax : Int32)  : entryFrame m #[(.int ax)] 1 = (mkF m 0 #[.val (.int ax)] []) := by first | (simp [entryFrame, mkF, argsToLocals, Value.category]; done) | rfl
def Q2 (Z : State) (ax : Int32) (h0 : Heap) (n0 : Nat) (v : Option Value) (h : Heap) (L : List Loc) : Prop := v = some (.int (F2 ax)) ∧ Fr n0 L ∧ h = h0
set_option maxRecDepth 65536 in
set_option maxHeartbeats 40000000 in
theorem rm2 (l : Launch) (Z : State) (a0 : Array Value) (hw : ∀ d ∈ tables_1, d.before a0 Z = true) (ws : List Jvm.Cond) (ax : Int32) (h0 : Heap) (n0 : Nat) (Z0 : n0 ≤ h0.size)  :
    MetFree l (⟨"com/example/dandelion/dandelion/UriParts", "isDigit", "(C)Z"⟩ : MethodName) (head1 (Jvm.Cond.code (⟨"com/example/dandelion/dandelion/UriParts", "isDigit", "(C)Z"⟩ : MethodName) prog_33_method_24_code 1 (some .boolean) :: ws) ({ frames := 0, cells := 0, slots := 0, locals := 0 } : Room)) (fun a U => a = #[(.int ax)] ∧ Z.Warmed39 U.vm ∧ U.heap = h0) (fun _ _ _ _ _ => True) (fun _ U o U' => ∃ v L, o = .returned v ∧ Q2 Z ax h0 n0 v U'.heap L ∧ FrameEnd U o U' L ({ frames := 0, cells := 0, slots := 0, locals := 0 } : Room).cells ({ frames := 0, cells := 0, slots := 0, locals := 0 } : Room).slots) := by
  refine MetFree.of_bodySF (plainFor_of_name pn_com_example_dandelion_dandelion_UriParts) hisR ?_
  intro p e s m args below meth c s₁ Bd hml0 hP hK
  obtain ⟨rfl, hZ, hh⟩ := hP
  have hx := Bd.exec
  have hby := Bd.bytes
  have hml : c.maxLocals = 1 := hml0
  have hown : s.vm.findClass "com/example/dandelion/dandelion/UriParts" = some m.cls := findClass_of_methodNamed Bd.named
  have hnm := (name_of_methodNamed Bd.named Bd.method).1
  have X0 : Stand p l e ({ frames := 0, cells := 0, slots := 0, locals := 0 } : Room) s m #[(.int ax)] below meth c s₁ [] 0 0 := Stand.of_body Bd
  have e0 : s₁.heap = h0 := by rw [← hh, Bd.state]; rfl
  have N0 := Fr.nil n0
  have P0 : Wy p.tables e below (s₁.setTop (entryFrame m #[(.int ax)] 1)) (s₁.setTop (mkF m 0 #[.val (.int ax)] [])) := fun t k => castTop (ef_rm2 m ax) k
  have P1 : Wy p.tables e below (s₁.setTop (entryFrame m #[(.int ax)] 1)) (s₁.setTop (mkF m 3 #[.val (.int ax)] [(.int (48 : Int32)), (.int ax)])) := fun t k => P0 t (by
    show Steps p.tables e below (s₁.setTop (mkF m 0 #[.val (.int ax)] [])) _
    refine XS.iloadN X0.here hx rfl (hb hby d2_0) rfl  ?_
    show Steps p.tables e below (s₁.setTop (mkF m 1 #[.val (.int ax)] [(.int ax)])) _
    refine XS.bipush X0.here hx rfl (hb hby d2_1) ?_
    exact k)
  by_cases hc3_2 : ax < (48 : Int32)
  · have P3 : Wy p.tables e below (s₁.setTop (entryFrame m #[(.int ax)] 1)) (s₁.setTop (mkF m 17 #[.val (.int ax)] [(.int (0 : Int32))])) := fun t k => P1 t (by
      show Steps p.tables e below (s₁.setTop (mkF m 3 #[.val (.int ax)] [(.int (48 : Int32)), (.int ax)])) _
      refine XS.icmpYes X0.here hx rfl (pc0 := 3) (pc' := 16) rfl (hb hby d2_3) rfl (tlt hc3_2).1 (by decide) (by decide) ?_
      show Steps p.tables e below (s₁.setTop (mkF m 16 #[.val (.int ax)] [])) _
      refine XS.iconst X0.here hx rfl (hb hby d2_16) ?_
      exact k)
    obtain ⟨fs, hr, hrun, hended, hW, hsame⟩ := X0.leave (v := some (.int (nar .boolean (0 : Int32)))) (fun h => by rw [Bd.returns] at h; cases h)
    refine ⟨_, _, P3 _ ?_, hrun, hended, _, _, rfl, ?_, ⟨_, rfl⟩, hW, hsame.mono (by decide) (by decide)⟩
    · show Steps p.tables e below (s₁.setTop (mkF m 17 #[.val (.int ax)] [(.int (0 : Int32))])) _
      exact retN X0 hx (t := .boolean) Bd.returns (by simp) (hb hby d2_17) hr
    · show Q2 Z ax h0 n0 _ s₁.heap _
      rw [e0]
      exact ⟨congrArg (fun z => some (Value.int z)) (show _ = F2 ax from by simp only [F2, if_pos hc3_2]; try rfl), N0, rfl⟩
  · have P4 : Wy p.tables e below (s₁.setTop (entryFrame m #[(.int ax)] 1)) (s₁.setTop (mkF m 9 #[.val (.int ax)] [(.int (57 : Int32)), (.int ax)])) := fun t k => P1 t (by
      show Steps p.tables e below (s₁.setTop (mkF m 3 #[.val (.int ax)] [(.int (48 : Int32)), (.int ax)])) _
      refine XS.icmpNo X0.here hx rfl (hb hby d2_3) rfl (flt hc3_2).1 ?_
      show Steps p.tables e below (s₁.setTop (mkF m 6 #[.val (.int ax)] [])) _
      refine XS.iloadN X0.here hx rfl (hb hby d2_6) rfl  ?_
      show Steps p.tables e below (s₁.setTop (mkF m 7 #[.val (.int ax)] [(.int ax)])) _
      refine XS.bipush X0.here hx rfl (hb hby d2_7) ?_
      exact k)
    by_cases hc9_5 : (57 : Int32) < ax
    · have P6 : Wy p.tables e below (s₁.setTop (entryFrame m #[(.int ax)] 1)) (s₁.setTop (mkF m 17 #[.val (.int ax)] [(.int (0 : Int32))])) := fun t k => P4 t (by
        show Steps p.tables e below (s₁.setTop (mkF m 9 #[.val (.int ax)] [(.int (57 : Int32)), (.int ax)])) _
        refine XS.icmpYes X0.here hx rfl (pc0 := 9) (pc' := 16) rfl (hb hby d2_9) rfl (tlt hc9_5).2.2.1 (by decide) (by decide) ?_
        show Steps p.tables e below (s₁.setTop (mkF m 16 #[.val (.int ax)] [])) _
        refine XS.iconst X0.here hx rfl (hb hby d2_16) ?_
        exact k)
      obtain ⟨fs, hr, hrun, hended, hW, hsame⟩ := X0.leave (v := some (.int (nar .boolean (0 : Int32)))) (fun h => by rw [Bd.returns] at h; cases h)
      refine ⟨_, _, P6 _ ?_, hrun, hended, _, _, rfl, ?_, ⟨_, rfl⟩, hW, hsame.mono (by decide) (by decide)⟩
      · show Steps p.tables e below (s₁.setTop (mkF m 17 #[.val (.int ax)] [(.int (0 : Int32))])) _
        exact retN X0 hx (t := .boolean) Bd.returns (by simp) (hb hby d2_17) hr
      · show Q2 Z ax h0 n0 _ s₁.heap _
        rw [e0]
        exact ⟨congrArg (fun z => some (Value.int z)) (show _ = F2 ax from by simp only [F2, if_neg hc3_2, if_pos hc9_5]; try rfl), N0, rfl⟩
    · have P7 : Wy p.tables e below (s₁.setTop (entryFrame m #[(.int ax)] 1)) (s₁.setTop (mkF m 17 #[.val (.int ax)] [(.int (1 : Int32))])) := fun t k => P4 t (by
        show Steps p.tables e below (s₁.setTop (mkF m 9 #[.val (.int ax)] [(.int (57 : Int32)), (.int ax)])) _
        refine XS.icmpNo X0.here hx rfl (hb hby d2_9) rfl (flt hc9_5).2.2.1 ?_
        show Steps p.tables e below (s₁.setTop (mkF m 12 #[.val (.int ax)] [])) _
        refine XS.iconst X0.here hx rfl (hb hby d2_12) ?_
        show Steps p.tables e below (s₁.setTop (mkF m 13 #[.val (.int ax)] [(.int (1 : Int32))])) _
        refine XS.goto X0.here hx rfl (pc0 := 13) (pc' := 17) rfl (hb hby d2_13) (by decide) (by decide) ?_
        exact k)
      obtain ⟨fs, hr, hrun, hended, hW, hsame⟩ := X0.leave (v := some (.int (nar .boolean (1 : Int32)))) (fun h => by rw [Bd.returns] at h; cases h)
      refine ⟨_, _, P7 _ ?_, hrun, hended, _, _, rfl, ?_, ⟨_, rfl⟩, hW, hsame.mono (by decide) (by decide)⟩
      · show Steps p.tables e below (s₁.setTop (mkF m 17 #[.val (.int ax)] [(.int (1 : Int32))])) _
        exact retN X0 hx (t := .boolean) Bd.returns (by simp) (hb hby d2_17) hr
      · show Q2 Z ax h0 n0 _ s₁.heap _
        rw [e0]
        exact ⟨congrArg (fun z => some (Value.int z)) (show _ = F2 ax from by simp only [F2, if_neg hc3_2, if_neg hc9_5]; try rfl), N0, rfl⟩
def F1 (ax : Int32) : Int32 := (if (F2 ax) = (0 : Int32) then (if ax < (65 : Int32) then (if ax < (97 : Int32) then (0 : Int32) else (if (102 : Int32) < ax then (0 : Int32) else (1 : Int32))) else (if (70 : Int32) < ax then (if ax < (97 : Int32) then (0 : Int32) else (if (102 : Int32) < ax then (0 : Int32) else (1 : Int32))) else (1 : Int32))) else (1 : Int32))
theorem d1_0 : decode prog_33_method_25_code 0 = .ok (.iload_n 0, 1) := by decide +kernel
theorem d1_1 : decode prog_33_method_25_code 1 = .ok (.invokestatic 89, 3) := by decide +kernel
theorem d1_4 : decode prog_33_method_25_code 4 = .ok (.ifCond .ne 27, 3) := by decide +kernel
theorem d1_7 : decode prog_33_method_25_code 7 = .ok (.iload_n 0, 1) := by decide +kernel
theorem d1_8 : decode prog_33_method_25_code 8 = .ok (.bipush 65, 2) := by decide +kernel
theorem d1_10 : decode prog_33_method_25_code 10 = .ok (.if_icmp .lt 9, 3) := by decide +kernel
theorem d1_13 : decode prog_33_method_25_code 13 = .ok (.iload_n 0, 1) := by decide +kernel
theorem d1_14 : decode prog_33_method_25_code 14 = .ok (.bipush 70, 2) := by decide +kernel
theorem d1_16 : decode prog_33_method_25_code 16 = .ok (.if_icmp .le 15, 3) := by decide +kernel
theorem d1_19 : decode prog_33_method_25_code 19 = .ok (.iload_n 0, 1) := by decide +kernel
theorem d1_20 : decode prog_33_method_25_code 20 = .ok (.bipush 97, 2) := by decide +kernel
theorem d1_22 : decode prog_33_method_25_code 22 = .ok (.if_icmp .lt 13, 3) := by decide +kernel
theorem d1_25 : decode prog_33_method_25_code 25 = .ok (.iload_n 0, 1) := by decide +kernel
theorem d1_26 : decode prog_33_method_25_code 26 = .ok (.bipush 102, 2) := by decide +kernel
theorem d1_28 : decode prog_33_method_25_code 28 = .ok (.if_icmp .gt 7, 3) := by decide +kernel
theorem d1_31 : decode prog_33_method_25_code 31 = .ok (.iconst 1, 1) := by decide +kernel
theorem d1_32 : decode prog_33_method_25_code 32 = .ok (.goto 4, 3) := by decide +kernel
theorem d1_35 : decode prog_33_method_25_code 35 = .ok (.iconst 0, 1) := by decide +kernel
theorem d1_36 : decode prog_33_method_25_code 36 = .ok (.ireturn, 1) := by decide +kernel
theorem pd_lCrZ : parseMethodDescriptor "(C)Z" = some ⟨[.char], some .boolean⟩ := by decide +kernel
theorem ef_rm1 (m : MethodId) (ax : Int32)  : entryFrame m #[(.int ax)] 1 = (mkF m 0 #[.val (.int ax)] []) := by first | (simp [entryFrame, mkF, argsToLocals, Value.category]; done) | rfl
def Q1 (Z : State) (ax : Int32) (h0 : Heap) (n0 : Nat) (v : Option Value) (h : Heap) (L : List Loc) : Prop := v = some (.int (F1 ax)) ∧ Fr n0 L ∧ h = h0
set_option maxRecDepth 65536 in
set_option maxHeartbeats 40000000 in
theorem rm1 (l : Launch) (Z : State) (a0 : Array Value) (hw : ∀ d ∈ tables_1, d.before a0 Z = true) (ws : List Jvm.Cond) (ax : Int32) (h0 : Heap) (n0 : Nat) (Z0 : n0 ≤ h0.size)  :
    MetFree l (⟨"com/example/dandelion/dandelion/UriParts", "isHexDigit", "(C)Z"⟩ : MethodName) (head1 (Jvm.Cond.code (⟨"com/example/dandelion/dandelion/UriParts", "isHexDigit", "(C)Z"⟩ : MethodName) prog_33_method_25_code 1 (some .boolean) :: ws) ({ frames := 1, cells := 0, slots := 0, locals := 12 } : Room)) (fun a U => a = #[(.int ax)] ∧ Z.Warmed39 U.vm ∧ U.heap = h0) (fun _ _ _ _ _ => True) (fun _ U o U' => ∃ v L, o = .returned v ∧ Q1 Z ax h0 n0 v U'.heap L ∧ FrameEnd U o U' L ({ frames := 1, cells := 0, slots := 0, locals := 12 } : Room).cells ({ frames := 1, cells := 0, slots := 0, locals := 12 } : Room).slots) := by
  refine MetFree.of_bodySF (plainFor_of_name pn_com_example_dandelion_dandelion_UriParts) hisR ?_
  intro p e s m args below meth c s₁ Bd hml0 hP hK
  obtain ⟨rfl, hZ, hh⟩ := hP
  have hx := Bd.exec
  have hby := Bd.bytes
  have hml : c.maxLocals = 1 := hml0
  have hown : s.vm.findClass "com/example/dandelion/dandelion/UriParts" = some m.cls := findClass_of_methodNamed Bd.named
  have hnm := (name_of_methodNamed Bd.named Bd.method).1
  have X0 : Stand p l e ({ frames := 1, cells := 0, slots := 0, locals := 12 } : Room) s m #[(.int ax)] below meth c s₁ [] 0 0 := Stand.of_body Bd
  have e0 : s₁.heap = h0 := by rw [← hh, Bd.state]; rfl
  have N0 := Fr.nil n0
  have P0 : Wy p.tables e below (s₁.setTop (entryFrame m #[(.int ax)] 1)) (s₁.setTop (mkF m 0 #[.val (.int ax)] [])) := fun t k => castTop (ef_rm1 m ax) k
  have P1 : Wy p.tables e below (s₁.setTop (entryFrame m #[(.int ax)] 1)) (s₁.setTop (mkF m 1 #[.val (.int ax)] [(.int ax)])) := fun t k => P0 t (by
    show Steps p.tables e below (s₁.setTop (mkF m 0 #[.val (.int ax)] [])) _
    refine XS.iloadN X0.here hx rfl (hb hby d1_0) rfl  ?_
    exact k)
  obtain ⟨_, _, ⟨T2, L2, k2, n2⟩, -, X2, ⟨Lc2, hQ2, l2, y2, z2⟩, st2⟩ := Jvm.LawKit.callS X0 hx (y := (⟨"com/example/dandelion/dandelion/UriParts", "isDigit", "(C)Z"⟩ : MethodName)) hown (mvT hZ (hw _ (List.mem_of_getElem? (i := 5) rfl))) (mvT hZ (hw _ (List.mem_of_getElem? (i := 6) rfl))) (mvT hZ (hw _ (List.mem_of_getElem? (i := 3) rfl))) (mvT hZ (hw _ (List.mem_of_getElem? (i := 7) rfl))) (by decide) (backOf (W := 0) (rm2 l Z a0 hw [] ax h0 n0 Z0 ) hZ (hw _ (List.mem_of_getElem? (i := 7) rfl)) (hw _ (List.mem_of_getElem? (i := 3) rfl)) (by decide) (by decide)) (g := (mkF m 1 #[.val (.int ax)] [(.int ax)])) rfl (by rw [hml]; rfl) (argsL := [(.int ax)]) (rest := []) (lenOf pd_lCrZ rfl) rfl (by show 2 * 0 + _ ≤ _; exact Nat.le_of_eq rfl) (hb hby d1_1) (fun _ _ => ⟨rfl, e0, (by decide : 0 + 0 ≤ _), (by decide : 0 + 0 ≤ _)⟩)
  dsimp only [Pt.U, Pt.locs, Pt.cells, Pt.slots] at X2 l2 y2 z2 st2 hQ2
  subst l2 y2 z2
  obtain ⟨rfl, N2q, e2⟩ := hQ2
  have N2 := Fr.app N0 N2q
  have P3 : Wy p.tables e below (s₁.setTop (entryFrame m #[(.int ax)] 1)) (T2.setTop (mkF m 4 #[.val (.int ax)] [(.int (F2 ax))])) := fun t k => P1 t (st2 _ k)
  by_cases hc4_4 : (F2 ax) = (0 : Int32)
  · have P5 : Wy p.tables e below (s₁.setTop (entryFrame m #[(.int ax)] 1)) (T2.setTop (mkF m 10 #[.val (.int ax)] [(.int (65 : Int32)), (.int ax)])) := fun t k => P3 t (by
      show Steps p.tables e below (T2.setTop (mkF m 4 #[.val (.int ax)] [(.int (F2 ax))])) _
      refine XS.ifNo X2.here hx rfl (hb hby d1_4) rfl ((if0 _ _).trans (teq hc4_4).2) ?_
      show Steps p.tables e below (T2.setTop (mkF m 7 #[.val (.int ax)] [])) _
      refine XS.iloadN X2.here hx rfl (hb hby d1_7) rfl  ?_
      show Steps p.tables e below (T2.setTop (mkF m 8 #[.val (.int ax)] [(.int ax)])) _
      refine XS.bipush X2.here hx rfl (hb hby d1_8) ?_
      exact k)
    by_cases hc10_6 : ax < (65 : Int32)
    · have P7 : Wy p.tables e below (s₁.setTop (entryFrame m #[(.int ax)] 1)) (T2.setTop (mkF m 22 #[.val (.int ax)] [(.int (97 : Int32)), (.int ax)])) := fun t k => P5 t (by
        show Steps p.tables e below (T2.setTop (mkF m 10 #[.val (.int ax)] [(.int (65 : Int32)), (.int ax)])) _
        refine XS.icmpYes X2.here hx rfl (pc0 := 10) (pc' := 19) rfl (hb hby d1_10) rfl (tlt hc10_6).1 (by decide) (by decide) ?_
        show Steps p.tables e below (T2.setTop (mkF m 19 #[.val (.int ax)] [])) _
        refine XS.iloadN X2.here hx rfl (hb hby d1_19) rfl  ?_
        show Steps p.tables e below (T2.setTop (mkF m 20 #[.val (.int ax)] [(.int ax)])) _
        refine XS.bipush X2.here hx rfl (hb hby d1_20) ?_
        exact k)
      by_cases hc22_8 : ax < (97 : Int32)
      · have P9 : Wy p.tables e below (s₁.setTop (entryFrame m #[(.int ax)] 1)) (T2.setTop (mkF m 36 #[.val (.int ax)] [(.int (0 : Int32))])) := fun t k => P7 t (by
          show Steps p.tables e below (T2.setTop (mkF m 22 #[.val (.int ax)] [(.int (97 : Int32)), (.int ax)])) _
          refine XS.icmpYes X2.here hx rfl (pc0 := 22) (pc' := 35) rfl (hb hby d1_22) rfl (tlt hc22_8).1 (by decide) (by decide) ?_
          show Steps p.tables e below (T2.setTop (mkF m 35 #[.val (.int ax)] [])) _
          refine XS.iconst X2.here hx rfl (hb hby d1_35) ?_
          exact k)
        obtain ⟨fs, hr, hrun, hended, hW, hsame⟩ := X2.leave (v := some (.int (nar .boolean (0 : Int32)))) (fun h => by rw [Bd.returns] at h; cases h)
        refine ⟨_, _, P9 _ ?_, hrun, hended, _, _, rfl, ?_, ⟨_, rfl⟩, hW, hsame.mono (by decide) (by decide)⟩
        · show Steps p.tables e below (T2.setTop (mkF m 36 #[.val (.int ax)] [(.int (0 : Int32))])) _
          exact retN X2 hx (t := .boolean) Bd.returns (by simp) (hb hby d1_36) hr
        · show Q1 Z ax h0 n0 _ T2.heap _
          rw [e2]
          exact ⟨congrArg (fun z => some (Value.int z)) (show _ = F1 ax from by simp only [F1, if_pos hc4_4, if_pos hc10_6, if_pos hc22_8]; try rfl), N2, rfl⟩
      · have P10 : Wy p.tables e below (s₁.setTop (entryFrame m #[(.int ax)] 1)) (T2.setTop (mkF m 28 #[.val (.int ax)] [(.int (102 : Int32)), (.int ax)])) := fun t k => P7 t (by
          show Steps p.tables e below (T2.setTop (mkF m 22 #[.val (.int ax)] [(.int (97 : Int32)), (.int ax)])) _
          refine XS.icmpNo X2.here hx rfl (hb hby d1_22) rfl (flt hc22_8).1 ?_
          show Steps p.tables e below (T2.setTop (mkF m 25 #[.val (.int ax)] [])) _
          refine XS.iloadN X2.here hx rfl (hb hby d1_25) rfl  ?_
          show Steps p.tables e below (T2.setTop (mkF m 26 #[.val (.int ax)] [(.int ax)])) _
          refine XS.bipush X2.here hx rfl (hb hby d1_26) ?_
          exact k)
        by_cases hc28_11 : (102 : Int32) < ax
        · have P12 : Wy p.tables e below (s₁.setTop (entryFrame m #[(.int ax)] 1)) (T2.setTop (mkF m 36 #[.val (.int ax)] [(.int (0 : Int32))])) := fun t k => P10 t (by
            show Steps p.tables e below (T2.setTop (mkF m 28 #[.val (.int ax)] [(.int (102 : Int32)), (.int ax)])) _
            refine XS.icmpYes X2.here hx rfl (pc0 := 28) (pc' := 35) rfl (hb hby d1_28) rfl (tlt hc28_11).2.2.1 (by decide) (by decide) ?_
            show Steps p.tables e below (T2.setTop (mkF m 35 #[.val (.int ax)] [])) _
            refine XS.iconst X2.here hx rfl (hb hby d1_35) ?_
            exact k)
          obtain ⟨fs, hr, hrun, hended, hW, hsame⟩ := X2.leave (v := some (.int (nar .boolean (0 : Int32)))) (fun h => by rw [Bd.returns] at h; cases h)
          refine ⟨_, _, P12 _ ?_, hrun, hended, _, _, rfl, ?_, ⟨_, rfl⟩, hW, hsame.mono (by decide) (by decide)⟩
          · show Steps p.tables e below (T2.setTop (mkF m 36 #[.val (.int ax)] [(.int (0 : Int32))])) _
            exact retN X2 hx (t := .boolean) Bd.returns (by simp) (hb hby d1_36) hr
          · show Q1 Z ax h0 n0 _ T2.heap _
            rw [e2]
            exact ⟨congrArg (fun z => some (Value.int z)) (show _ = F1 ax from by simp only [F1, if_pos hc4_4, if_pos hc10_6, if_neg hc22_8, if_pos hc28_11]; try rfl), N2, rfl⟩
        · have P13 : Wy p.tables e below (s₁.setTop (entryFrame m #[(.int ax)] 1)) (T2.setTop (mkF m 36 #[.val (.int ax)] [(.int (1 : Int32))])) := fun t k => P10 t (by
            show Steps p.tables e below (T2.setTop (mkF m 28 #[.val (.int ax)] [(.int (102 : Int32)), (.int ax)])) _
            refine XS.icmpNo X2.here hx rfl (hb hby d1_28) rfl (flt hc28_11).2.2.1 ?_
            show Steps p.tables e below (T2.setTop (mkF m 31 #[.val (.int ax)] [])) _
            refine XS.iconst X2.here hx rfl (hb hby d1_31) ?_
            show Steps p.tables e below (T2.setTop (mkF m 32 #[.val (.int ax)] [(.int (1 : Int32))])) _
            refine XS.goto X2.here hx rfl (pc0 := 32) (pc' := 36) rfl (hb hby d1_32) (by decide) (by decide) ?_
            exact k)
          obtain ⟨fs, hr, hrun, hended, hW, hsame⟩ := X2.leave (v := some (.int (nar .boolean (1 : Int32)))) (fun h => by rw [Bd.returns] at h; cases h)
          refine ⟨_, _, P13 _ ?_, hrun, hended, _, _, rfl, ?_, ⟨_, rfl⟩, hW, hsame.mono (by decide) (by decide)⟩
          · show Steps p.tables e below (T2.setTop (mkF m 36 #[.val (.int ax)] [(.int (1 : Int32))])) _
            exact retN X2 hx (t := .boolean) Bd.returns (by simp) (hb hby d1_36) hr
          · show Q1 Z ax h0 n0 _ T2.heap _
            rw [e2]
            exact ⟨congrArg (fun z => some (Value.int z)) (show _ = F1 ax from by simp only [F1, if_pos hc4_4, if_pos hc10_6, if_neg hc22_8, if_neg hc28_11]; try rfl), N2, rfl⟩
    · have P14 : Wy p.tables e below (s₁.setTop (entryFrame m #[(.int ax)] 1)) (T2.setTop (mkF m 16 #[.val (.int ax)] [(.int (70 : Int32)), (.int ax)])) := fun t k => P5 t (by
        show Steps p.tables e below (T2.setTop (mkF m 10 #[.val (.int ax)] [(.int (65 : Int32)), (.int ax)])) _
        refine XS.icmpNo X2.here hx rfl (hb hby d1_10) rfl (flt hc10_6).1 ?_
        show Steps p.tables e below (T2.setTop (mkF m 13 #[.val (.int ax)] [])) _
        refine XS.iloadN X2.here hx rfl (hb hby d1_13) rfl  ?_
        show Steps p.tables e below (T2.setTop (mkF m 14 #[.val (.int ax)] [(.int ax)])) _
        refine XS.bipush X2.here hx rfl (hb hby d1_14) ?_
        exact k)
      by_cases hc16_15 : (70 : Int32) < ax
      · have P16 : Wy p.tables e below (s₁.setTop (entryFrame m #[(.int ax)] 1)) (T2.setTop (mkF m 22 #[.val (.int ax)] [(.int (97 : Int32)), (.int ax)])) := fun t k => P14 t (by
          show Steps p.tables e below (T2.setTop (mkF m 16 #[.val (.int ax)] [(.int (70 : Int32)), (.int ax)])) _
          refine XS.icmpNo X2.here hx rfl (hb hby d1_16) rfl (tlt hc16_15).2.2.2 ?_
          show Steps p.tables e below (T2.setTop (mkF m 19 #[.val (.int ax)] [])) _
          refine XS.iloadN X2.here hx rfl (hb hby d1_19) rfl  ?_
          show Steps p.tables e below (T2.setTop (mkF m 20 #[.val (.int ax)] [(.int ax)])) _
          refine XS.bipush X2.here hx rfl (hb hby d1_20) ?_
          exact k)
        by_cases hc22_17 : ax < (97 : Int32)
        · have P18 : Wy p.tables e below (s₁.setTop (entryFrame m #[(.int ax)] 1)) (T2.setTop (mkF m 36 #[.val (.int ax)] [(.int (0 : Int32))])) := fun t k => P16 t (by
            show Steps p.tables e below (T2.setTop (mkF m 22 #[.val (.int ax)] [(.int (97 : Int32)), (.int ax)])) _
            refine XS.icmpYes X2.here hx rfl (pc0 := 22) (pc' := 35) rfl (hb hby d1_22) rfl (tlt hc22_17).1 (by decide) (by decide) ?_
            show Steps p.tables e below (T2.setTop (mkF m 35 #[.val (.int ax)] [])) _
            refine XS.iconst X2.here hx rfl (hb hby d1_35) ?_
            exact k)
          obtain ⟨fs, hr, hrun, hended, hW, hsame⟩ := X2.leave (v := some (.int (nar .boolean (0 : Int32)))) (fun h => by rw [Bd.returns] at h; cases h)
          refine ⟨_, _, P18 _ ?_, hrun, hended, _, _, rfl, ?_, ⟨_, rfl⟩, hW, hsame.mono (by decide) (by decide)⟩
          · show Steps p.tables e below (T2.setTop (mkF m 36 #[.val (.int ax)] [(.int (0 : Int32))])) _
            exact retN X2 hx (t := .boolean) Bd.returns (by simp) (hb hby d1_36) hr
          · show Q1 Z ax h0 n0 _ T2.heap _
            rw [e2]
            exact ⟨congrArg (fun z => some (Value.int z)) (show _ = F1 ax from by simp only [F1, if_pos hc4_4, if_neg hc10_6, if_pos hc16_15, if_pos hc22_17]; try rfl), N2, rfl⟩
        · have P19 : Wy p.tables e below (s₁.setTop (entryFrame m #[(.int ax)] 1)) (T2.setTop (mkF m 28 #[.val (.int ax)] [(.int (102 : Int32)), (.int ax)])) := fun t k => P16 t (by
            show Steps p.tables e below (T2.setTop (mkF m 22 #[.val (.int ax)] [(.int (97 : Int32)), (.int ax)])) _
            refine XS.icmpNo X2.here hx rfl (hb hby d1_22) rfl (flt hc22_17).1 ?_
            show Steps p.tables e below (T2.setTop (mkF m 25 #[.val (.int ax)] [])) _
            refine XS.iloadN X2.here hx rfl (hb hby d1_25) rfl  ?_
            show Steps p.tables e below (T2.setTop (mkF m 26 #[.val (.int ax)] [(.int ax)])) _
            refine XS.bipush X2.here hx rfl (hb hby d1_26) ?_
            exact k)
          by_cases hc28_20 : (102 : Int32) < ax
          · have P21 : Wy p.tables e below (s₁.setTop (entryFrame m #[(.int ax)] 1)) (T2.setTop (mkF m 36 #[.val (.int ax)] [(.int (0 : Int32))])) := fun t k => P19 t (by
              show Steps p.tables e below (T2.setTop (mkF m 28 #[.val (.int ax)] [(.int (102 : Int32)), (.int ax)])) _
              refine XS.icmpYes X2.here hx rfl (pc0 := 28) (pc' := 35) rfl (hb hby d1_28) rfl (tlt hc28_20).2.2.1 (by decide) (by decide) ?_
              show Steps p.tables e below (T2.setTop (mkF m 35 #[.val (.int ax)] [])) _
              refine XS.iconst X2.here hx rfl (hb hby d1_35) ?_
              exact k)
            obtain ⟨fs, hr, hrun, hended, hW, hsame⟩ := X2.leave (v := some (.int (nar .boolean (0 : Int32)))) (fun h => by rw [Bd.returns] at h; cases h)
            refine ⟨_, _, P21 _ ?_, hrun, hended, _, _, rfl, ?_, ⟨_, rfl⟩, hW, hsame.mono (by decide) (by decide)⟩
            · show Steps p.tables e below (T2.setTop (mkF m 36 #[.val (.int ax)] [(.int (0 : Int32))])) _
              exact retN X2 hx (t := .boolean) Bd.returns (by simp) (hb hby d1_36) hr
            · show Q1 Z ax h0 n0 _ T2.heap _
              rw [e2]
              exact ⟨congrArg (fun z => some (Value.int z)) (show _ = F1 ax from by simp only [F1, if_pos hc4_4, if_neg hc10_6, if_pos hc16_15, if_neg hc22_17, if_pos hc28_20]; try rfl), N2, rfl⟩
          · have P22 : Wy p.tables e below (s₁.setTop (entryFrame m #[(.int ax)] 1)) (T2.setTop (mkF m 36 #[.val (.int ax)] [(.int (1 : Int32))])) := fun t k => P19 t (by
              show Steps p.tables e below (T2.setTop (mkF m 28 #[.val (.int ax)] [(.int (102 : Int32)), (.int ax)])) _
              refine XS.icmpNo X2.here hx rfl (hb hby d1_28) rfl (flt hc28_20).2.2.1 ?_
              show Steps p.tables e below (T2.setTop (mkF m 31 #[.val (.int ax)] [])) _
              refine XS.iconst X2.here hx rfl (hb hby d1_31) ?_
              show Steps p.tables e below (T2.setTop (mkF m 32 #[.val (.int ax)] [(.int (1 : Int32))])) _
              refine XS.goto X2.here hx rfl (pc0 := 32) (pc' := 36) rfl (hb hby d1_32) (by decide) (by decide) ?_
              exact k)
            obtain ⟨fs, hr, hrun, hended, hW, hsame⟩ := X2.leave (v := some (.int (nar .boolean (1 : Int32)))) (fun h => by rw [Bd.returns] at h; cases h)
            refine ⟨_, _, P22 _ ?_, hrun, hended, _, _, rfl, ?_, ⟨_, rfl⟩, hW, hsame.mono (by decide) (by decide)⟩
            · show Steps p.tables e below (T2.setTop (mkF m 36 #[.val (.int ax)] [(.int (1 : Int32))])) _
              exact retN X2 hx (t := .boolean) Bd.returns (by simp) (hb hby d1_36) hr
            · show Q1 Z ax h0 n0 _ T2.heap _
              rw [e2]
              exact ⟨congrArg (fun z => some (Value.int z)) (show _ = F1 ax from by simp only [F1, if_pos hc4_4, if_neg hc10_6, if_pos hc16_15, if_neg hc22_17, if_neg hc28_20]; try rfl), N2, rfl⟩
      · have P23 : Wy p.tables e below (s₁.setTop (entryFrame m #[(.int ax)] 1)) (T2.setTop (mkF m 36 #[.val (.int ax)] [(.int (1 : Int32))])) := fun t k => P14 t (by
          show Steps p.tables e below (T2.setTop (mkF m 16 #[.val (.int ax)] [(.int (70 : Int32)), (.int ax)])) _
          refine XS.icmpYes X2.here hx rfl (pc0 := 16) (pc' := 31) rfl (hb hby d1_16) rfl (flt hc16_15).2.2.2 (by decide) (by decide) ?_
          show Steps p.tables e below (T2.setTop (mkF m 31 #[.val (.int ax)] [])) _
          refine XS.iconst X2.here hx rfl (hb hby d1_31) ?_
          show Steps p.tables e below (T2.setTop (mkF m 32 #[.val (.int ax)] [(.int (1 : Int32))])) _
          refine XS.goto X2.here hx rfl (pc0 := 32) (pc' := 36) rfl (hb hby d1_32) (by decide) (by decide) ?_
          exact k)
        obtain ⟨fs, hr, hrun, hended, hW, hsame⟩ := X2.leave (v := some (.int (nar .boolean (1 : Int32)))) (fun h => by rw [Bd.returns] at h; cases h)
        refine ⟨_, _, P23 _ ?_, hrun, hended, _, _, rfl, ?_, ⟨_, rfl⟩, hW, hsame.mono (by decide) (by decide)⟩
        · show Steps p.tables e below (T2.setTop (mkF m 36 #[.val (.int ax)] [(.int (1 : Int32))])) _
          exact retN X2 hx (t := .boolean) Bd.returns (by simp) (hb hby d1_36) hr
        · show Q1 Z ax h0 n0 _ T2.heap _
          rw [e2]
          exact ⟨congrArg (fun z => some (Value.int z)) (show _ = F1 ax from by simp only [F1, if_pos hc4_4, if_neg hc10_6, if_neg hc16_15]; try rfl), N2, rfl⟩
  · have P24 : Wy p.tables e below (s₁.setTop (entryFrame m #[(.int ax)] 1)) (T2.setTop (mkF m 36 #[.val (.int ax)] [(.int (1 : Int32))])) := fun t k => P3 t (by
      show Steps p.tables e below (T2.setTop (mkF m 4 #[.val (.int ax)] [(.int (F2 ax))])) _
      refine XS.ifYes X2.here hx rfl (pc0 := 4) (pc' := 31) rfl (hb hby d1_4) rfl ((if0 _ _).trans (feq hc4_4).2) (by decide) (by decide) ?_
      show Steps p.tables e below (T2.setTop (mkF m 31 #[.val (.int ax)] [])) _
      refine XS.iconst X2.here hx rfl (hb hby d1_31) ?_
      show Steps p.tables e below (T2.setTop (mkF m 32 #[.val (.int ax)] [(.int (1 : Int32))])) _
      refine XS.goto X2.here hx rfl (pc0 := 32) (pc' := 36) rfl (hb hby d1_32) (by decide) (by decide) ?_
      exact k)
    obtain ⟨fs, hr, hrun, hended, hW, hsame⟩ := X2.leave (v := some (.int (nar .boolean (1 : Int32)))) (fun h => by rw [Bd.returns] at h; cases h)
    refine ⟨_, _, P24 _ ?_, hrun, hended, _, _, rfl, ?_, ⟨_, rfl⟩, hW, hsame.mono (by decide) (by decide)⟩
    · show Steps p.tables e below (T2.setTop (mkF m 36 #[.val (.int ax)] [(.int (1 : Int32))])) _
      exact retN X2 hx (t := .boolean) Bd.returns (by simp) (hb hby d1_36) hr
    · show Q1 Z ax h0 n0 _ T2.heap _
      rw [e2]
      exact ⟨congrArg (fun z => some (Value.int z)) (show _ = F1 ax from by simp only [F1, if_neg hc4_4]; try rfl), N2, rfl⟩
theorem own_nat {c : Int32} (h : 0 ≤ c.toInt) : c = Int32.ofNat c.toInt.toNat := by
  apply Int32.toInt_inj.mp
  have h1 := c.toInt_lt
  rw [Int32.toInt_ofNat_of_lt (by omega)]
  omega
theorem own_lt {a b : Int32} : a < b ↔ a.toInt < b.toInt := Int32.lt_iff_toInt_lt
theorem own_ltF (k : Nat) (c : Int32) (h0 : 0 ≤ c.toInt) (h1 : c.toInt < k) : ∃ n : Fin k, c = Int32.ofNat n.val :=
  ⟨⟨c.toInt.toNat, by omega⟩, own_nat h0⟩
theorem own_rem (x y : Int32) (hx : 0 ≤ x.toInt) (hy : 0 < y.toInt) : (x - (x / y) * y).toInt = x.toInt % y.toInt := by
  have h1 := (c_idiv x y y.toInt rfl (by intro h; rw [h] at hy; exact absurd hy (by decide))).1 hx
  have h2 := c_imul (x / y) y
  have h3 := c_isub x ((x / y) * y)
  have r1 := rng32 ((x / y) * y)
  have r2 := rng32 (x - (x / y) * y)
  have r3 := rng32 x
  have r4 := rng32 y
  have e : x.toInt / y.toInt * y.toInt = x.toInt - x.toInt % y.toInt := by
    have := Int.emod_def x.toInt y.toInt
    rw [Int.mul_comm] at this
    omega
  rw [h1, e] at h2
  have b1 := Int.emod_nonneg x.toInt (show y.toInt ≠ 0 by omega)
  have b2 := Int.emod_lt_of_pos x.toInt hy
  have b3 : x.toInt % y.toInt ≤ x.toInt := by
    by_cases q : x.toInt < y.toInt
    · rw [Int.emod_eq_of_lt hx q]; omega
    · omega
  omega
theorem own_nm {a b : Addr} (h : a ≠ b) : a ∉ [b] := by simpa using h
theorem own_nm2 {a b c : Addr} (h : a ≠ b) (h2 : a ≠ c) : a ∉ [b, c] := by simp [h, h2]

theorem own_or (a b : Nat) (ha : a < 2 ^ 31) (hb : b < 2 ^ 31) : (Int32.ofNat a ||| Int32.ofNat b).toInt = ((a ||| b : Nat) : Int) := by
  have e : Int32.ofNat a ||| Int32.ofNat b = Int32.ofNat (a ||| b) := by
    apply Int32.toBitVec_inj.mp
    rw [Int32.toBitVec_or]
    show BitVec.ofNat 32 a ||| BitVec.ofNat 32 b = BitVec.ofNat 32 (a ||| b)
    rw [BitVec.ofNat_or]
  rw [e, Int32.toInt_ofNat_of_lt (Nat.or_lt_two_pow ha hb)]
def own_E1 (c : Int32) : Int32 := (if (c - (48 : Int32)) < (0 : Int32) then (0 : Int32) else (if (c - (48 : Int32)) < (10 : Int32) then (1 : Int32) else (0 : Int32)))
def own_E2 (c : Int32) : Int32 := (if ((c ||| (32 : Int32)) - (97 : Int32)) < (0 : Int32) then (0 : Int32) else (if ((c ||| (32 : Int32)) - (97 : Int32)) < (6 : Int32) then (1 : Int32) else (0 : Int32)))
def own_E (c : Int32) : Int32 := (if own_E1 c = (0 : Int32) then (if own_E2 c = (0 : Int32) then (0 : Int32) else (1 : Int32)) else (1 : Int32))
theorem own_tab : ∀ n : Fin 128, F1 (Int32.ofNat n.val) = own_E (Int32.ofNat n.val) := by decide +kernel
theorem own_all (v : Int32) (h0 : 0 ≤ v.toInt) (h1 : v.toInt < 65536) : F1 v = own_E v := by
  by_cases q : v.toInt < 128
  · obtain ⟨n, rfl⟩ := own_ltF 128 v h0 q
    exact own_tab n
  · have b1 := c_isub v 48
    have b2 : (v ||| 32).toInt ≥ v.toInt ∧ (v ||| 32).toInt < 65536 := by
      have e := own_nat h0
      have g := own_or v.toInt.toNat 32 (by omega) (by omega)
      rw [← e] at g
      have l1 : v.toInt.toNat ≤ v.toInt.toNat ||| 32 := Nat.left_le_or
      have l2 : v.toInt.toNat ||| 32 < 2 ^ 16 := Nat.or_lt_two_pow (by omega) (by omega)
      show (v ||| Int32.ofNat 32).toInt ≥ _ ∧ (v ||| Int32.ofNat 32).toInt < _
      omega
    have b3 := c_isub (v ||| 32) 97
    have r1 := rng32 (v - 48)
    have r2 := rng32 ((v ||| 32) - 97)
    have e0 : (0 : Int32).toInt = 0 := rfl
    have e1 : (65 : Int32).toInt = 65 := rfl
    have e2 : (70 : Int32).toInt = 70 := rfl
    have e3 : (97 : Int32).toInt = 97 := rfl
    have e4 : (102 : Int32).toInt = 102 := rfl
    have e5 : (48 : Int32).toInt = 48 := rfl
    have e6 : (57 : Int32).toInt = 57 := rfl
    have e7 : (10 : Int32).toInt = 10 := rfl
    have e8 : (6 : Int32).toInt = 6 := rfl
    have f1 : ¬ v < 48 := by rw [own_lt]; omega
    have f2 : (57 : Int32) < v := by rw [own_lt]; omega
    have g1 : ¬ v < 65 := by rw [own_lt]; omega
    have g2 : (70 : Int32) < v := by rw [own_lt]; omega
    have g3 : ¬ v < 97 := by rw [own_lt]; omega
    have g4 : (102 : Int32) < v := by rw [own_lt]; omega
    have k1 : ¬ v - 48 < 0 := by rw [own_lt]; omega
    have k2 : ¬ v - 48 < 10 := by rw [own_lt]; omega
    have k3 : ¬ (v ||| 32) - 97 < 0 := by rw [own_lt]; omega
    have k4 : ¬ (v ||| 32) - 97 < 6 := by rw [own_lt]; omega
    simp only [F1, F2, own_E, own_E1, own_E2, if_neg f1, if_pos f2, if_neg g1, if_pos g2, if_neg g3, if_pos g4, if_neg k1, if_neg k2, if_neg k3, if_neg k4, if_true]
theorem own_law {ax v d r1 l r2 r : Int32} (hv : v = (ax &&& (65535 : Int32)).toUInt32.toUInt16.toUInt32.toInt32) (hd : d = v - (48 : Int32))
    (h1 : r1 = (if d < (0 : Int32) then (0 : Int32) else (if d < (10 : Int32) then (1 : Int32) else (0 : Int32)))) (hl : l = ((v ||| (32 : Int32)) - (97 : Int32)))
    (h2 : r2 = (if l < (0 : Int32) then (0 : Int32) else (if l < (6 : Int32) then (1 : Int32) else (0 : Int32))))
    (hr : r = (if r1 = (0 : Int32) then (if r2 = (0 : Int32) then (0 : Int32) else (1 : Int32)) else (1 : Int32))) : F1 v = r := by
  have h := c_i2c (ax &&& 65535)
  rw [← hv] at h
  subst hd h1 hl h2 hr
  exact own_all v h.2.1 h.2.2

theorem pn_com_example_dandelion_dandelion_UriPartsIsHexDigitPinLaw : plainName "com/example/dandelion/dandelion/UriPartsIsHexDigitPinLaw" = true := by first | (simp [plainName, overriddenIn]; done) | decide +kernel
theorem ef_rm0 (m : MethodId) (ax : Int32)  : entryFrame m #[(.int ax)] maxLocals = (mkF m 0 #[.val (.int ax), .unset, .unset, .unset, .unset, .unset, .unset] []) := by first | (simp [entryFrame, mkF, argsToLocals, Value.category, maxLocals]; done) | rfl
def Q0 (Z : State) (ax : Int32) (h0 : Heap) (n0 : Nat) (v : Option Value) (h : Heap) (L : List Loc) : Prop := v = some (.int 1) ∧ Fr n0 L
set_option maxRecDepth 65536 in
set_option maxHeartbeats 40000000 in
theorem rm0 (l : Launch) (Z : State) (a0 : Array Value) (hw : ∀ d ∈ tables_1, d.before a0 Z = true) (ws : List Jvm.Cond) (ax : Int32) (h0 : Heap) (n0 : Nat) (Z0 : n0 ≤ h0.size)  :
    MetFree l x (head1 (Jvm.Cond.code x code maxLocals ret :: ws) room_1) (fun a U => a = #[(.int ax)] ∧ Z.Warmed39 U.vm ∧ U.heap = h0) (fun _ _ _ _ _ => True) (fun _ U o U' => ∃ v L, o = .returned v ∧ Q0 Z ax h0 n0 v U'.heap L ∧ FrameEnd U o U' L room_1.cells room_1.slots) := by
  refine MetFree.of_bodySF (plainFor_of_name pn_com_example_dandelion_dandelion_UriPartsIsHexDigitPinLaw) hisR ?_
  intro p e s m args below meth c s₁ Bd hml0 hP hK
  obtain ⟨rfl, hZ, hh⟩ := hP
  have hx := Bd.exec
  have hby := Bd.bytes
  have hml : c.maxLocals = 7 := hml0
  have hown : s.vm.findClass "com/example/dandelion/dandelion/UriPartsIsHexDigitPinLaw" = some m.cls := findClass_of_methodNamed Bd.named
  have hnm := (name_of_methodNamed Bd.named Bd.method).1
  have X0 : Stand p l e room_1 s m #[(.int ax)] below meth c s₁ [] 0 0 := Stand.of_body Bd
  have e0 : s₁.heap = h0 := by rw [← hh, Bd.state]; rfl
  have N0 := Fr.nil n0
  have P0 : Wy p.tables e below (s₁.setTop (entryFrame m #[(.int ax)] maxLocals)) (s₁.setTop (mkF m 0 #[.val (.int ax), .unset, .unset, .unset, .unset, .unset, .unset] [])) := fun t k => castTop (ef_rm0 m ax) k
  have P1 : Wy p.tables e below (s₁.setTop (entryFrame m #[(.int ax)] maxLocals)) (s₁.setTop (mkF m 6 #[.val (.int ax), .val (.int ((ax &&& (65535 : Int32)).toUInt32.toUInt16.toUInt32.toInt32)), .unset, .unset, .unset, .unset, .unset] [])) := fun t k => P0 t (by
    show Steps p.tables e below (s₁.setTop (mkF m 0 #[.val (.int ax), .unset, .unset, .unset, .unset, .unset, .unset] [])) _
    refine XS.iloadN X0.here hx rfl (hb hby at_0) rfl  ?_
    show Steps p.tables e below (s₁.setTop (mkF m 1 #[.val (.int ax), .unset, .unset, .unset, .unset, .unset, .unset] [(.int ax)])) _
    refine X0.ldcInt hx hown (mvT hZ (hw _ (List.mem_of_getElem? (i := 0) rfl))) (g := (mkF m 1 #[.val (.int ax), .unset, .unset, .unset, .unset, .unset, .unset] [(.int ax)])) rfl (hb hby at_1) _ ?_
    show Steps p.tables e below (s₁.setTop (mkF m 3 #[.val (.int ax), .unset, .unset, .unset, .unset, .unset, .unset] [(.int (65535 : Int32)), (.int ax)])) _
    refine XS.iand X0.here hx rfl (hb hby at_3) rfl ?_
    show Steps p.tables e below (s₁.setTop (mkF m 4 #[.val (.int ax), .unset, .unset, .unset, .unset, .unset, .unset] [(.int (ax &&& (65535 : Int32)))])) _
    refine XS.i2c X0.here hx rfl (hb hby at_4) rfl ?_
    show Steps p.tables e below (s₁.setTop (mkF m 5 #[.val (.int ax), .unset, .unset, .unset, .unset, .unset, .unset] [(.int ((ax &&& (65535 : Int32)).toUInt32.toUInt16.toUInt32.toInt32))])) _
    refine XS.istoreN X0.here hx rfl (hb hby at_5) rfl (l' := #[.val (.int ax), .val (.int ((ax &&& (65535 : Int32)).toUInt32.toUInt16.toUInt32.toInt32)), .unset, .unset, .unset, .unset, .unset]) rfl ?_
    exact k)
  obtain ⟨v2, hv2⟩ : ∃ z : Int32, z = ((ax &&& (65535 : Int32)).toUInt32.toUInt16.toUInt32.toInt32) := ⟨_, rfl⟩
  have P3 : Wy p.tables e below (s₁.setTop (entryFrame m #[(.int ax)] maxLocals)) (s₁.setTop (mkF m 6 #[.val (.int ax), .val (.int v2), .unset, .unset, .unset, .unset, .unset] [])) := fun t k => by subst hv2; exact P1 t k
  have P4 : Wy p.tables e below (s₁.setTop (entryFrame m #[(.int ax)] maxLocals)) (s₁.setTop (mkF m 11 #[.val (.int ax), .val (.int v2), .val (.int (v2 - (48 : Int32))), .unset, .unset, .unset, .unset] [])) := fun t k => P3 t (by
    show Steps p.tables e below (s₁.setTop (mkF m 6 #[.val (.int ax), .val (.int v2), .unset, .unset, .unset, .unset, .unset] [])) _
    refine XS.iloadN X0.here hx rfl (hb hby at_6) rfl  ?_
    show Steps p.tables e below (s₁.setTop (mkF m 7 #[.val (.int ax), .val (.int v2), .unset, .unset, .unset, .unset, .unset] [(.int v2)])) _
    refine XS.bipush X0.here hx rfl (hb hby at_7) ?_
    show Steps p.tables e below (s₁.setTop (mkF m 9 #[.val (.int ax), .val (.int v2), .unset, .unset, .unset, .unset, .unset] [(.int (48 : Int32)), (.int v2)])) _
    refine XS.isub X0.here hx rfl (hb hby at_9) rfl ?_
    show Steps p.tables e below (s₁.setTop (mkF m 10 #[.val (.int ax), .val (.int v2), .unset, .unset, .unset, .unset, .unset] [(.int (v2 - (48 : Int32)))])) _
    refine XS.istoreN X0.here hx rfl (hb hby at_10) rfl (l' := #[.val (.int ax), .val (.int v2), .val (.int (v2 - (48 : Int32))), .unset, .unset, .unset, .unset]) rfl ?_
    exact k)
  obtain ⟨v5, hv5⟩ : ∃ z : Int32, z = (v2 - (48 : Int32)) := ⟨_, rfl⟩
  have P6 : Wy p.tables e below (s₁.setTop (entryFrame m #[(.int ax)] maxLocals)) (s₁.setTop (mkF m 11 #[.val (.int ax), .val (.int v2), .val (.int v5), .unset, .unset, .unset, .unset] [])) := fun t k => by subst hv5; exact P4 t k
  obtain ⟨r14, hr14, P15⟩ : ∃ r14 : Int32, r14 = (if v5 < (0 : Int32) then (0 : Int32) else (if v5 < (10 : Int32) then (1 : Int32) else (0 : Int32))) ∧ Wy p.tables e below (s₁.setTop (entryFrame m #[(.int ax)] maxLocals)) (s₁.setTop (mkF m 26 #[.val (.int ax), .val (.int v2), .val (.int v5), .unset, .unset, .unset, .unset] [(.int r14)])) := by
    have P16 : Wy p.tables e below (s₁.setTop (entryFrame m #[(.int ax)] maxLocals)) (s₁.setTop (mkF m 12 #[.val (.int ax), .val (.int v2), .val (.int v5), .unset, .unset, .unset, .unset] [(.int v5)])) := fun t k => P6 t (by
      show Steps p.tables e below (s₁.setTop (mkF m 11 #[.val (.int ax), .val (.int v2), .val (.int v5), .unset, .unset, .unset, .unset] [])) _
      refine XS.iloadN X0.here hx rfl (hb hby at_11) rfl  ?_
      exact k)
    by_cases hc12_17 : v5 < (0 : Int32)
    · have P18 : Wy p.tables e below (s₁.setTop (entryFrame m #[(.int ax)] maxLocals)) (s₁.setTop (mkF m 26 #[.val (.int ax), .val (.int v2), .val (.int v5), .unset, .unset, .unset, .unset] [(.int (0 : Int32))])) := fun t k => P16 t (by
        show Steps p.tables e below (s₁.setTop (mkF m 12 #[.val (.int ax), .val (.int v2), .val (.int v5), .unset, .unset, .unset, .unset] [(.int v5)])) _
        refine XS.ifYes X0.here hx rfl (pc0 := 12) (pc' := 25) rfl (hb hby at_12) rfl ((if0 _ _).trans (tlt hc12_17).1) (by decide) (by decide) ?_
        show Steps p.tables e below (s₁.setTop (mkF m 25 #[.val (.int ax), .val (.int v2), .val (.int v5), .unset, .unset, .unset, .unset] [])) _
        refine XS.iconst X0.here hx rfl (hb hby at_25) ?_
        exact k)
      exact ⟨(0 : Int32), (by simp only [if_pos hc12_17]), P18⟩
    · have P19 : Wy p.tables e below (s₁.setTop (entryFrame m #[(.int ax)] maxLocals)) (s₁.setTop (mkF m 18 #[.val (.int ax), .val (.int v2), .val (.int v5), .unset, .unset, .unset, .unset] [(.int (10 : Int32)), (.int v5)])) := fun t k => P16 t (by
        show Steps p.tables e below (s₁.setTop (mkF m 12 #[.val (.int ax), .val (.int v2), .val (.int v5), .unset, .unset, .unset, .unset] [(.int v5)])) _
        refine XS.ifNo X0.here hx rfl (hb hby at_12) rfl ((if0 _ _).trans (flt hc12_17).1) ?_
        show Steps p.tables e below (s₁.setTop (mkF m 15 #[.val (.int ax), .val (.int v2), .val (.int v5), .unset, .unset, .unset, .unset] [])) _
        refine XS.iloadN X0.here hx rfl (hb hby at_15) rfl  ?_
        show Steps p.tables e below (s₁.setTop (mkF m 16 #[.val (.int ax), .val (.int v2), .val (.int v5), .unset, .unset, .unset, .unset] [(.int v5)])) _
        refine XS.bipush X0.here hx rfl (hb hby at_16) ?_
        exact k)
      by_cases hc18_20 : v5 < (10 : Int32)
      · have P21 : Wy p.tables e below (s₁.setTop (entryFrame m #[(.int ax)] maxLocals)) (s₁.setTop (mkF m 26 #[.val (.int ax), .val (.int v2), .val (.int v5), .unset, .unset, .unset, .unset] [(.int (1 : Int32))])) := fun t k => P19 t (by
          show Steps p.tables e below (s₁.setTop (mkF m 18 #[.val (.int ax), .val (.int v2), .val (.int v5), .unset, .unset, .unset, .unset] [(.int (10 : Int32)), (.int v5)])) _
          refine XS.icmpNo X0.here hx rfl (hb hby at_18) rfl (tlt hc18_20).2.1 ?_
          show Steps p.tables e below (s₁.setTop (mkF m 21 #[.val (.int ax), .val (.int v2), .val (.int v5), .unset, .unset, .unset, .unset] [])) _
          refine XS.iconst X0.here hx rfl (hb hby at_21) ?_
          show Steps p.tables e below (s₁.setTop (mkF m 22 #[.val (.int ax), .val (.int v2), .val (.int v5), .unset, .unset, .unset, .unset] [(.int (1 : Int32))])) _
          refine XS.goto X0.here hx rfl (pc0 := 22) (pc' := 26) rfl (hb hby at_22) (by decide) (by decide) ?_
          exact k)
        exact ⟨(1 : Int32), (by simp only [if_neg hc12_17, if_pos hc18_20]), P21⟩
      · have P22 : Wy p.tables e below (s₁.setTop (entryFrame m #[(.int ax)] maxLocals)) (s₁.setTop (mkF m 26 #[.val (.int ax), .val (.int v2), .val (.int v5), .unset, .unset, .unset, .unset] [(.int (0 : Int32))])) := fun t k => P19 t (by
          show Steps p.tables e below (s₁.setTop (mkF m 18 #[.val (.int ax), .val (.int v2), .val (.int v5), .unset, .unset, .unset, .unset] [(.int (10 : Int32)), (.int v5)])) _
          refine XS.icmpYes X0.here hx rfl (pc0 := 18) (pc' := 25) rfl (hb hby at_18) rfl (flt hc18_20).2.1 (by decide) (by decide) ?_
          show Steps p.tables e below (s₁.setTop (mkF m 25 #[.val (.int ax), .val (.int v2), .val (.int v5), .unset, .unset, .unset, .unset] [])) _
          refine XS.iconst X0.here hx rfl (hb hby at_25) ?_
          exact k)
        exact ⟨(0 : Int32), (by simp only [if_neg hc12_17, if_neg hc18_20]), P22⟩
  have P23 : Wy p.tables e below (s₁.setTop (entryFrame m #[(.int ax)] maxLocals)) (s₁.setTop (mkF m 36 #[.val (.int ax), .val (.int v2), .val (.int v5), .val (.int r14), .val (.int ((v2 ||| (32 : Int32)) - (97 : Int32))), .unset, .unset] [])) := fun t k => P15 t (by
    show Steps p.tables e below (s₁.setTop (mkF m 26 #[.val (.int ax), .val (.int v2), .val (.int v5), .unset, .unset, .unset, .unset] [(.int r14)])) _
    refine XS.istoreN X0.here hx rfl (hb hby at_26) rfl (l' := #[.val (.int ax), .val (.int v2), .val (.int v5), .val (.int r14), .unset, .unset, .unset]) rfl ?_
    show Steps p.tables e below (s₁.setTop (mkF m 27 #[.val (.int ax), .val (.int v2), .val (.int v5), .val (.int r14), .unset, .unset, .unset] [])) _
    refine XS.iloadN X0.here hx rfl (hb hby at_27) rfl  ?_
    show Steps p.tables e below (s₁.setTop (mkF m 28 #[.val (.int ax), .val (.int v2), .val (.int v5), .val (.int r14), .unset, .unset, .unset] [(.int v2)])) _
    refine XS.bipush X0.here hx rfl (hb hby at_28) ?_
    show Steps p.tables e below (s₁.setTop (mkF m 30 #[.val (.int ax), .val (.int v2), .val (.int v5), .val (.int r14), .unset, .unset, .unset] [(.int (32 : Int32)), (.int v2)])) _
    refine XS.ior X0.here hx rfl (hb hby at_30) rfl ?_
    show Steps p.tables e below (s₁.setTop (mkF m 31 #[.val (.int ax), .val (.int v2), .val (.int v5), .val (.int r14), .unset, .unset, .unset] [(.int (v2 ||| (32 : Int32)))])) _
    refine XS.bipush X0.here hx rfl (hb hby at_31) ?_
    show Steps p.tables e below (s₁.setTop (mkF m 33 #[.val (.int ax), .val (.int v2), .val (.int v5), .val (.int r14), .unset, .unset, .unset] [(.int (97 : Int32)), (.int (v2 ||| (32 : Int32)))])) _
    refine XS.isub X0.here hx rfl (hb hby at_33) rfl ?_
    show Steps p.tables e below (s₁.setTop (mkF m 34 #[.val (.int ax), .val (.int v2), .val (.int v5), .val (.int r14), .unset, .unset, .unset] [(.int ((v2 ||| (32 : Int32)) - (97 : Int32)))])) _
    refine XS.istore X0.here hx rfl (hb hby at_34) rfl (l' := #[.val (.int ax), .val (.int v2), .val (.int v5), .val (.int r14), .val (.int ((v2 ||| (32 : Int32)) - (97 : Int32))), .unset, .unset]) rfl ?_
    exact k)
  obtain ⟨v24, hv24⟩ : ∃ z : Int32, z = ((v2 ||| (32 : Int32)) - (97 : Int32)) := ⟨_, rfl⟩
  have P25 : Wy p.tables e below (s₁.setTop (entryFrame m #[(.int ax)] maxLocals)) (s₁.setTop (mkF m 36 #[.val (.int ax), .val (.int v2), .val (.int v5), .val (.int r14), .val (.int v24), .unset, .unset] [])) := fun t k => by subst hv24; exact P23 t k
  obtain ⟨r33, hr33, P34⟩ : ∃ r33 : Int32, r33 = (if v24 < (0 : Int32) then (0 : Int32) else (if v24 < (6 : Int32) then (1 : Int32) else (0 : Int32))) ∧ Wy p.tables e below (s₁.setTop (entryFrame m #[(.int ax)] maxLocals)) (s₁.setTop (mkF m 53 #[.val (.int ax), .val (.int v2), .val (.int v5), .val (.int r14), .val (.int v24), .unset, .unset] [(.int r33)])) := by
    have P35 : Wy p.tables e below (s₁.setTop (entryFrame m #[(.int ax)] maxLocals)) (s₁.setTop (mkF m 38 #[.val (.int ax), .val (.int v2), .val (.int v5), .val (.int r14), .val (.int v24), .unset, .unset] [(.int v24)])) := fun t k => P25 t (by
      show Steps p.tables e below (s₁.setTop (mkF m 36 #[.val (.int ax), .val (.int v2), .val (.int v5), .val (.int r14), .val (.int v24), .unset, .unset] [])) _
      refine XS.iload X0.here hx rfl (hb hby at_36) rfl  ?_
      exact k)
    by_cases hc38_36 : v24 < (0 : Int32)
    · have P37 : Wy p.tables e below (s₁.setTop (entryFrame m #[(.int ax)] maxLocals)) (s₁.setTop (mkF m 53 #[.val (.int ax), .val (.int v2), .val (.int v5), .val (.int r14), .val (.int v24), .unset, .unset] [(.int (0 : Int32))])) := fun t k => P35 t (by
        show Steps p.tables e below (s₁.setTop (mkF m 38 #[.val (.int ax), .val (.int v2), .val (.int v5), .val (.int r14), .val (.int v24), .unset, .unset] [(.int v24)])) _
        refine XS.ifYes X0.here hx rfl (pc0 := 38) (pc' := 52) rfl (hb hby at_38) rfl ((if0 _ _).trans (tlt hc38_36).1) (by decide) (by decide) ?_
        show Steps p.tables e below (s₁.setTop (mkF m 52 #[.val (.int ax), .val (.int v2), .val (.int v5), .val (.int r14), .val (.int v24), .unset, .unset] [])) _
        refine XS.iconst X0.here hx rfl (hb hby at_52) ?_
        exact k)
      exact ⟨(0 : Int32), (by simp only [if_pos hc38_36]), P37⟩
    · have P38 : Wy p.tables e below (s₁.setTop (entryFrame m #[(.int ax)] maxLocals)) (s₁.setTop (mkF m 45 #[.val (.int ax), .val (.int v2), .val (.int v5), .val (.int r14), .val (.int v24), .unset, .unset] [(.int (6 : Int32)), (.int v24)])) := fun t k => P35 t (by
        show Steps p.tables e below (s₁.setTop (mkF m 38 #[.val (.int ax), .val (.int v2), .val (.int v5), .val (.int r14), .val (.int v24), .unset, .unset] [(.int v24)])) _
        refine XS.ifNo X0.here hx rfl (hb hby at_38) rfl ((if0 _ _).trans (flt hc38_36).1) ?_
        show Steps p.tables e below (s₁.setTop (mkF m 41 #[.val (.int ax), .val (.int v2), .val (.int v5), .val (.int r14), .val (.int v24), .unset, .unset] [])) _
        refine XS.iload X0.here hx rfl (hb hby at_41) rfl  ?_
        show Steps p.tables e below (s₁.setTop (mkF m 43 #[.val (.int ax), .val (.int v2), .val (.int v5), .val (.int r14), .val (.int v24), .unset, .unset] [(.int v24)])) _
        refine XS.bipush X0.here hx rfl (hb hby at_43) ?_
        exact k)
      by_cases hc45_39 : v24 < (6 : Int32)
      · have P40 : Wy p.tables e below (s₁.setTop (entryFrame m #[(.int ax)] maxLocals)) (s₁.setTop (mkF m 53 #[.val (.int ax), .val (.int v2), .val (.int v5), .val (.int r14), .val (.int v24), .unset, .unset] [(.int (1 : Int32))])) := fun t k => P38 t (by
          show Steps p.tables e below (s₁.setTop (mkF m 45 #[.val (.int ax), .val (.int v2), .val (.int v5), .val (.int r14), .val (.int v24), .unset, .unset] [(.int (6 : Int32)), (.int v24)])) _
          refine XS.icmpNo X0.here hx rfl (hb hby at_45) rfl (tlt hc45_39).2.1 ?_
          show Steps p.tables e below (s₁.setTop (mkF m 48 #[.val (.int ax), .val (.int v2), .val (.int v5), .val (.int r14), .val (.int v24), .unset, .unset] [])) _
          refine XS.iconst X0.here hx rfl (hb hby at_48) ?_
          show Steps p.tables e below (s₁.setTop (mkF m 49 #[.val (.int ax), .val (.int v2), .val (.int v5), .val (.int r14), .val (.int v24), .unset, .unset] [(.int (1 : Int32))])) _
          refine XS.goto X0.here hx rfl (pc0 := 49) (pc' := 53) rfl (hb hby at_49) (by decide) (by decide) ?_
          exact k)
        exact ⟨(1 : Int32), (by simp only [if_neg hc38_36, if_pos hc45_39]), P40⟩
      · have P41 : Wy p.tables e below (s₁.setTop (entryFrame m #[(.int ax)] maxLocals)) (s₁.setTop (mkF m 53 #[.val (.int ax), .val (.int v2), .val (.int v5), .val (.int r14), .val (.int v24), .unset, .unset] [(.int (0 : Int32))])) := fun t k => P38 t (by
          show Steps p.tables e below (s₁.setTop (mkF m 45 #[.val (.int ax), .val (.int v2), .val (.int v5), .val (.int r14), .val (.int v24), .unset, .unset] [(.int (6 : Int32)), (.int v24)])) _
          refine XS.icmpYes X0.here hx rfl (pc0 := 45) (pc' := 52) rfl (hb hby at_45) rfl (flt hc45_39).2.1 (by decide) (by decide) ?_
          show Steps p.tables e below (s₁.setTop (mkF m 52 #[.val (.int ax), .val (.int v2), .val (.int v5), .val (.int r14), .val (.int v24), .unset, .unset] [])) _
          refine XS.iconst X0.here hx rfl (hb hby at_52) ?_
          exact k)
        exact ⟨(0 : Int32), (by simp only [if_neg hc38_36, if_neg hc45_39]), P41⟩
  have P42 : Wy p.tables e below (s₁.setTop (entryFrame m #[(.int ax)] maxLocals)) (s₁.setTop (mkF m 55 #[.val (.int ax), .val (.int v2), .val (.int v5), .val (.int r14), .val (.int v24), .val (.int r33), .unset] [])) := fun t k => P34 t (by
    show Steps p.tables e below (s₁.setTop (mkF m 53 #[.val (.int ax), .val (.int v2), .val (.int v5), .val (.int r14), .val (.int v24), .unset, .unset] [(.int r33)])) _
    refine XS.istore X0.here hx rfl (hb hby at_53) rfl (l' := #[.val (.int ax), .val (.int v2), .val (.int v5), .val (.int r14), .val (.int v24), .val (.int r33), .unset]) rfl ?_
    exact k)
  obtain ⟨r50, hr50, P51⟩ : ∃ r50 : Int32, r50 = (if r14 = (0 : Int32) then (if r33 = (0 : Int32) then (0 : Int32) else (1 : Int32)) else (1 : Int32)) ∧ Wy p.tables e below (s₁.setTop (entryFrame m #[(.int ax)] maxLocals)) (s₁.setTop (mkF m 69 #[.val (.int ax), .val (.int v2), .val (.int v5), .val (.int r14), .val (.int v24), .val (.int r33), .unset] [(.int r50)])) := by
    have P52 : Wy p.tables e below (s₁.setTop (entryFrame m #[(.int ax)] maxLocals)) (s₁.setTop (mkF m 56 #[.val (.int ax), .val (.int v2), .val (.int v5), .val (.int r14), .val (.int v24), .val (.int r33), .unset] [(.int r14)])) := fun t k => P42 t (by
      show Steps p.tables e below (s₁.setTop (mkF m 55 #[.val (.int ax), .val (.int v2), .val (.int v5), .val (.int r14), .val (.int v24), .val (.int r33), .unset] [])) _
      refine XS.iloadN X0.here hx rfl (hb hby at_55) rfl  ?_
      exact k)
    by_cases hc56_53 : r14 = (0 : Int32)
    · have P54 : Wy p.tables e below (s₁.setTop (entryFrame m #[(.int ax)] maxLocals)) (s₁.setTop (mkF m 61 #[.val (.int ax), .val (.int v2), .val (.int v5), .val (.int r14), .val (.int v24), .val (.int r33), .unset] [(.int r33)])) := fun t k => P52 t (by
        show Steps p.tables e below (s₁.setTop (mkF m 56 #[.val (.int ax), .val (.int v2), .val (.int v5), .val (.int r14), .val (.int v24), .val (.int r33), .unset] [(.int r14)])) _
        refine XS.ifNo X0.here hx rfl (hb hby at_56) rfl ((if0 _ _).trans (teq hc56_53).2) ?_
        show Steps p.tables e below (s₁.setTop (mkF m 59 #[.val (.int ax), .val (.int v2), .val (.int v5), .val (.int r14), .val (.int v24), .val (.int r33), .unset] [])) _
        refine XS.iload X0.here hx rfl (hb hby at_59) rfl  ?_
        exact k)
      by_cases hc61_55 : r33 = (0 : Int32)
      · have P56 : Wy p.tables e below (s₁.setTop (entryFrame m #[(.int ax)] maxLocals)) (s₁.setTop (mkF m 69 #[.val (.int ax), .val (.int v2), .val (.int v5), .val (.int r14), .val (.int v24), .val (.int r33), .unset] [(.int (0 : Int32))])) := fun t k => P54 t (by
          show Steps p.tables e below (s₁.setTop (mkF m 61 #[.val (.int ax), .val (.int v2), .val (.int v5), .val (.int r14), .val (.int v24), .val (.int r33), .unset] [(.int r33)])) _
          refine XS.ifYes X0.here hx rfl (pc0 := 61) (pc' := 68) rfl (hb hby at_61) rfl ((if0 _ _).trans (teq hc61_55).1) (by decide) (by decide) ?_
          show Steps p.tables e below (s₁.setTop (mkF m 68 #[.val (.int ax), .val (.int v2), .val (.int v5), .val (.int r14), .val (.int v24), .val (.int r33), .unset] [])) _
          refine XS.iconst X0.here hx rfl (hb hby at_68) ?_
          exact k)
        exact ⟨(0 : Int32), (by simp only [if_pos hc56_53, if_pos hc61_55]), P56⟩
      · have P57 : Wy p.tables e below (s₁.setTop (entryFrame m #[(.int ax)] maxLocals)) (s₁.setTop (mkF m 69 #[.val (.int ax), .val (.int v2), .val (.int v5), .val (.int r14), .val (.int v24), .val (.int r33), .unset] [(.int (1 : Int32))])) := fun t k => P54 t (by
          show Steps p.tables e below (s₁.setTop (mkF m 61 #[.val (.int ax), .val (.int v2), .val (.int v5), .val (.int r14), .val (.int v24), .val (.int r33), .unset] [(.int r33)])) _
          refine XS.ifNo X0.here hx rfl (hb hby at_61) rfl ((if0 _ _).trans (feq hc61_55).1) ?_
          show Steps p.tables e below (s₁.setTop (mkF m 64 #[.val (.int ax), .val (.int v2), .val (.int v5), .val (.int r14), .val (.int v24), .val (.int r33), .unset] [])) _
          refine XS.iconst X0.here hx rfl (hb hby at_64) ?_
          show Steps p.tables e below (s₁.setTop (mkF m 65 #[.val (.int ax), .val (.int v2), .val (.int v5), .val (.int r14), .val (.int v24), .val (.int r33), .unset] [(.int (1 : Int32))])) _
          refine XS.goto X0.here hx rfl (pc0 := 65) (pc' := 69) rfl (hb hby at_65) (by decide) (by decide) ?_
          exact k)
        exact ⟨(1 : Int32), (by simp only [if_pos hc56_53, if_neg hc61_55]), P57⟩
    · have P58 : Wy p.tables e below (s₁.setTop (entryFrame m #[(.int ax)] maxLocals)) (s₁.setTop (mkF m 69 #[.val (.int ax), .val (.int v2), .val (.int v5), .val (.int r14), .val (.int v24), .val (.int r33), .unset] [(.int (1 : Int32))])) := fun t k => P52 t (by
        show Steps p.tables e below (s₁.setTop (mkF m 56 #[.val (.int ax), .val (.int v2), .val (.int v5), .val (.int r14), .val (.int v24), .val (.int r33), .unset] [(.int r14)])) _
        refine XS.ifYes X0.here hx rfl (pc0 := 56) (pc' := 64) rfl (hb hby at_56) rfl ((if0 _ _).trans (feq hc56_53).2) (by decide) (by decide) ?_
        show Steps p.tables e below (s₁.setTop (mkF m 64 #[.val (.int ax), .val (.int v2), .val (.int v5), .val (.int r14), .val (.int v24), .val (.int r33), .unset] [])) _
        refine XS.iconst X0.here hx rfl (hb hby at_64) ?_
        show Steps p.tables e below (s₁.setTop (mkF m 65 #[.val (.int ax), .val (.int v2), .val (.int v5), .val (.int r14), .val (.int v24), .val (.int r33), .unset] [(.int (1 : Int32))])) _
        refine XS.goto X0.here hx rfl (pc0 := 65) (pc' := 69) rfl (hb hby at_65) (by decide) (by decide) ?_
        exact k)
      exact ⟨(1 : Int32), (by simp only [if_neg hc56_53]), P58⟩
  have P59 : Wy p.tables e below (s₁.setTop (entryFrame m #[(.int ax)] maxLocals)) (s₁.setTop (mkF m 72 #[.val (.int ax), .val (.int v2), .val (.int v5), .val (.int r14), .val (.int v24), .val (.int r33), .val (.int r50)] [(.int v2)])) := fun t k => P51 t (by
    show Steps p.tables e below (s₁.setTop (mkF m 69 #[.val (.int ax), .val (.int v2), .val (.int v5), .val (.int r14), .val (.int v24), .val (.int r33), .unset] [(.int r50)])) _
    refine XS.istore X0.here hx rfl (hb hby at_69) rfl (l' := #[.val (.int ax), .val (.int v2), .val (.int v5), .val (.int r14), .val (.int v24), .val (.int r33), .val (.int r50)]) rfl ?_
    show Steps p.tables e below (s₁.setTop (mkF m 71 #[.val (.int ax), .val (.int v2), .val (.int v5), .val (.int r14), .val (.int v24), .val (.int r33), .val (.int r50)] [])) _
    refine XS.iloadN X0.here hx rfl (hb hby at_71) rfl  ?_
    exact k)
  obtain ⟨_, _, ⟨T60, L60, k60, n60⟩, -, X60, ⟨Lc60, hQ60, l60, y60, z60⟩, st60⟩ := Jvm.LawKit.callS X0 hx (y := (⟨"com/example/dandelion/dandelion/UriParts", "isHexDigit", "(C)Z"⟩ : MethodName)) hown (mvT hZ (hw _ (List.mem_of_getElem? (i := 1) rfl))) (mvT hZ (hw _ (List.mem_of_getElem? (i := 2) rfl))) (mvT hZ (hw _ (List.mem_of_getElem? (i := 3) rfl))) (mvT hZ (hw _ (List.mem_of_getElem? (i := 4) rfl))) (by decide) (backOf (W := 0) (rm1 l Z a0 hw [] v2 h0 n0 Z0 ) hZ (hw _ (List.mem_of_getElem? (i := 4) rfl)) (hw _ (List.mem_of_getElem? (i := 3) rfl)) (by decide) (by decide)) (g := (mkF m 72 #[.val (.int ax), .val (.int v2), .val (.int v5), .val (.int r14), .val (.int v24), .val (.int r33), .val (.int r50)] [(.int v2)])) rfl (by rw [hml]; rfl) (argsL := [(.int v2)]) (rest := []) (lenOf pd_lCrZ rfl) rfl (by show 2 * 0 + _ ≤ _; exact Nat.le_of_eq rfl) (hb hby at_72) (fun _ _ => ⟨rfl, e0, (by decide : 0 + 0 ≤ _), (by decide : 0 + 0 ≤ _)⟩)
  dsimp only [Pt.U, Pt.locs, Pt.cells, Pt.slots] at X60 l60 y60 z60 st60 hQ60
  subst l60 y60 z60
  obtain ⟨rfl, N60q, e60⟩ := hQ60
  have N60 := Fr.app N0 N60q
  have P61 : Wy p.tables e below (s₁.setTop (entryFrame m #[(.int ax)] maxLocals)) (T60.setTop (mkF m 75 #[.val (.int ax), .val (.int v2), .val (.int v5), .val (.int r14), .val (.int v24), .val (.int r33), .val (.int r50)] [(.int (F1 v2))])) := fun t k => P59 t (st60 _ k)
  have P62 : Wy p.tables e below (s₁.setTop (entryFrame m #[(.int ax)] maxLocals)) (T60.setTop (mkF m 85 #[.val (.int ax), .val (.int v2), .val (.int v5), .val (.int r14), .val (.int v24), .val (.int r33), .val (.int r50)] [(.int (1 : Int32))])) := fun t k => P61 t (by
    show Steps p.tables e below (T60.setTop (mkF m 75 #[.val (.int ax), .val (.int v2), .val (.int v5), .val (.int r14), .val (.int v24), .val (.int r33), .val (.int r50)] [(.int (F1 v2))])) _
    refine XS.iload X60.here hx rfl (hb hby at_75) rfl  ?_
    show Steps p.tables e below (T60.setTop (mkF m 77 #[.val (.int ax), .val (.int v2), .val (.int v5), .val (.int r14), .val (.int v24), .val (.int r33), .val (.int r50)] [(.int r50), (.int (F1 v2))])) _
    refine XS.icmpNo X60.here hx rfl (hb hby at_77) rfl (teq (own_law hv2 hv5 hr14 hv24 hr33 hr50 : (F1 v2) = r50)).2 ?_
    show Steps p.tables e below (T60.setTop (mkF m 80 #[.val (.int ax), .val (.int v2), .val (.int v5), .val (.int r14), .val (.int v24), .val (.int r33), .val (.int r50)] [])) _
    refine XS.iconst X60.here hx rfl (hb hby at_80) ?_
    show Steps p.tables e below (T60.setTop (mkF m 81 #[.val (.int ax), .val (.int v2), .val (.int v5), .val (.int r14), .val (.int v24), .val (.int r33), .val (.int r50)] [(.int (1 : Int32))])) _
    refine XS.goto X60.here hx rfl (pc0 := 81) (pc' := 85) rfl (hb hby at_81) (by decide) (by decide) ?_
    exact k)
  obtain ⟨fs, hr, hrun, hended, hW, hsame⟩ := X60.leave (v := some (.int (nar .boolean (1 : Int32)))) (fun h => by rw [Bd.returns] at h; cases h)
  refine ⟨_, _, P62 _ ?_, hrun, hended, _, _, rfl, ?_, ⟨_, rfl⟩, hW, hsame.mono (by decide) (by decide)⟩
  · show Steps p.tables e below (T60.setTop (mkF m 85 #[.val (.int ax), .val (.int v2), .val (.int v5), .val (.int r14), .val (.int v24), .val (.int r33), .val (.int r50)] [(.int (1 : Int32))])) _
    exact retN X60 hx (t := .boolean) Bd.returns (by simp) (hb hby at_85) hr
  · show Q0 Z ax h0 n0 _ T60.heap _
    rw [e60]
    exact ⟨rfl, N60⟩
set_option maxRecDepth 65536 in
set_option maxHeartbeats 40000000 in
theorem comes_1 {Post : Tables → Env → Array Value → State → Outcome → State → Prop} (hpost : ∀ tb e args s v u, (limb_1_1.after args s (.returned v) u = true ∧ limb_1_2.after args s (.returned v) u = true ∧ True) → FrameEnd s (.returned v) u (Jvm.fieldLocs frame_1_writes args s ++ Jvm.arrayLocs frame_1_arrays args s ++ Jvm.staticLocs frame_1_statics s) 0 0 → Post tb e args s (.returned v) u) :
    ArmFor flags0 classFile x code maxLocals ret World_1 tables_1 room_1 Calls_1 rest_1 Pre_1 Post := by
  intro l hfl _ _ p e ha hc hk s m args below hf hA hF happ hP
  obtain ⟨hcalls, hrest, hpre⟩ := hP
  obtain ⟨-, -, -, hnamed, -, -, -, hat⟩ := (Spec.applies_iff hf).mp happ
  obtain ⟨hg, hn⟩ := and_e (Cond.before_iff.mp (show (Jvm.Cond.and given_1 narrow_1).before args s = true from hpre))
  obtain ⟨g1, g2⟩ := and_e hg
  obtain ⟨w0, rfl⟩ : ∃ w0 : Value, args = #[w0] := by
    have hs : args.size = 1 := by simpa [Cond.value, given_1] using g1
    obtain ⟨L⟩ := args
    match L, hs with
    | [w0], _ => exact ⟨w0, rfl⟩
  have hw := fun d (hd : d ∈ tables_1) => atoms_spec (ws := Jvm.Cond.code x code maxLocals ret :: tables_1) hat d (List.mem_cons_of_mem _ hd)
  have hfit : Fit s := fun {y c} hc i hi => by
    obtain ⟨ha, rfl⟩ := Array.getElem?_eq_some_iff.mp hc
    have q := List.all_eq_true.mp ((Array.all_eq_true_iff_forall_mem.mp hF) _ (Array.getElem_mem ha)) i (List.mem_range.mpr hi)
    simpa [Array.getElem?_eq_getElem hi] using q
  obtain ⟨i0, ei0⟩ := is_v g2
  obtain rfl : w0 = (.int i0) := Option.some.inj ei0
  obtain ⟨n, o, h1, h2, h3, _, L, rfl, ⟨rfl, N⟩, hq⟩ := rm0 l s _ hw tables_1 i0 s.heap s.heap.size (Nat.le_refl _)  p e ha hc hk s m _ below hf ((Spec.applies_iff_loose hf).mp happ).1 ⟨rfl, State.Warmed39.refl s, rfl⟩ trivial
  refine ⟨n, _, h1, h2, h3, hpost _ _ _ _ _ _ ⟨Cond.after_iff.mpr rfl, Cond.after_iff.mpr (eq_i res_at (Term.int_eval (1)) rfl), trivial⟩ ⟨hq.1, hq.2.1, (hq.2.2.sift fun y hy => Or.inr (N y hy)).mono (by decide) (by decide)⟩⟩
theorem main_1_1 : Claimed_1_1 := comes_1 fun _ _ _ _ _ _ h hF => ⟨h.1, hF⟩
theorem main_1_2 : Claimed_1_2 := comes_1 fun _ _ _ _ _ _ h hF => ⟨h.2.1, hF⟩
end Jvm.Pilot.@@N@@
namespace Jvm.Pilot.@@N@@
open Jvm Jvm.ClassFile Sem Op Lib Jvm.Free Jvm.Stand Jvm.Pilot.@@N@@.Jvm.D
/-! MADE BY PROGRAM (witnessworld.py) out of the Statement's table words and the real class files: 9 classes; the members and pool entries that the words name. The judged class is class 1, her method 1. -/
namespace start1
open Jvm.ClassFile
def u (s : String) : CpInfo := .utf8 (stringToUtf16 s)
/-- a pool by its gaps: so many unusable entries, then the entry; so many at the end -/
def gap : Nat → List CpInfo → List CpInfo
  | 0, r => r
  | n + 1, r => .unusable :: gap n r
def poolList (es : List (Nat × CpInfo)) (last : Nat) : List CpInfo := es.foldr (fun e r => gap e.1 (e.2 :: r)) (gap last [])
def pool (es : List (Nat × CpInfo)) (last : Nat) : Array CpInfo := ⟨poolList es last⟩
def fileOf (pool : Array CpInfo) (this : Nat) (attrs : Array Attribute := #[]) (ms : Array MethodInfo := #[]) (fl : Nat := 33) (sup : Nat := 0) (ifs : Array Nat := #[]) (fds : Array FieldInfo := #[]) : ClassFile where
  minorVersion := 0
  majorVersion := 65
  constantPool := pool
  accessFlags := fl
  thisClass := this
  superClass := sup
  interfaces := ifs
  fields := fds
  methods := ms
  attributes := attrs
def plain (name : String) (sup : Option ClassId) : Class where
  name := name
  kind := .ordinary
  loader := none
  accessFlags := 33
  super := sup
  interfaces := #[]
  cf := none
  fields := #[]
  methods := #[]
  instanceTypes := #[]
  staticTypes := #[]
  resolved := #[]
  callSites := []
  init := .initialized
  statics := none
  mirror := none

def pool0 : Array CpInfo := pool [(5, u "<init>"), (0, u "()V"), (1, .class_ 10), (1, u "java/lang/Object")] 113

def k0m0 : Method := { name := "<init>", desc := "()V", sig := { parameters := [], returnType := none }, accessFlags := 1, code := none }
/-- java/lang/Object -/
def k0 : Class := { plain "java/lang/Object" none with
  accessFlags := 33
  interfaces := #[]
  cf := some (fileOf pool0 8 #[] #[{ accessFlags := 1, nameIndex := 5, descriptorIndex := 6, attributes := #[] }] 33 0 #[] #[])
  fields := #[]
  methods := #[k0m0]
  instanceTypes := #[]
  staticTypes := #[]
  resolved := Array.replicate 124 none
  statics := none }

def pool1 : Array CpInfo := pool [(2, .class_ 4), (1, u "java/lang/Object"), (0, u "<init>"), (0, u "()V"), (0, .integer 65535), (0, .methodref 9 10), (0, .class_ 11), (0, .nameAndType 12 13), (0, u "com/example/dandelion/dandelion/UriParts"), (0, u "isHexDigit"), (0, u "(C)Z"), (0, .class_ 15), (0, u "com/example/dandelion/dandelion/UriPartsIsHexDigitPinLaw"), (2, u "law"), (0, u "(I)Z")] 3

def k1m0 : Method := { name := "<init>", desc := "()V", sig := { parameters := [], returnType := none }, accessFlags := 2, code := none }
def k1c1 : Code := { maxStack := 2, maxLocals := 7, code := code, exceptionTable := #[], attributes := #[] }
def k1m1 : Method := { name := "law", desc := "(I)Z", sig := { parameters := [.int], returnType := some .boolean }, accessFlags := 9, code := some k1c1 }
/-- com/example/dandelion/dandelion/UriPartsIsHexDigitPinLaw -/
def k1 : Class := { plain "com/example/dandelion/dandelion/UriPartsIsHexDigitPinLaw" (some 0) with
  accessFlags := 49
  interfaces := #[]
  cf := some (fileOf pool1 14 #[] #[{ accessFlags := 2, nameIndex := 5, descriptorIndex := 6, attributes := #[] }, { accessFlags := 9, nameIndex := 18, descriptorIndex := 19, attributes := #[] }] 49 2 #[] #[])
  fields := #[]
  methods := #[k1m0, k1m1]
  instanceTypes := #[]
  staticTypes := #[]
  resolved := Array.replicate 23 none
  statics := none }

def pool2 : Array CpInfo := pool [(2, .class_ 4), (1, u "java/lang/Object"), (3, .class_ 10), (1, u "com/example/dandelion/dandelion/UriParts"), (0, u "text"), (0, u "Ljava/lang/String;"), (2, u "schemeEnd"), (0, u "I"), (2, u "hostStart"), (2, u "hostEnd"), (2, u "pathStart"), (2, u "pathEnd"), (59, u "(C)Z"), (0, .methodref 8 90), (0, .nameAndType 91 88), (0, u "isDigit"), (10, u "isHexDigit"), (13, u "NAME_CHARS"), (0, u "[Z"), (6, u "UNRESERVED"), (3, u "FREE_DELIMITERS"), (2, u "SUB_DELIMITERS")] 21

def k2c0 : Code := { maxStack := 2, maxLocals := 1, code := prog_33_method_24_code, exceptionTable := #[], attributes := #[] }
def k2m0 : Method := { name := "isDigit", desc := "(C)Z", sig := { parameters := [.char], returnType := some .boolean }, accessFlags := 10, code := some k2c0 }
def k2c1 : Code := { maxStack := 2, maxLocals := 1, code := prog_33_method_25_code, exceptionTable := #[], attributes := #[] }
def k2m1 : Method := { name := "isHexDigit", desc := "(C)Z", sig := { parameters := [.char], returnType := some .boolean }, accessFlags := 8, code := some k2c1 }
/-- com/example/dandelion/dandelion/UriParts -/
def k2 : Class := { plain "com/example/dandelion/dandelion/UriParts" (some 0) with
  accessFlags := 48
  interfaces := #[]
  cf := some (fileOf pool2 8 #[] #[{ accessFlags := 10, nameIndex := 91, descriptorIndex := 88, attributes := #[] }, { accessFlags := 8, nameIndex := 102, descriptorIndex := 88, attributes := #[] }] 48 2 #[] #[{ accessFlags := 24, nameIndex := 124, descriptorIndex := 12, attributes := #[] }, { accessFlags := 24, nameIndex := 128, descriptorIndex := 12, attributes := #[] }, { accessFlags := 24, nameIndex := 131, descriptorIndex := 12, attributes := #[] }, { accessFlags := 26, nameIndex := 116, descriptorIndex := 117, attributes := #[] }, { accessFlags := 16, nameIndex := 11, descriptorIndex := 12, attributes := #[] }, { accessFlags := 16, nameIndex := 15, descriptorIndex := 16, attributes := #[] }, { accessFlags := 16, nameIndex := 19, descriptorIndex := 16, attributes := #[] }, { accessFlags := 16, nameIndex := 22, descriptorIndex := 16, attributes := #[] }, { accessFlags := 16, nameIndex := 25, descriptorIndex := 16, attributes := #[] }, { accessFlags := 16, nameIndex := 28, descriptorIndex := 16, attributes := #[] }])
  fields := #[{ name := "UNRESERVED", type := (.object "java/lang/String"), accessFlags := 24, slot := 0, constantValue := 0 }, { name := "FREE_DELIMITERS", type := (.object "java/lang/String"), accessFlags := 24, slot := 1, constantValue := 0 }, { name := "SUB_DELIMITERS", type := (.object "java/lang/String"), accessFlags := 24, slot := 2, constantValue := 0 }, { name := "NAME_CHARS", type := (.array .boolean), accessFlags := 26, slot := 3, constantValue := 0 }, { name := "text", type := (.object "java/lang/String"), accessFlags := 16, slot := 0, constantValue := 0 }, { name := "schemeEnd", type := .int, accessFlags := 16, slot := 1, constantValue := 0 }, { name := "hostStart", type := .int, accessFlags := 16, slot := 2, constantValue := 0 }, { name := "hostEnd", type := .int, accessFlags := 16, slot := 3, constantValue := 0 }, { name := "pathStart", type := .int, accessFlags := 16, slot := 4, constantValue := 0 }, { name := "pathEnd", type := .int, accessFlags := 16, slot := 5, constantValue := 0 }]
  methods := #[k2m0, k2m1]
  instanceTypes := #[(.object "java/lang/String"), .int, .int, .int, .int, .int]
  staticTypes := #[(.object "java/lang/String"), (.object "java/lang/String"), (.object "java/lang/String"), (.array .boolean)]
  resolved := Array.replicate 153 none
  statics := none }

def pool3 : Array CpInfo := pool [(1, u "java/lang/Cloneable"), (0, .class_ 1), (0, u "java/lang/Object"), (0, .class_ 3)] 3

/-- java/lang/Cloneable -/
def k3 : Class := { plain "java/lang/Cloneable" (some 0) with
  accessFlags := 1537
  interfaces := #[]
  cf := some (fileOf pool3 2 #[] #[] 1537 4 #[] #[])
  fields := #[]
  methods := #[]
  instanceTypes := #[]
  staticTypes := #[]
  resolved := Array.replicate 8 none
  statics := none }

def pool4 : Array CpInfo := pool [(1, u "java/io/Serializable"), (0, .class_ 1), (0, u "java/lang/Object"), (0, .class_ 3)] 3

/-- java/io/Serializable -/
def k4 : Class := { plain "java/io/Serializable" (some 0) with
  accessFlags := 1537
  interfaces := #[]
  cf := some (fileOf pool4 2 #[] #[] 1537 4 #[] #[])
  fields := #[]
  methods := #[]
  instanceTypes := #[]
  staticTypes := #[]
  resolved := Array.replicate 8 none
  statics := none }

/-- the primitive byte -/
def k5 : Class := { plain "byte" none with kind := .primitive 'B', accessFlags := 0x411 }
/-- [B -/
def k6 : Class := { plain "[B" (some 0) with kind := .array 5 .byte, interfaces := #[3, 4], accessFlags := 1041 }

/-- the primitive int -/
def k7 : Class := { plain "int" none with kind := .primitive 'I', accessFlags := 0x411 }
/-- [I -/
def k8 : Class := { plain "[I" (some 0) with kind := .array 7 .int, interfaces := #[3, 4], accessFlags := 1041 }

def heap : Heap := #[]
def classes : Array Class := #[k0, k1, k2, k3, k4, k5, k6, k7, k8]
def interned : List (Array UInt16 × Addr) := []
def slotsUsed : Nat := 0
def theMethod : MethodId := ⟨1, 1⟩
def args0 : Array Value := #[.int 5]
def aboutOver (below : List Frame) : State where
  vm := { classes := classes, interned := interned.toArray }
  heap := heap
  slotsUsed := slotsUsed
  threads := #[{ frames := .invoking theMethod args0 :: below }]
def below0 : List Frame := [.native { method := ⟨0, 0⟩, args := #[] }]
def about1 : State := aboutOver below0
def p0 : Program := .bare "" "" ""
def e0 : Env := launch0.env 0 0 0
theorem w_frames : about1.frames = Frame.invoking theMethod args0 :: below0 := rfl
set_option maxRecDepth 65536 in
theorem w_args : argsFit about1.vm theMethod args0 = true := by decide +kernel
set_option maxRecDepth 65536 in
theorem w_heap : heapFits about1 = true := by decide +kernel
set_option maxRecDepth 65536 in
theorem w_runnable : about1.curStatus? = some .runnable := by decide +kernel
set_option maxRecDepth 65536 in
theorem w_alone : about1.alone = true := by decide +kernel
set_option maxRecDepth 65536 in
theorem w_named : about1.methodNamed? x = some theMethod := by decide +kernel
set_option maxRecDepth 65536 in
theorem w_hears : about1.hears theMethod below0 = true := by decide +kernel
set_option maxRecDepth 65536 in
theorem w_ripe : about1.ripe theMethod args0 below0 = true := by decide +kernel
theorem w_running : about1.status = .running := rfl
set_option maxRecDepth 65536 in
theorem w_room : about1.hasRoom e0.platform room_1 = true :=
  launch0.hasRoom_least _ room_1 (by decide +kernel) (by decide +kernel) (by decide +kernel) (by decide +kernel) (by decide +kernel) (by decide +kernel)
theorem allAtoms_all (ts : List Jvm.Cond) (a : Array Jvm.Value) (st : Jvm.State) : (allAtoms ts).before a st = ts.all (fun c => c.before a st) := by
  induction ts with
  | nil => rfl
  | cons c t ih =>
    show (Jvm.Cond.and c (allAtoms t)).before a st = _
    rw [Jvm.Cond.before_and, ih, List.all_cons]
def words1 : List Jvm.Cond := Jvm.Cond.code x code maxLocals ret :: tables_1
/-- a 'code' word, met by the world's own term for the bytes: nothing is compared byte by byte -/
theorem code_word {y : MethodName} {bytes : ByteArray} {mx : Nat} {rt : Option FieldType} {a : Array Value} {s : State} {m : MethodId} {meth : Method} {c : Code} (h1 : s.methodNamed? y = some m) (h2 : s.vm.method? m = some meth) (h3 : meth.code = some c) (h4 : c.code = bytes)
    (h5 : (c.maxLocals == mx && c.exceptionTable.isEmpty && decide (c.maxStack ≤ mostOperands) && decide (meth.sig.returnType = rt) && !meth.locks && decide (parseMethodDescriptor y.desc = some meth.sig)) = true) : (Jvm.Cond.code y bytes mx rt).before a s = true := by
  simp only [Bool.and_eq_true, beq_iff_eq, Bool.not_eq_true', decide_eq_true_eq] at h5
  obtain ⟨⟨⟨⟨⟨g1, g2⟩, g3⟩, g4⟩, g5⟩, g6⟩ := h5
  simp [Cond.before, Cond.holds, Cond.value, h1, h2, h3, h4, g1, g2, g3, g4, g5, g6]
def isCode : Jvm.Cond → Bool
  | .code _ _ _ _ => true
  | _ => false
theorem all_split {L : List Jvm.Cond} {P : Jvm.Cond → Bool} (h1 : L.all (fun c => isCode c || P c) = true) (h2 : ∀ c ∈ L.filter isCode, P c = true) : L.all P = true := by
  refine List.all_eq_true.mpr fun c hc => ?_
  have h := List.all_eq_true.mp h1 c hc
  rcases Bool.eq_false_or_eq_true (isCode c) with hi | hi
  · exact h2 c (List.mem_filter.mpr ⟨hc, hi⟩)
  · simpa [hi] using h
set_option maxRecDepth 65536 in
theorem w_c0 : (Jvm.Cond.code x code maxLocals ret).before args0 about1 = true := code_word (m := ⟨1, 1⟩) (meth := k1m1) (c := k1c1) (by decide +kernel) rfl rfl rfl (by decide +kernel)
set_option maxRecDepth 65536 in
theorem w_c1 : (Jvm.Cond.code ({ cls := "com/example/dandelion/dandelion/UriParts", name := "isHexDigit", desc := "(C)Z" } : Jvm.MethodName) prog_33_method_25_code (1 : Nat) (Option.some Jvm.ClassFile.FieldType.boolean)).before args0 about1 = true := code_word (m := ⟨2, 1⟩) (meth := k2m1) (c := k2c1) (by decide +kernel) rfl rfl rfl (by decide +kernel)
set_option maxRecDepth 65536 in
theorem w_c2 : (Jvm.Cond.code ({ cls := "com/example/dandelion/dandelion/UriParts", name := "isDigit", desc := "(C)Z" } : Jvm.MethodName) prog_33_method_24_code (1 : Nat) (Option.some Jvm.ClassFile.FieldType.boolean)).before args0 about1 = true := code_word (m := ⟨2, 0⟩) (meth := k2m0) (c := k2c0) (by decide +kernel) rfl rfl rfl (by decide +kernel)
def codes1 : List Jvm.Cond := [Jvm.Cond.code x code maxLocals ret, Jvm.Cond.code ({ cls := "com/example/dandelion/dandelion/UriParts", name := "isHexDigit", desc := "(C)Z" } : Jvm.MethodName) prog_33_method_25_code (1 : Nat) (Option.some Jvm.ClassFile.FieldType.boolean), Jvm.Cond.code ({ cls := "com/example/dandelion/dandelion/UriParts", name := "isDigit", desc := "(C)Z" } : Jvm.MethodName) prog_33_method_24_code (1 : Nat) (Option.some Jvm.ClassFile.FieldType.boolean)]
set_option maxRecDepth 65536 in
theorem codes_eq : words1.filter isCode = codes1 := rfl
theorem w_codes : ∀ c ∈ words1.filter isCode, c.before args0 about1 = true := by
  rw [codes_eq]
  intro c hc
  simp only [codes1, List.mem_cons, List.not_mem_nil, or_false] at hc
  rcases hc with rfl | rfl | rfl
  · exact w_c0
  · exact w_c1
  · exact w_c2
set_option maxRecDepth 65536 in
theorem w_t1 : words1.all (fun c => isCode c || c.before args0 about1) = true := by decide +kernel
theorem w_tables : (allAtoms (Jvm.Cond.code x code maxLocals ret :: tables_1)).before args0 about1 = true := by
  rw [allAtoms_all]
  show words1.all (fun c => c.before args0 about1) = true
  refine all_split ?_ w_codes
  rw [w_t1]
set_option maxRecDepth 65536 in
theorem w_case : (Jvm.Cond.and given_1 narrow_1).before args0 about1 = true := by decide +kernel
theorem w_applies : (headSpec (Jvm.Cond.code x code maxLocals ret :: tables_1) room_1).applies x e0.platform about1 = true :=
  (Spec.applies_iff w_frames).mpr ⟨w_running, w_runnable, w_alone, w_named, w_hears, w_ripe, w_room, w_tables⟩
theorem atStart : AtStart classFile x code maxLocals ret World_1 tables_1 room_1 Calls_1 rest_1 Pre_1 launch0 p0 e0 about1 theMethod args0 below0 :=
  ⟨lists_1, trivial, launch0.admits_env _ _ _, launch0.least_env, fairChoices_fair.cas, fairChoices_fair.clock, w_frames, w_args, w_heap, w_applies, trivial, trivial, w_case⟩
end start1
theorem witness_1 : WitnessClaimed_1 := ⟨start1.p0, start1.e0, start1.about1, start1.theMethod, start1.args0, start1.below0, start1.atStart⟩
end Jvm.Pilot.@@N@@
