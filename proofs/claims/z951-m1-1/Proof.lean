import JvmDerived
import JvmDerived.Pilot.@@N@@Statement
import JvmDerived.Pilot.@@N@@Code
set_option linter.unusedVariables false
set_option linter.unusedSimpArgs false

namespace Jvm.RoadKit
open Sem ClassFile Op Lib Jvm.Stand Jvm.Free Jvm.LawKit
section New
variable {p : Program} {l : Launch} {e : Env} {R : Room} {s : State} {m : MethodId} {args : Array Value} {below : List Frame} {meth : Method} {c : Code} {T : State} {locs : List Loc} {cells slots : Nat}
theorem retI (X : Stand p l e R s m args below meth c T locs cells slots) (hx : p.tables.exec = Jvm.exec) {pc : Nat} {Ls : Array Slot} {z : Int32} {rest : List Value} (hret : meth.sig.returnType = some .int) (hd : decode c.code pc = .ok (.ireturn, 1)) {fs : List Frame}
    (hl : ∀ (f : JFrame) (acts : List Action), f.method = m → f.locked = none → f.entered = [] → (doReturn e (T.setTop f) acts (some (.int z))).1 = T.setFrames fs) : Steps p.tables e below (T.setTop (mkF m pc Ls (.int z :: rest))) (T.setFrames fs) := by
  have hm' : T.vm.method? m = some meth := X.method'
  have hn : narrow .int (.int z) = .int z := rfl
  show Steps p.tables e below (T.setTop { method := m, pc := pc, locals := Ls, stack := _ :: rest, locked := none }) _
  jvm_step X.here [X.here.top, hx, hd, hm', hret, hn]
  first | (intro acts; rw [hl _ acts rfl rfl rfl]) | rw [hl _ _ rfl rfl rfl]
  exact Steps.refl _
end New
end Jvm.RoadKit
namespace Jvm.Pilot.@@N@@
open Jvm Jvm.ClassFile Sem Op Lib Jvm.Free Jvm.Stand Jvm.LawKit Jvm.RoadKit Bundle Jvm.Pilot.@@N@@.Jvm.D
/-- from A the run comes to B -/
abbrev Wy (tb : Tables) (e : Env) (below : List Frame) (A B : State) : Prop := ∀ t, Steps tb e below B t → Steps tb e below A t
def F1 (ax : Int32) : Int32 := (if ax < (65 : Int32) then (if ax < (97 : Int32) then (0 : Int32) else (if (122 : Int32) < ax then (0 : Int32) else (1 : Int32))) else (if (90 : Int32) < ax then (if ax < (97 : Int32) then (0 : Int32) else (if (122 : Int32) < ax then (0 : Int32) else (1 : Int32))) else (1 : Int32)))
theorem d1_0 : decode prog_14_method_5_code 0 = .ok (.iload_n 0, 1) := by decide +kernel
theorem d1_1 : decode prog_14_method_5_code 1 = .ok (.bipush 65, 2) := by decide +kernel
theorem d1_3 : decode prog_14_method_5_code 3 = .ok (.if_icmp .lt 9, 3) := by decide +kernel
theorem d1_6 : decode prog_14_method_5_code 6 = .ok (.iload_n 0, 1) := by decide +kernel
theorem d1_7 : decode prog_14_method_5_code 7 = .ok (.bipush 90, 2) := by decide +kernel
theorem d1_9 : decode prog_14_method_5_code 9 = .ok (.if_icmp .le 15, 3) := by decide +kernel
theorem d1_12 : decode prog_14_method_5_code 12 = .ok (.iload_n 0, 1) := by decide +kernel
theorem d1_13 : decode prog_14_method_5_code 13 = .ok (.bipush 97, 2) := by decide +kernel
theorem d1_15 : decode prog_14_method_5_code 15 = .ok (.if_icmp .lt 13, 3) := by decide +kernel
theorem d1_18 : decode prog_14_method_5_code 18 = .ok (.iload_n 0, 1) := by decide +kernel
theorem d1_19 : decode prog_14_method_5_code 19 = .ok (.bipush 122, 2) := by decide +kernel
theorem d1_21 : decode prog_14_method_5_code 21 = .ok (.if_icmp .gt 7, 3) := by decide +kernel
theorem d1_24 : decode prog_14_method_5_code 24 = .ok (.iconst 1, 1) := by decide +kernel
theorem d1_25 : decode prog_14_method_5_code 25 = .ok (.goto 4, 3) := by decide +kernel
theorem d1_28 : decode prog_14_method_5_code 28 = .ok (.iconst 0, 1) := by decide +kernel
theorem d1_29 : decode prog_14_method_5_code 29 = .ok (.ireturn, 1) := by decide +kernel
theorem pn_own_site_47 : plainName site_47.cls = true := by first | (simp [plainName, overriddenIn]; done) | decide +kernel
theorem ef_rm1 (m : MethodId) (ax : Int32)  : entryFrame m #[(.int ax)] 1 = (mkF m 0 #[.val (.int ax)] []) := by first | (simp [entryFrame, mkF, argsToLocals, Value.category]; done) | rfl
def Q1 (Z : State) (ax : Int32) (h0 : Heap) (n0 : Nat) (v : Option Value) (h : Heap) (L : List Loc) : Prop := v = some (.int (F1 ax)) ∧ Fr n0 L ∧ h = h0
set_option maxRecDepth 65536 in
set_option maxHeartbeats 40000000 in
theorem rm1 (l : Launch) (Z : State) (a0 : Array Value) (hw : ∀ d ∈ tables_1, d.before a0 Z = true) (ws : List Jvm.Cond) (ax : Int32) (h0 : Heap) (n0 : Nat) (Z0 : n0 ≤ h0.size)  :
    MetFree l (⟨site_47.cls, "isDesignator", "(C)Z"⟩ : MethodName) (head1 (Jvm.Cond.code (⟨site_47.cls, "isDesignator", "(C)Z"⟩ : MethodName) prog_14_method_5_code 1 (some .boolean) :: ws) ({ frames := 0, cells := 0, slots := 0, locals := 0 } : Room)) (fun a U => a = #[(.int ax)] ∧ Z.Warmed39 U.vm ∧ U.heap = h0) (fun _ _ _ _ _ => True) (fun _ U o U' => ∃ v L, o = .returned v ∧ Q1 Z ax h0 n0 v U'.heap L ∧ FrameEnd U o U' L ({ frames := 0, cells := 0, slots := 0, locals := 0 } : Room).cells ({ frames := 0, cells := 0, slots := 0, locals := 0 } : Room).slots) := by
  refine MetFree.of_bodySF (plainFor_of_name pn_own_site_47) hisR ?_
  intro p e s m args below meth c s₁ Bd hml0 hP hK
  obtain ⟨rfl, hZ, hh⟩ := hP
  have hx := Bd.exec
  have hby := Bd.bytes
  have hml : c.maxLocals = 1 := hml0
  have hown : s.vm.findClass site_47.cls = some m.cls := findClass_of_methodNamed Bd.named
  have hnm := (name_of_methodNamed Bd.named Bd.method).1
  have X0 : Stand p l e ({ frames := 0, cells := 0, slots := 0, locals := 0 } : Room) s m #[(.int ax)] below meth c s₁ [] 0 0 := Stand.of_body Bd
  have e0 : s₁.heap = h0 := by rw [← hh, Bd.state]; rfl
  have N0 := Fr.nil n0
  have P0 : Wy p.tables e below (s₁.setTop (entryFrame m #[(.int ax)] 1)) (s₁.setTop (mkF m 0 #[.val (.int ax)] [])) := fun t k => castTop (ef_rm1 m ax) k
  have P1 : Wy p.tables e below (s₁.setTop (entryFrame m #[(.int ax)] 1)) (s₁.setTop (mkF m 3 #[.val (.int ax)] [(.int (65 : Int32)), (.int ax)])) := fun t k => P0 t (by
    show Steps p.tables e below (s₁.setTop (mkF m 0 #[.val (.int ax)] [])) _
    refine XS.iloadN X0.here hx rfl (hb hby d1_0) rfl  ?_
    show Steps p.tables e below (s₁.setTop (mkF m 1 #[.val (.int ax)] [(.int ax)])) _
    refine XS.bipush X0.here hx rfl (hb hby d1_1) ?_
    exact k)
  by_cases hc3_2 : ax < (65 : Int32)
  · have P3 : Wy p.tables e below (s₁.setTop (entryFrame m #[(.int ax)] 1)) (s₁.setTop (mkF m 15 #[.val (.int ax)] [(.int (97 : Int32)), (.int ax)])) := fun t k => P1 t (by
      show Steps p.tables e below (s₁.setTop (mkF m 3 #[.val (.int ax)] [(.int (65 : Int32)), (.int ax)])) _
      refine XS.icmpYes X0.here hx rfl (pc0 := 3) (pc' := 12) rfl (hb hby d1_3) rfl (tlt hc3_2).1 (by decide) (by decide) ?_
      show Steps p.tables e below (s₁.setTop (mkF m 12 #[.val (.int ax)] [])) _
      refine XS.iloadN X0.here hx rfl (hb hby d1_12) rfl  ?_
      show Steps p.tables e below (s₁.setTop (mkF m 13 #[.val (.int ax)] [(.int ax)])) _
      refine XS.bipush X0.here hx rfl (hb hby d1_13) ?_
      exact k)
    by_cases hc15_4 : ax < (97 : Int32)
    · have P5 : Wy p.tables e below (s₁.setTop (entryFrame m #[(.int ax)] 1)) (s₁.setTop (mkF m 29 #[.val (.int ax)] [(.int (0 : Int32))])) := fun t k => P3 t (by
        show Steps p.tables e below (s₁.setTop (mkF m 15 #[.val (.int ax)] [(.int (97 : Int32)), (.int ax)])) _
        refine XS.icmpYes X0.here hx rfl (pc0 := 15) (pc' := 28) rfl (hb hby d1_15) rfl (tlt hc15_4).1 (by decide) (by decide) ?_
        show Steps p.tables e below (s₁.setTop (mkF m 28 #[.val (.int ax)] [])) _
        refine XS.iconst X0.here hx rfl (hb hby d1_28) ?_
        exact k)
      obtain ⟨fs, hr, hrun, hended, hW, hsame⟩ := X0.leave (v := some (.int (nar .boolean (0 : Int32)))) (fun h => by rw [Bd.returns] at h; cases h)
      refine ⟨_, _, P5 _ ?_, hrun, hended, _, _, rfl, ?_, ⟨_, rfl⟩, hW, hsame.mono (by decide) (by decide)⟩
      · show Steps p.tables e below (s₁.setTop (mkF m 29 #[.val (.int ax)] [(.int (0 : Int32))])) _
        exact retN X0 hx (t := .boolean) Bd.returns (by simp) (hb hby d1_29) hr
      · show Q1 Z ax h0 n0 _ s₁.heap _
        rw [e0]
        exact ⟨congrArg (fun z => some (Value.int z)) (show _ = F1 ax from by simp only [F1, if_pos hc3_2, if_pos hc15_4]; try rfl), N0, rfl⟩
    · have P6 : Wy p.tables e below (s₁.setTop (entryFrame m #[(.int ax)] 1)) (s₁.setTop (mkF m 21 #[.val (.int ax)] [(.int (122 : Int32)), (.int ax)])) := fun t k => P3 t (by
        show Steps p.tables e below (s₁.setTop (mkF m 15 #[.val (.int ax)] [(.int (97 : Int32)), (.int ax)])) _
        refine XS.icmpNo X0.here hx rfl (hb hby d1_15) rfl (flt hc15_4).1 ?_
        show Steps p.tables e below (s₁.setTop (mkF m 18 #[.val (.int ax)] [])) _
        refine XS.iloadN X0.here hx rfl (hb hby d1_18) rfl  ?_
        show Steps p.tables e below (s₁.setTop (mkF m 19 #[.val (.int ax)] [(.int ax)])) _
        refine XS.bipush X0.here hx rfl (hb hby d1_19) ?_
        exact k)
      by_cases hc21_7 : (122 : Int32) < ax
      · have P8 : Wy p.tables e below (s₁.setTop (entryFrame m #[(.int ax)] 1)) (s₁.setTop (mkF m 29 #[.val (.int ax)] [(.int (0 : Int32))])) := fun t k => P6 t (by
          show Steps p.tables e below (s₁.setTop (mkF m 21 #[.val (.int ax)] [(.int (122 : Int32)), (.int ax)])) _
          refine XS.icmpYes X0.here hx rfl (pc0 := 21) (pc' := 28) rfl (hb hby d1_21) rfl (tlt hc21_7).2.2.1 (by decide) (by decide) ?_
          show Steps p.tables e below (s₁.setTop (mkF m 28 #[.val (.int ax)] [])) _
          refine XS.iconst X0.here hx rfl (hb hby d1_28) ?_
          exact k)
        obtain ⟨fs, hr, hrun, hended, hW, hsame⟩ := X0.leave (v := some (.int (nar .boolean (0 : Int32)))) (fun h => by rw [Bd.returns] at h; cases h)
        refine ⟨_, _, P8 _ ?_, hrun, hended, _, _, rfl, ?_, ⟨_, rfl⟩, hW, hsame.mono (by decide) (by decide)⟩
        · show Steps p.tables e below (s₁.setTop (mkF m 29 #[.val (.int ax)] [(.int (0 : Int32))])) _
          exact retN X0 hx (t := .boolean) Bd.returns (by simp) (hb hby d1_29) hr
        · show Q1 Z ax h0 n0 _ s₁.heap _
          rw [e0]
          exact ⟨congrArg (fun z => some (Value.int z)) (show _ = F1 ax from by simp only [F1, if_pos hc3_2, if_neg hc15_4, if_pos hc21_7]; try rfl), N0, rfl⟩
      · have P9 : Wy p.tables e below (s₁.setTop (entryFrame m #[(.int ax)] 1)) (s₁.setTop (mkF m 29 #[.val (.int ax)] [(.int (1 : Int32))])) := fun t k => P6 t (by
          show Steps p.tables e below (s₁.setTop (mkF m 21 #[.val (.int ax)] [(.int (122 : Int32)), (.int ax)])) _
          refine XS.icmpNo X0.here hx rfl (hb hby d1_21) rfl (flt hc21_7).2.2.1 ?_
          show Steps p.tables e below (s₁.setTop (mkF m 24 #[.val (.int ax)] [])) _
          refine XS.iconst X0.here hx rfl (hb hby d1_24) ?_
          show Steps p.tables e below (s₁.setTop (mkF m 25 #[.val (.int ax)] [(.int (1 : Int32))])) _
          refine XS.goto X0.here hx rfl (pc0 := 25) (pc' := 29) rfl (hb hby d1_25) (by decide) (by decide) ?_
          exact k)
        obtain ⟨fs, hr, hrun, hended, hW, hsame⟩ := X0.leave (v := some (.int (nar .boolean (1 : Int32)))) (fun h => by rw [Bd.returns] at h; cases h)
        refine ⟨_, _, P9 _ ?_, hrun, hended, _, _, rfl, ?_, ⟨_, rfl⟩, hW, hsame.mono (by decide) (by decide)⟩
        · show Steps p.tables e below (s₁.setTop (mkF m 29 #[.val (.int ax)] [(.int (1 : Int32))])) _
          exact retN X0 hx (t := .boolean) Bd.returns (by simp) (hb hby d1_29) hr
        · show Q1 Z ax h0 n0 _ s₁.heap _
          rw [e0]
          exact ⟨congrArg (fun z => some (Value.int z)) (show _ = F1 ax from by simp only [F1, if_pos hc3_2, if_neg hc15_4, if_neg hc21_7]; try rfl), N0, rfl⟩
  · have P10 : Wy p.tables e below (s₁.setTop (entryFrame m #[(.int ax)] 1)) (s₁.setTop (mkF m 9 #[.val (.int ax)] [(.int (90 : Int32)), (.int ax)])) := fun t k => P1 t (by
      show Steps p.tables e below (s₁.setTop (mkF m 3 #[.val (.int ax)] [(.int (65 : Int32)), (.int ax)])) _
      refine XS.icmpNo X0.here hx rfl (hb hby d1_3) rfl (flt hc3_2).1 ?_
      show Steps p.tables e below (s₁.setTop (mkF m 6 #[.val (.int ax)] [])) _
      refine XS.iloadN X0.here hx rfl (hb hby d1_6) rfl  ?_
      show Steps p.tables e below (s₁.setTop (mkF m 7 #[.val (.int ax)] [(.int ax)])) _
      refine XS.bipush X0.here hx rfl (hb hby d1_7) ?_
      exact k)
    by_cases hc9_11 : (90 : Int32) < ax
    · have P12 : Wy p.tables e below (s₁.setTop (entryFrame m #[(.int ax)] 1)) (s₁.setTop (mkF m 15 #[.val (.int ax)] [(.int (97 : Int32)), (.int ax)])) := fun t k => P10 t (by
        show Steps p.tables e below (s₁.setTop (mkF m 9 #[.val (.int ax)] [(.int (90 : Int32)), (.int ax)])) _
        refine XS.icmpNo X0.here hx rfl (hb hby d1_9) rfl (tlt hc9_11).2.2.2 ?_
        show Steps p.tables e below (s₁.setTop (mkF m 12 #[.val (.int ax)] [])) _
        refine XS.iloadN X0.here hx rfl (hb hby d1_12) rfl  ?_
        show Steps p.tables e below (s₁.setTop (mkF m 13 #[.val (.int ax)] [(.int ax)])) _
        refine XS.bipush X0.here hx rfl (hb hby d1_13) ?_
        exact k)
      by_cases hc15_13 : ax < (97 : Int32)
      · have P14 : Wy p.tables e below (s₁.setTop (entryFrame m #[(.int ax)] 1)) (s₁.setTop (mkF m 29 #[.val (.int ax)] [(.int (0 : Int32))])) := fun t k => P12 t (by
          show Steps p.tables e below (s₁.setTop (mkF m 15 #[.val (.int ax)] [(.int (97 : Int32)), (.int ax)])) _
          refine XS.icmpYes X0.here hx rfl (pc0 := 15) (pc' := 28) rfl (hb hby d1_15) rfl (tlt hc15_13).1 (by decide) (by decide) ?_
          show Steps p.tables e below (s₁.setTop (mkF m 28 #[.val (.int ax)] [])) _
          refine XS.iconst X0.here hx rfl (hb hby d1_28) ?_
          exact k)
        obtain ⟨fs, hr, hrun, hended, hW, hsame⟩ := X0.leave (v := some (.int (nar .boolean (0 : Int32)))) (fun h => by rw [Bd.returns] at h; cases h)
        refine ⟨_, _, P14 _ ?_, hrun, hended, _, _, rfl, ?_, ⟨_, rfl⟩, hW, hsame.mono (by decide) (by decide)⟩
        · show Steps p.tables e below (s₁.setTop (mkF m 29 #[.val (.int ax)] [(.int (0 : Int32))])) _
          exact retN X0 hx (t := .boolean) Bd.returns (by simp) (hb hby d1_29) hr
        · show Q1 Z ax h0 n0 _ s₁.heap _
          rw [e0]
          exact ⟨congrArg (fun z => some (Value.int z)) (show _ = F1 ax from by simp only [F1, if_neg hc3_2, if_pos hc9_11, if_pos hc15_13]; try rfl), N0, rfl⟩
      · have P15 : Wy p.tables e below (s₁.setTop (entryFrame m #[(.int ax)] 1)) (s₁.setTop (mkF m 21 #[.val (.int ax)] [(.int (122 : Int32)), (.int ax)])) := fun t k => P12 t (by
          show Steps p.tables e below (s₁.setTop (mkF m 15 #[.val (.int ax)] [(.int (97 : Int32)), (.int ax)])) _
          refine XS.icmpNo X0.here hx rfl (hb hby d1_15) rfl (flt hc15_13).1 ?_
          show Steps p.tables e below (s₁.setTop (mkF m 18 #[.val (.int ax)] [])) _
          refine XS.iloadN X0.here hx rfl (hb hby d1_18) rfl  ?_
          show Steps p.tables e below (s₁.setTop (mkF m 19 #[.val (.int ax)] [(.int ax)])) _
          refine XS.bipush X0.here hx rfl (hb hby d1_19) ?_
          exact k)
        by_cases hc21_16 : (122 : Int32) < ax
        · have P17 : Wy p.tables e below (s₁.setTop (entryFrame m #[(.int ax)] 1)) (s₁.setTop (mkF m 29 #[.val (.int ax)] [(.int (0 : Int32))])) := fun t k => P15 t (by
            show Steps p.tables e below (s₁.setTop (mkF m 21 #[.val (.int ax)] [(.int (122 : Int32)), (.int ax)])) _
            refine XS.icmpYes X0.here hx rfl (pc0 := 21) (pc' := 28) rfl (hb hby d1_21) rfl (tlt hc21_16).2.2.1 (by decide) (by decide) ?_
            show Steps p.tables e below (s₁.setTop (mkF m 28 #[.val (.int ax)] [])) _
            refine XS.iconst X0.here hx rfl (hb hby d1_28) ?_
            exact k)
          obtain ⟨fs, hr, hrun, hended, hW, hsame⟩ := X0.leave (v := some (.int (nar .boolean (0 : Int32)))) (fun h => by rw [Bd.returns] at h; cases h)
          refine ⟨_, _, P17 _ ?_, hrun, hended, _, _, rfl, ?_, ⟨_, rfl⟩, hW, hsame.mono (by decide) (by decide)⟩
          · show Steps p.tables e below (s₁.setTop (mkF m 29 #[.val (.int ax)] [(.int (0 : Int32))])) _
            exact retN X0 hx (t := .boolean) Bd.returns (by simp) (hb hby d1_29) hr
          · show Q1 Z ax h0 n0 _ s₁.heap _
            rw [e0]
            exact ⟨congrArg (fun z => some (Value.int z)) (show _ = F1 ax from by simp only [F1, if_neg hc3_2, if_pos hc9_11, if_neg hc15_13, if_pos hc21_16]; try rfl), N0, rfl⟩
        · have P18 : Wy p.tables e below (s₁.setTop (entryFrame m #[(.int ax)] 1)) (s₁.setTop (mkF m 29 #[.val (.int ax)] [(.int (1 : Int32))])) := fun t k => P15 t (by
            show Steps p.tables e below (s₁.setTop (mkF m 21 #[.val (.int ax)] [(.int (122 : Int32)), (.int ax)])) _
            refine XS.icmpNo X0.here hx rfl (hb hby d1_21) rfl (flt hc21_16).2.2.1 ?_
            show Steps p.tables e below (s₁.setTop (mkF m 24 #[.val (.int ax)] [])) _
            refine XS.iconst X0.here hx rfl (hb hby d1_24) ?_
            show Steps p.tables e below (s₁.setTop (mkF m 25 #[.val (.int ax)] [(.int (1 : Int32))])) _
            refine XS.goto X0.here hx rfl (pc0 := 25) (pc' := 29) rfl (hb hby d1_25) (by decide) (by decide) ?_
            exact k)
          obtain ⟨fs, hr, hrun, hended, hW, hsame⟩ := X0.leave (v := some (.int (nar .boolean (1 : Int32)))) (fun h => by rw [Bd.returns] at h; cases h)
          refine ⟨_, _, P18 _ ?_, hrun, hended, _, _, rfl, ?_, ⟨_, rfl⟩, hW, hsame.mono (by decide) (by decide)⟩
          · show Steps p.tables e below (s₁.setTop (mkF m 29 #[.val (.int ax)] [(.int (1 : Int32))])) _
            exact retN X0 hx (t := .boolean) Bd.returns (by simp) (hb hby d1_29) hr
          · show Q1 Z ax h0 n0 _ s₁.heap _
            rw [e0]
            exact ⟨congrArg (fun z => some (Value.int z)) (show _ = F1 ax from by simp only [F1, if_neg hc3_2, if_pos hc9_11, if_neg hc15_13, if_neg hc21_16]; try rfl), N0, rfl⟩
    · have P19 : Wy p.tables e below (s₁.setTop (entryFrame m #[(.int ax)] 1)) (s₁.setTop (mkF m 29 #[.val (.int ax)] [(.int (1 : Int32))])) := fun t k => P10 t (by
        show Steps p.tables e below (s₁.setTop (mkF m 9 #[.val (.int ax)] [(.int (90 : Int32)), (.int ax)])) _
        refine XS.icmpYes X0.here hx rfl (pc0 := 9) (pc' := 24) rfl (hb hby d1_9) rfl (flt hc9_11).2.2.2 (by decide) (by decide) ?_
        show Steps p.tables e below (s₁.setTop (mkF m 24 #[.val (.int ax)] [])) _
        refine XS.iconst X0.here hx rfl (hb hby d1_24) ?_
        show Steps p.tables e below (s₁.setTop (mkF m 25 #[.val (.int ax)] [(.int (1 : Int32))])) _
        refine XS.goto X0.here hx rfl (pc0 := 25) (pc' := 29) rfl (hb hby d1_25) (by decide) (by decide) ?_
        exact k)
      obtain ⟨fs, hr, hrun, hended, hW, hsame⟩ := X0.leave (v := some (.int (nar .boolean (1 : Int32)))) (fun h => by rw [Bd.returns] at h; cases h)
      refine ⟨_, _, P19 _ ?_, hrun, hended, _, _, rfl, ?_, ⟨_, rfl⟩, hW, hsame.mono (by decide) (by decide)⟩
      · show Steps p.tables e below (s₁.setTop (mkF m 29 #[.val (.int ax)] [(.int (1 : Int32))])) _
        exact retN X0 hx (t := .boolean) Bd.returns (by simp) (hb hby d1_29) hr
      · show Q1 Z ax h0 n0 _ s₁.heap _
        rw [e0]
        exact ⟨congrArg (fun z => some (Value.int z)) (show _ = F1 ax from by simp only [F1, if_neg hc3_2, if_neg hc9_11]; try rfl), N0, rfl⟩
theorem own_nat {c : Int32} (h : 0 ≤ c.toInt) : c = Int32.ofNat c.toInt.toNat := by
  apply Int32.toInt_inj.mp
  have h1 := c.toInt_lt
  rw [Int32.toInt_ofNat_of_lt (by omega)]
  omega
theorem own_lt {a b : Int32} : a < b ↔ a.toInt < b.toInt := Int32.lt_iff_toInt_lt
theorem own_ltF (k : Nat) (c : Int32) (h0 : 0 ≤ c.toInt) (h1 : c.toInt < k) : ∃ n : Fin k, c = Int32.ofNat n.val :=
  ⟨⟨c.toInt.toNat, by omega⟩, own_nat h0⟩
theorem own_rem (x y : Int32) (hx : 0 ≤ x.toInt) (hy : 0 < y.toInt) : (x - (x / y) * y).toInt = x.toInt % y.toInt := by
  have h1 := (c_idiv x y y.toInt rfl (by intro h; rw [h] at hy; exact absurd hy (by decide))).1 hx
  have h2 := c_imul (x / y) y
  have h3 := c_isub x ((x / y) * y)
  have r1 := rng32 ((x / y) * y)
  have r2 := rng32 (x - (x / y) * y)
  have r3 := rng32 x
  have r4 := rng32 y
  have e : x.toInt / y.toInt * y.toInt = x.toInt - x.toInt % y.toInt := by
    have := Int.emod_def x.toInt y.toInt
    rw [Int.mul_comm] at this
    omega
  rw [h1, e] at h2
  have b1 := Int.emod_nonneg x.toInt (show y.toInt ≠ 0 by omega)
  have b2 := Int.emod_lt_of_pos x.toInt hy
  have b3 : x.toInt % y.toInt ≤ x.toInt := by
    by_cases q : x.toInt < y.toInt
    · rw [Int.emod_eq_of_lt hx q]; omega
    · omega
  omega
theorem own_nm {a b : Addr} (h : a ≠ b) : a ∉ [b] := by simpa using h
theorem own_nm2 {a b c : Addr} (h : a ≠ b) (h2 : a ≠ c) : a ∉ [b, c] := by simp [h, h2]

theorem own_tab : ∀ n : Fin 128, F1 (Int32.ofNat n.val) = (if ((Int32.ofNat n.val) ||| (32 : Int32)) < (97 : Int32) then (0 : Int32) else (if (122 : Int32) < ((Int32.ofNat n.val) ||| (32 : Int32)) then (0 : Int32) else (1 : Int32))) := by decide +kernel
theorem own_law {ax v r : Int32} (hv : v = (ax &&& (65535 : Int32)).toUInt32.toUInt16.toUInt32.toInt32)
    (hr : r = (if v < (128 : Int32) then (if (v ||| (32 : Int32)) < (97 : Int32) then (0 : Int32) else (if (122 : Int32) < (v ||| (32 : Int32)) then (0 : Int32) else (1 : Int32))) else (0 : Int32))) : F1 v = r := by
  have h := c_i2c (ax &&& 65535)
  rw [← hv] at h
  rw [hr]
  by_cases q : v < 128
  · rw [if_pos q]
    rw [own_lt] at q
    obtain ⟨n, rfl⟩ := own_ltF 128 v h.2.1 q
    exact own_tab n
  · rw [if_neg q]
    rw [own_lt] at q
    have e : (128 : Int32).toInt = 128 := rfl
    have e1 : (65 : Int32).toInt = 65 := rfl
    have e2 : (90 : Int32).toInt = 90 := rfl
    have e3 : (97 : Int32).toInt = 97 := rfl
    have e4 : (122 : Int32).toInt = 122 := rfl
    have g1 : ¬ v < 65 := by rw [own_lt]; omega
    have g2 : (90 : Int32) < v := by rw [own_lt]; omega
    have g3 : ¬ v < 97 := by rw [own_lt]; omega
    have g4 : (122 : Int32) < v := by rw [own_lt]; omega
    simp only [F1, if_neg g1, if_pos g2, if_neg g3, if_pos g4]

theorem pn_own_x : plainName x.cls = true := by first | (simp [plainName, overriddenIn]; done) | decide +kernel
theorem pd_lCrZ : parseMethodDescriptor "(C)Z" = some ⟨[.char], some .boolean⟩ := by decide +kernel
theorem ef_rm0 (m : MethodId) (ax : Int32)  : entryFrame m #[(.int ax)] maxLocals = (mkF m 0 #[.val (.int ax), .unset, .unset, .unset, .unset] []) := by first | (simp [entryFrame, mkF, argsToLocals, Value.category, maxLocals]; done) | rfl
def Q0 (Z : State) (ax : Int32) (h0 : Heap) (n0 : Nat) (v : Option Value) (h : Heap) (L : List Loc) : Prop := v = some (.int 1) ∧ Fr n0 L
set_option maxRecDepth 65536 in
set_option maxHeartbeats 40000000 in
theorem rm0 (l : Launch) (Z : State) (a0 : Array Value) (hw : ∀ d ∈ tables_1, d.before a0 Z = true) (ws : List Jvm.Cond) (ax : Int32) (h0 : Heap) (n0 : Nat) (Z0 : n0 ≤ h0.size)  :
    MetFree l x (head1 (Jvm.Cond.code x code maxLocals ret :: ws) room_1) (fun a U => a = #[(.int ax)] ∧ Z.Warmed39 U.vm ∧ U.heap = h0) (fun _ _ _ _ _ => True) (fun _ U o U' => ∃ v L, o = .returned v ∧ Q0 Z ax h0 n0 v U'.heap L ∧ FrameEnd U o U' L room_1.cells room_1.slots) := by
  refine MetFree.of_bodySF (plainFor_of_name pn_own_x) hisR ?_
  intro p e s m args below meth c s₁ Bd hml0 hP hK
  obtain ⟨rfl, hZ, hh⟩ := hP
  have hx := Bd.exec
  have hby := Bd.bytes
  have hml : c.maxLocals = 5 := hml0
  have hown : s.vm.findClass x.cls = some m.cls := findClass_of_methodNamed Bd.named
  have hnm := (name_of_methodNamed Bd.named Bd.method).1
  have X0 : Stand p l e room_1 s m #[(.int ax)] below meth c s₁ [] 0 0 := Stand.of_body Bd
  have e0 : s₁.heap = h0 := by rw [← hh, Bd.state]; rfl
  have N0 := Fr.nil n0
  have P0 : Wy p.tables e below (s₁.setTop (entryFrame m #[(.int ax)] maxLocals)) (s₁.setTop (mkF m 0 #[.val (.int ax), .unset, .unset, .unset, .unset] [])) := fun t k => castTop (ef_rm0 m ax) k
  have P1 : Wy p.tables e below (s₁.setTop (entryFrame m #[(.int ax)] maxLocals)) (s₁.setTop (mkF m 6 #[.val (.int ax), .val (.int ((ax &&& (65535 : Int32)).toUInt32.toUInt16.toUInt32.toInt32)), .unset, .unset, .unset] [])) := fun t k => P0 t (by
    show Steps p.tables e below (s₁.setTop (mkF m 0 #[.val (.int ax), .unset, .unset, .unset, .unset] [])) _
    refine XS.iloadN X0.here hx rfl (hb hby at_0) rfl  ?_
    show Steps p.tables e below (s₁.setTop (mkF m 1 #[.val (.int ax), .unset, .unset, .unset, .unset] [(.int ax)])) _
    refine X0.ldcInt hx hown (mvT hZ (hw _ (List.mem_of_getElem? (i := 0) rfl))) (g := (mkF m 1 #[.val (.int ax), .unset, .unset, .unset, .unset] [(.int ax)])) rfl (hb hby at_1) _ ?_
    show Steps p.tables e below (s₁.setTop (mkF m 3 #[.val (.int ax), .unset, .unset, .unset, .unset] [(.int (65535 : Int32)), (.int ax)])) _
    refine XS.iand X0.here hx rfl (hb hby at_3) rfl ?_
    show Steps p.tables e below (s₁.setTop (mkF m 4 #[.val (.int ax), .unset, .unset, .unset, .unset] [(.int (ax &&& (65535 : Int32)))])) _
    refine XS.i2c X0.here hx rfl (hb hby at_4) rfl ?_
    show Steps p.tables e below (s₁.setTop (mkF m 5 #[.val (.int ax), .unset, .unset, .unset, .unset] [(.int ((ax &&& (65535 : Int32)).toUInt32.toUInt16.toUInt32.toInt32))])) _
    refine XS.istoreN X0.here hx rfl (hb hby at_5) rfl (l' := #[.val (.int ax), .val (.int ((ax &&& (65535 : Int32)).toUInt32.toUInt16.toUInt32.toInt32)), .unset, .unset, .unset]) rfl ?_
    exact k)
  obtain ⟨v2, hv2⟩ : ∃ z : Int32, z = ((ax &&& (65535 : Int32)).toUInt32.toUInt16.toUInt32.toInt32) := ⟨_, rfl⟩
  have P3 : Wy p.tables e below (s₁.setTop (entryFrame m #[(.int ax)] maxLocals)) (s₁.setTop (mkF m 6 #[.val (.int ax), .val (.int v2), .unset, .unset, .unset] [])) := fun t k => by subst hv2; exact P1 t k
  have P4 : Wy p.tables e below (s₁.setTop (entryFrame m #[(.int ax)] maxLocals)) (s₁.setTop (mkF m 8 #[.val (.int ax), .val (.int v2), .val (.int v2), .unset, .unset] [])) := fun t k => P3 t (by
    show Steps p.tables e below (s₁.setTop (mkF m 6 #[.val (.int ax), .val (.int v2), .unset, .unset, .unset] [])) _
    refine XS.iloadN X0.here hx rfl (hb hby at_6) rfl  ?_
    show Steps p.tables e below (s₁.setTop (mkF m 7 #[.val (.int ax), .val (.int v2), .unset, .unset, .unset] [(.int v2)])) _
    refine XS.istoreN X0.here hx rfl (hb hby at_7) rfl (l' := #[.val (.int ax), .val (.int v2), .val (.int v2), .unset, .unset]) rfl ?_
    exact k)
  obtain ⟨r15, sl16, hr15, hsl16, P17⟩ : ∃ r15 : Int32, ∃ sl16 : Slot, r15 = (if v2 < (128 : Int32) then (if (v2 ||| (32 : Int32)) < (97 : Int32) then (0 : Int32) else (if (122 : Int32) < (v2 ||| (32 : Int32)) then (0 : Int32) else (1 : Int32))) else (0 : Int32)) ∧ One sl16 ∧ Wy p.tables e below (s₁.setTop (entryFrame m #[(.int ax)] maxLocals)) (s₁.setTop (mkF m 46 #[.val (.int ax), .val (.int v2), .val (.int v2), .val (.int r15), sl16] [])) := by
    have P18 : Wy p.tables e below (s₁.setTop (entryFrame m #[(.int ax)] maxLocals)) (s₁.setTop (mkF m 12 #[.val (.int ax), .val (.int v2), .val (.int v2), .unset, .unset] [(.int (128 : Int32)), (.int v2)])) := fun t k => P4 t (by
      show Steps p.tables e below (s₁.setTop (mkF m 8 #[.val (.int ax), .val (.int v2), .val (.int v2), .unset, .unset] [])) _
      refine XS.iloadN X0.here hx rfl (hb hby at_8) rfl  ?_
      show Steps p.tables e below (s₁.setTop (mkF m 9 #[.val (.int ax), .val (.int v2), .val (.int v2), .unset, .unset] [(.int v2)])) _
      refine XS.sipush X0.here hx rfl (hb hby at_9) ?_
      exact k)
    by_cases hc12_19 : v2 < (128 : Int32)
    · have P20 : Wy p.tables e below (s₁.setTop (entryFrame m #[(.int ax)] maxLocals)) (s₁.setTop (mkF m 30 #[.val (.int ax), .val (.int v2), .val (.int v2), .unset, .val (.int (v2 ||| (32 : Int32)))] [(.int (97 : Int32)), (.int (v2 ||| (32 : Int32)))])) := fun t k => P18 t (by
        show Steps p.tables e below (s₁.setTop (mkF m 12 #[.val (.int ax), .val (.int v2), .val (.int v2), .unset, .unset] [(.int (128 : Int32)), (.int v2)])) _
        refine XS.icmpYes X0.here hx rfl (pc0 := 12) (pc' := 20) rfl (hb hby at_12) rfl (tlt hc12_19).1 (by decide) (by decide) ?_
        show Steps p.tables e below (s₁.setTop (mkF m 20 #[.val (.int ax), .val (.int v2), .val (.int v2), .unset, .unset] [])) _
        refine XS.iloadN X0.here hx rfl (hb hby at_20) rfl  ?_
        show Steps p.tables e below (s₁.setTop (mkF m 21 #[.val (.int ax), .val (.int v2), .val (.int v2), .unset, .unset] [(.int v2)])) _
        refine XS.bipush X0.here hx rfl (hb hby at_21) ?_
        show Steps p.tables e below (s₁.setTop (mkF m 23 #[.val (.int ax), .val (.int v2), .val (.int v2), .unset, .unset] [(.int (32 : Int32)), (.int v2)])) _
        refine XS.ior X0.here hx rfl (hb hby at_23) rfl ?_
        show Steps p.tables e below (s₁.setTop (mkF m 24 #[.val (.int ax), .val (.int v2), .val (.int v2), .unset, .unset] [(.int (v2 ||| (32 : Int32)))])) _
        refine XS.istore X0.here hx rfl (hb hby at_24) rfl (l' := #[.val (.int ax), .val (.int v2), .val (.int v2), .unset, .val (.int (v2 ||| (32 : Int32)))]) rfl ?_
        show Steps p.tables e below (s₁.setTop (mkF m 26 #[.val (.int ax), .val (.int v2), .val (.int v2), .unset, .val (.int (v2 ||| (32 : Int32)))] [])) _
        refine XS.iload X0.here hx rfl (hb hby at_26) rfl  ?_
        show Steps p.tables e below (s₁.setTop (mkF m 28 #[.val (.int ax), .val (.int v2), .val (.int v2), .unset, .val (.int (v2 ||| (32 : Int32)))] [(.int (v2 ||| (32 : Int32)))])) _
        refine XS.bipush X0.here hx rfl (hb hby at_28) ?_
        exact k)
      by_cases hc30_21 : (v2 ||| (32 : Int32)) < (97 : Int32)
      · have P22 : Wy p.tables e below (s₁.setTop (entryFrame m #[(.int ax)] maxLocals)) (s₁.setTop (mkF m 46 #[.val (.int ax), .val (.int v2), .val (.int v2), .val (.int (0 : Int32)), .val (.int (v2 ||| (32 : Int32)))] [])) := fun t k => P20 t (by
          show Steps p.tables e below (s₁.setTop (mkF m 30 #[.val (.int ax), .val (.int v2), .val (.int v2), .unset, .val (.int (v2 ||| (32 : Int32)))] [(.int (97 : Int32)), (.int (v2 ||| (32 : Int32)))])) _
          refine XS.icmpYes X0.here hx rfl (pc0 := 30) (pc' := 44) rfl (hb hby at_30) rfl (tlt hc30_21).1 (by decide) (by decide) ?_
          show Steps p.tables e below (s₁.setTop (mkF m 44 #[.val (.int ax), .val (.int v2), .val (.int v2), .unset, .val (.int (v2 ||| (32 : Int32)))] [])) _
          refine XS.iconst X0.here hx rfl (hb hby at_44) ?_
          show Steps p.tables e below (s₁.setTop (mkF m 45 #[.val (.int ax), .val (.int v2), .val (.int v2), .unset, .val (.int (v2 ||| (32 : Int32)))] [(.int (0 : Int32))])) _
          refine XS.istoreN X0.here hx rfl (hb hby at_45) rfl (l' := #[.val (.int ax), .val (.int v2), .val (.int v2), .val (.int (0 : Int32)), .val (.int (v2 ||| (32 : Int32)))]) rfl ?_
          exact k)
        exact ⟨(0 : Int32), (.val (.int (v2 ||| (32 : Int32)))), (by simp only [if_pos hc12_19, if_pos hc30_21]), (by first | exact One.u | exact One.val rfl), P22⟩
      · have P23 : Wy p.tables e below (s₁.setTop (entryFrame m #[(.int ax)] maxLocals)) (s₁.setTop (mkF m 37 #[.val (.int ax), .val (.int v2), .val (.int v2), .unset, .val (.int (v2 ||| (32 : Int32)))] [(.int (122 : Int32)), (.int (v2 ||| (32 : Int32)))])) := fun t k => P20 t (by
          show Steps p.tables e below (s₁.setTop (mkF m 30 #[.val (.int ax), .val (.int v2), .val (.int v2), .unset, .val (.int (v2 ||| (32 : Int32)))] [(.int (97 : Int32)), (.int (v2 ||| (32 : Int32)))])) _
          refine XS.icmpNo X0.here hx rfl (hb hby at_30) rfl (flt hc30_21).1 ?_
          show Steps p.tables e below (s₁.setTop (mkF m 33 #[.val (.int ax), .val (.int v2), .val (.int v2), .unset, .val (.int (v2 ||| (32 : Int32)))] [])) _
          refine XS.iload X0.here hx rfl (hb hby at_33) rfl  ?_
          show Steps p.tables e below (s₁.setTop (mkF m 35 #[.val (.int ax), .val (.int v2), .val (.int v2), .unset, .val (.int (v2 ||| (32 : Int32)))] [(.int (v2 ||| (32 : Int32)))])) _
          refine XS.bipush X0.here hx rfl (hb hby at_35) ?_
          exact k)
        by_cases hc37_24 : (122 : Int32) < (v2 ||| (32 : Int32))
        · have P25 : Wy p.tables e below (s₁.setTop (entryFrame m #[(.int ax)] maxLocals)) (s₁.setTop (mkF m 46 #[.val (.int ax), .val (.int v2), .val (.int v2), .val (.int (0 : Int32)), .val (.int (v2 ||| (32 : Int32)))] [])) := fun t k => P23 t (by
            show Steps p.tables e below (s₁.setTop (mkF m 37 #[.val (.int ax), .val (.int v2), .val (.int v2), .unset, .val (.int (v2 ||| (32 : Int32)))] [(.int (122 : Int32)), (.int (v2 ||| (32 : Int32)))])) _
            refine XS.icmpYes X0.here hx rfl (pc0 := 37) (pc' := 44) rfl (hb hby at_37) rfl (tlt hc37_24).2.2.1 (by decide) (by decide) ?_
            show Steps p.tables e below (s₁.setTop (mkF m 44 #[.val (.int ax), .val (.int v2), .val (.int v2), .unset, .val (.int (v2 ||| (32 : Int32)))] [])) _
            refine XS.iconst X0.here hx rfl (hb hby at_44) ?_
            show Steps p.tables e below (s₁.setTop (mkF m 45 #[.val (.int ax), .val (.int v2), .val (.int v2), .unset, .val (.int (v2 ||| (32 : Int32)))] [(.int (0 : Int32))])) _
            refine XS.istoreN X0.here hx rfl (hb hby at_45) rfl (l' := #[.val (.int ax), .val (.int v2), .val (.int v2), .val (.int (0 : Int32)), .val (.int (v2 ||| (32 : Int32)))]) rfl ?_
            exact k)
          exact ⟨(0 : Int32), (.val (.int (v2 ||| (32 : Int32)))), (by simp only [if_pos hc12_19, if_neg hc30_21, if_pos hc37_24]), (by first | exact One.u | exact One.val rfl), P25⟩
        · have P26 : Wy p.tables e below (s₁.setTop (entryFrame m #[(.int ax)] maxLocals)) (s₁.setTop (mkF m 46 #[.val (.int ax), .val (.int v2), .val (.int v2), .val (.int (1 : Int32)), .val (.int (v2 ||| (32 : Int32)))] [])) := fun t k => P23 t (by
            show Steps p.tables e below (s₁.setTop (mkF m 37 #[.val (.int ax), .val (.int v2), .val (.int v2), .unset, .val (.int (v2 ||| (32 : Int32)))] [(.int (122 : Int32)), (.int (v2 ||| (32 : Int32)))])) _
            refine XS.icmpNo X0.here hx rfl (hb hby at_37) rfl (flt hc37_24).2.2.1 ?_
            show Steps p.tables e below (s₁.setTop (mkF m 40 #[.val (.int ax), .val (.int v2), .val (.int v2), .unset, .val (.int (v2 ||| (32 : Int32)))] [])) _
            refine XS.iconst X0.here hx rfl (hb hby at_40) ?_
            show Steps p.tables e below (s₁.setTop (mkF m 41 #[.val (.int ax), .val (.int v2), .val (.int v2), .unset, .val (.int (v2 ||| (32 : Int32)))] [(.int (1 : Int32))])) _
            refine XS.goto X0.here hx rfl (pc0 := 41) (pc' := 45) rfl (hb hby at_41) (by decide) (by decide) ?_
            show Steps p.tables e below (s₁.setTop (mkF m 45 #[.val (.int ax), .val (.int v2), .val (.int v2), .unset, .val (.int (v2 ||| (32 : Int32)))] [(.int (1 : Int32))])) _
            refine XS.istoreN X0.here hx rfl (hb hby at_45) rfl (l' := #[.val (.int ax), .val (.int v2), .val (.int v2), .val (.int (1 : Int32)), .val (.int (v2 ||| (32 : Int32)))]) rfl ?_
            exact k)
          exact ⟨(1 : Int32), (.val (.int (v2 ||| (32 : Int32)))), (by simp only [if_pos hc12_19, if_neg hc30_21, if_neg hc37_24]), (by first | exact One.u | exact One.val rfl), P26⟩
    · have P27 : Wy p.tables e below (s₁.setTop (entryFrame m #[(.int ax)] maxLocals)) (s₁.setTop (mkF m 46 #[.val (.int ax), .val (.int v2), .val (.int v2), .val (.int (0 : Int32)), .unset] [])) := fun t k => P18 t (by
        show Steps p.tables e below (s₁.setTop (mkF m 12 #[.val (.int ax), .val (.int v2), .val (.int v2), .unset, .unset] [(.int (128 : Int32)), (.int v2)])) _
        refine XS.icmpNo X0.here hx rfl (hb hby at_12) rfl (flt hc12_19).1 ?_
        show Steps p.tables e below (s₁.setTop (mkF m 15 #[.val (.int ax), .val (.int v2), .val (.int v2), .unset, .unset] [])) _
        refine XS.iconst X0.here hx rfl (hb hby at_15) ?_
        show Steps p.tables e below (s₁.setTop (mkF m 16 #[.val (.int ax), .val (.int v2), .val (.int v2), .unset, .unset] [(.int (0 : Int32))])) _
        refine XS.istoreN X0.here hx rfl (hb hby at_16) rfl (l' := #[.val (.int ax), .val (.int v2), .val (.int v2), .val (.int (0 : Int32)), .unset]) rfl ?_
        show Steps p.tables e below (s₁.setTop (mkF m 17 #[.val (.int ax), .val (.int v2), .val (.int v2), .val (.int (0 : Int32)), .unset] [])) _
        refine XS.goto X0.here hx rfl (pc0 := 17) (pc' := 46) rfl (hb hby at_17) (by decide) (by decide) ?_
        exact k)
      exact ⟨(0 : Int32), (.unset), (by simp only [if_neg hc12_19]), (by first | exact One.u | exact One.val rfl), P27⟩
  have P28 : Wy p.tables e below (s₁.setTop (entryFrame m #[(.int ax)] maxLocals)) (s₁.setTop (mkF m 47 #[.val (.int ax), .val (.int v2), .val (.int v2), .val (.int r15), sl16] [(.int v2)])) := fun t k => P17 t (by
    show Steps p.tables e below (s₁.setTop (mkF m 46 #[.val (.int ax), .val (.int v2), .val (.int v2), .val (.int r15), sl16] [])) _
    refine XS.iloadN X0.here hx rfl (hb hby at_46) rfl  ?_
    exact k)
  obtain ⟨_, _, ⟨T29, L29, k29, n29⟩, -, X29, ⟨Lc29, hQ29, l29, y29, z29⟩, st29⟩ := Jvm.LawKit.callS X0 hx (y := (⟨site_47.cls, "isDesignator", "(C)Z"⟩ : MethodName)) hown (mvT hZ (hw _ (List.mem_of_getElem? (i := 1) rfl))) (mvT hZ (hw _ (List.mem_of_getElem? (i := 2) rfl))) (mvT hZ (hw _ (List.mem_of_getElem? (i := 3) rfl))) (mvT hZ (hw _ (List.mem_of_getElem? (i := 4) rfl))) (by decide) (backOf (W := 0) (rm1 l Z a0 hw [] v2 h0 n0 Z0 ) hZ (hw _ (List.mem_of_getElem? (i := 4) rfl)) (hw _ (List.mem_of_getElem? (i := 3) rfl)) (by decide) (by decide)) (g := (mkF m 47 #[.val (.int ax), .val (.int v2), .val (.int v2), .val (.int r15), sl16] [(.int v2)])) rfl (by rw [hml]; rfl) (argsL := [(.int v2)]) (rest := []) (lenOf pd_lCrZ rfl) rfl (by show 2 * 0 + _ ≤ _; exact Nat.le_of_eq rfl) (hb hby at_47) (fun _ _ => ⟨rfl, e0, (by decide : 0 + 0 ≤ _), (by decide : 0 + 0 ≤ _)⟩)
  dsimp only [Pt.U, Pt.locs, Pt.cells, Pt.slots] at X29 l29 y29 z29 st29 hQ29
  subst l29 y29 z29
  obtain ⟨rfl, N29q, e29⟩ := hQ29
  have N29 := Fr.app N0 N29q
  have P30 : Wy p.tables e below (s₁.setTop (entryFrame m #[(.int ax)] maxLocals)) (T29.setTop (mkF m 50 #[.val (.int ax), .val (.int v2), .val (.int v2), .val (.int r15), sl16] [(.int (F1 v2))])) := fun t k => P28 t (st29 _ k)
  have P31 : Wy p.tables e below (s₁.setTop (entryFrame m #[(.int ax)] maxLocals)) (T29.setTop (mkF m 59 #[.val (.int ax), .val (.int v2), .val (.int v2), .val (.int r15), sl16] [(.int (1 : Int32))])) := fun t k => P30 t (by
    show Steps p.tables e below (T29.setTop (mkF m 50 #[.val (.int ax), .val (.int v2), .val (.int v2), .val (.int r15), sl16] [(.int (F1 v2))])) _
    refine XS.iloadN X29.here hx rfl (hb hby at_50) rfl  ?_
    show Steps p.tables e below (T29.setTop (mkF m 51 #[.val (.int ax), .val (.int v2), .val (.int v2), .val (.int r15), sl16] [(.int r15), (.int (F1 v2))])) _
    refine XS.icmpNo X29.here hx rfl (hb hby at_51) rfl (teq (own_law hv2 hr15 : (F1 v2) = r15)).2 ?_
    show Steps p.tables e below (T29.setTop (mkF m 54 #[.val (.int ax), .val (.int v2), .val (.int v2), .val (.int r15), sl16] [])) _
    refine XS.iconst X29.here hx rfl (hb hby at_54) ?_
    show Steps p.tables e below (T29.setTop (mkF m 55 #[.val (.int ax), .val (.int v2), .val (.int v2), .val (.int r15), sl16] [(.int (1 : Int32))])) _
    refine XS.goto X29.here hx rfl (pc0 := 55) (pc' := 59) rfl (hb hby at_55) (by decide) (by decide) ?_
    exact k)
  obtain ⟨fs, hr, hrun, hended, hW, hsame⟩ := X29.leave (v := some (.int (nar .boolean (1 : Int32)))) (fun h => by rw [Bd.returns] at h; cases h)
  refine ⟨_, _, P31 _ ?_, hrun, hended, _, _, rfl, ?_, ⟨_, rfl⟩, hW, hsame.mono (by decide) (by decide)⟩
  · show Steps p.tables e below (T29.setTop (mkF m 59 #[.val (.int ax), .val (.int v2), .val (.int v2), .val (.int r15), sl16] [(.int (1 : Int32))])) _
    exact retN X29 hx (t := .boolean) Bd.returns (by simp) (hb hby at_59) hr
  · show Q0 Z ax h0 n0 _ T29.heap _
    rw [e29]
    exact ⟨rfl, N29⟩
set_option maxRecDepth 65536 in
set_option maxHeartbeats 40000000 in
theorem comes_1 {Post : Tables → Env → Array Value → State → Outcome → State → Prop} (hpost : ∀ tb e args s v u, (limb_1_1.after args s (.returned v) u = true ∧ limb_1_2.after args s (.returned v) u = true ∧ True) → FrameEnd s (.returned v) u (Jvm.fieldLocs frame_1_writes args s ++ Jvm.arrayLocs frame_1_arrays args s ++ Jvm.staticLocs frame_1_statics s) 0 0 → Post tb e args s (.returned v) u) :
    ArmFor flags0 classFile x code maxLocals ret World_1 tables_1 room_1 Calls_1 rest_1 Pre_1 Post := by
  intro l hfl _ _ p e ha hc hk s m args below hf hA hF happ hP
  obtain ⟨hcalls, hrest, hpre⟩ := hP
  obtain ⟨-, -, -, hnamed, -, -, -, hat⟩ := (Spec.applies_iff hf).mp happ
  obtain ⟨hg, hn⟩ := and_e (Cond.before_iff.mp (show (Jvm.Cond.and given_1 narrow_1).before args s = true from hpre))
  obtain ⟨g1, g2⟩ := and_e hg
  obtain ⟨w0, rfl⟩ : ∃ w0 : Value, args = #[w0] := by
    have hs : args.size = 1 := by simpa [Cond.value, given_1] using g1
    obtain ⟨L⟩ := args
    match L, hs with
    | [w0], _ => exact ⟨w0, rfl⟩
  have hw := fun d (hd : d ∈ tables_1) => atoms_spec (ws := Jvm.Cond.code x code maxLocals ret :: tables_1) hat d (List.mem_cons_of_mem _ hd)
  have hfit : Fit s := fun {y c} hc i hi => by
    obtain ⟨ha, rfl⟩ := Array.getElem?_eq_some_iff.mp hc
    have q := List.all_eq_true.mp ((Array.all_eq_true_iff_forall_mem.mp hF) _ (Array.getElem_mem ha)) i (List.mem_range.mpr hi)
    simpa [Array.getElem?_eq_getElem hi] using q
  obtain ⟨i0, ei0⟩ := is_v g2
  obtain rfl : w0 = (.int i0) := Option.some.inj ei0
  obtain ⟨n, o, h1, h2, h3, _, L, rfl, ⟨rfl, N⟩, hq⟩ := rm0 l s _ hw tables_1 i0 s.heap s.heap.size (Nat.le_refl _)  p e ha hc hk s m _ below hf ((Spec.applies_iff_loose hf).mp happ).1 ⟨rfl, State.Warmed39.refl s, rfl⟩ trivial
  refine ⟨n, _, h1, h2, h3, hpost _ _ _ _ _ _ ⟨Cond.after_iff.mpr rfl, Cond.after_iff.mpr (eq_i res_at (Term.int_eval (1)) rfl), trivial⟩ ⟨hq.1, hq.2.1, (hq.2.2.sift fun y hy => Or.inr (N y hy)).mono (by decide) (by decide)⟩⟩
theorem main_1_1 : Claimed_1_1 := comes_1 fun _ _ _ _ _ _ h hF => ⟨h.1, hF⟩
theorem main_1_2 : Claimed_1_2 := comes_1 fun _ _ _ _ _ _ h hF => ⟨h.2.1, hF⟩
end Jvm.Pilot.@@N@@
namespace Jvm.Pilot.@@N@@
open Jvm Jvm.ClassFile Sem Op Lib Jvm.Free Jvm.Stand Jvm.Pilot.@@N@@.Jvm.D
/-! MADE BY PROGRAM (witnessworld.py) out of the Statement's table words and the real class files: 10 classes; the members and pool entries that the words name. The judged class is class 1, her method 1. -/
namespace start1
open Jvm.ClassFile
def u (s : String) : CpInfo := .utf8 (stringToUtf16 s)
/-- a pool by its gaps: so many unusable entries, then the entry; so many at the end -/
def gap : Nat → List CpInfo → List CpInfo
  | 0, r => r
  | n + 1, r => .unusable :: gap n r
def poolList (es : List (Nat × CpInfo)) (last : Nat) : List CpInfo := es.foldr (fun e r => gap e.1 (e.2 :: r)) (gap last [])
def pool (es : List (Nat × CpInfo)) (last : Nat) : Array CpInfo := ⟨poolList es last⟩
def fileOf (pool : Array CpInfo) (this : Nat) (attrs : Array Attribute := #[]) (ms : Array MethodInfo := #[]) (fl : Nat := 33) (sup : Nat := 0) (ifs : Array Nat := #[]) (fds : Array FieldInfo := #[]) : ClassFile where
  minorVersion := 0
  majorVersion := 65
  constantPool := pool
  accessFlags := fl
  thisClass := this
  superClass := sup
  interfaces := ifs
  fields := fds
  methods := ms
  attributes := attrs
def plain (name : String) (sup : Option ClassId) : Class where
  name := name
  kind := .ordinary
  loader := none
  accessFlags := 33
  super := sup
  interfaces := #[]
  cf := none
  fields := #[]
  methods := #[]
  instanceTypes := #[]
  staticTypes := #[]
  resolved := #[]
  callSites := []
  init := .initialized
  statics := none
  mirror := none

def pool0 : Array CpInfo := pool [(5, u "<init>"), (0, u "()V"), (1, .class_ 10), (1, u "java/lang/Object")] 113

def k0m0 : Method := { name := "<init>", desc := "()V", sig := { parameters := [], returnType := none }, accessFlags := 1, code := none }
/-- java/lang/Object -/
def k0 : Class := { plain "java/lang/Object" none with
  accessFlags := 33
  interfaces := #[]
  cf := some (fileOf pool0 8 #[] #[{ accessFlags := 1, nameIndex := 5, descriptorIndex := 6, attributes := #[] }] 33 0 #[] #[])
  fields := #[]
  methods := #[k0m0]
  instanceTypes := #[]
  staticTypes := #[]
  resolved := Array.replicate 124 none
  statics := none }

def pool1 : Array CpInfo := pool [(2, .class_ 4), (1, u "java/lang/Object"), (0, u "<init>"), (0, u "()V"), (0, .integer 65535), (0, .methodref 9 10), (0, .class_ 11), (0, .nameAndType 12 13), (0, u site_47.cls), (0, u "isDesignator"), (0, u "(C)Z"), (0, .class_ 15), (0, u x.cls), (2, u "law"), (0, u "(I)Z")] 3

def k1m0 : Method := { name := "<init>", desc := "()V", sig := { parameters := [], returnType := none }, accessFlags := 2, code := none }
def k1c1 : Code := { maxStack := 2, maxLocals := 5, code := code, exceptionTable := #[], attributes := #[] }
def k1m1 : Method := { name := "law", desc := "(I)Z", sig := { parameters := [.int], returnType := some .boolean }, accessFlags := 9, code := some k1c1 }
def k1 : Class := { plain x.cls (some 0) with
  accessFlags := 49
  interfaces := #[]
  cf := some (fileOf pool1 14 #[] #[{ accessFlags := 2, nameIndex := 5, descriptorIndex := 6, attributes := #[] }, { accessFlags := 9, nameIndex := 18, descriptorIndex := 19, attributes := #[] }] 49 2 #[] #[])
  fields := #[]
  methods := #[k1m0, k1m1]
  instanceTypes := #[]
  staticTypes := #[]
  resolved := Array.replicate 23 none
  statics := none }

def pool2 : Array CpInfo := pool [(2, .class_ 4), (1, u "java/lang/Object"), (0, u "<init>"), (0, u "()V"), (0, .class_ 8), (0, u "java/lang/Record")] 13

def k2m0 : Method := { name := "<init>", desc := "()V", sig := { parameters := [], returnType := none }, accessFlags := 4, code := none }
/-- java/lang/Record -/
def k2 : Class := { plain "java/lang/Record" (some 0) with
  accessFlags := 1057
  interfaces := #[]
  cf := some (fileOf pool2 7 #[] #[{ accessFlags := 4, nameIndex := 5, descriptorIndex := 6, attributes := #[] }] 1057 2 #[] #[])
  fields := #[]
  methods := #[k2m0]
  instanceTypes := #[]
  staticTypes := #[]
  resolved := Array.replicate 22 none
  statics := none }

def pool3 : Array CpInfo := pool [(2, .class_ 4), (1, u "java/lang/Record"), (3, u "kind"), (7, u "designator"), (1, .class_ 20), (1, u site_47.cls), (29, u "isDesignator"), (0, u "(C)Z"), (12, u "Lown/DateToken$Kind;"), (2, u "year"), (0, u "I"), (2, u "month"), (2, u "day"), (2, u "hour"), (2, u "minute"), (2, u "second"), (2, u "millisecond"), (2, u "Ljava/util/Optional;"), (1, .class_ 93), (1, u "own/DateToken$Kind"), (10, u "Z_FOR_T_FORM"), (0, u "Ljava/util/regex/Pattern;"), (15, u "TEXT_FORM"), (62, .class_ 186), (1, u "own/DateToken$Field"), (7, u "DIGIT_COUNT"), (2, u "FIELDS"), (0, u "[Lown/DateToken$Field;"), (124, u "DIGITS_BEFORE_T")] 96

def k3c0 : Code := { maxStack := 2, maxLocals := 1, code := prog_14_method_5_code, exceptionTable := #[], attributes := #[] }
def k3m0 : Method := { name := "isDesignator", desc := "(C)Z", sig := { parameters := [.char], returnType := some .boolean }, accessFlags := 8, code := some k3c0 }
def k3 : Class := { plain site_47.cls (some 2) with
  accessFlags := 49
  interfaces := #[]
  cf := some (fileOf pool3 18 #[.nestMembers #[184, 91]] #[{ accessFlags := 8, nameIndex := 50, descriptorIndex := 51, attributes := #[] }] 49 2 #[] #[{ accessFlags := 18, nameIndex := 8, descriptorIndex := 64, attributes := #[] }, { accessFlags := 18, nameIndex := 67, descriptorIndex := 68, attributes := #[] }, { accessFlags := 18, nameIndex := 71, descriptorIndex := 68, attributes := #[] }, { accessFlags := 18, nameIndex := 74, descriptorIndex := 68, attributes := #[] }, { accessFlags := 18, nameIndex := 77, descriptorIndex := 68, attributes := #[] }, { accessFlags := 18, nameIndex := 80, descriptorIndex := 68, attributes := #[] }, { accessFlags := 18, nameIndex := 83, descriptorIndex := 68, attributes := #[] }, { accessFlags := 18, nameIndex := 86, descriptorIndex := 68, attributes := #[] }, { accessFlags := 18, nameIndex := 16, descriptorIndex := 89, attributes := #[] }, { accessFlags := 26, nameIndex := 121, descriptorIndex := 105, attributes := #[] }, { accessFlags := 26, nameIndex := 104, descriptorIndex := 105, attributes := #[] }, { accessFlags := 26, nameIndex := 323, descriptorIndex := 68, attributes := #[] }, { accessFlags := 26, nameIndex := 197, descriptorIndex := 198, attributes := #[] }, { accessFlags := 26, nameIndex := 194, descriptorIndex := 68, attributes := #[] }])
  fields := #[{ name := "kind", type := (.object "own/DateToken$Kind"), accessFlags := 18, slot := 0, constantValue := 0 }, { name := "year", type := .int, accessFlags := 18, slot := 1, constantValue := 0 }, { name := "month", type := .int, accessFlags := 18, slot := 2, constantValue := 0 }, { name := "day", type := .int, accessFlags := 18, slot := 3, constantValue := 0 }, { name := "hour", type := .int, accessFlags := 18, slot := 4, constantValue := 0 }, { name := "minute", type := .int, accessFlags := 18, slot := 5, constantValue := 0 }, { name := "second", type := .int, accessFlags := 18, slot := 6, constantValue := 0 }, { name := "millisecond", type := .int, accessFlags := 18, slot := 7, constantValue := 0 }, { name := "designator", type := (.object "java/util/Optional"), accessFlags := 18, slot := 8, constantValue := 0 }, { name := "TEXT_FORM", type := (.object "java/util/regex/Pattern"), accessFlags := 26, slot := 0, constantValue := 0 }, { name := "Z_FOR_T_FORM", type := (.object "java/util/regex/Pattern"), accessFlags := 26, slot := 1, constantValue := 0 }, { name := "DIGITS_BEFORE_T", type := .int, accessFlags := 26, slot := 2, constantValue := 0 }, { name := "FIELDS", type := (.array (.object "own/DateToken$Field")), accessFlags := 26, slot := 3, constantValue := 0 }, { name := "DIGIT_COUNT", type := .int, accessFlags := 26, slot := 4, constantValue := 0 }]
  methods := #[k3m0]
  instanceTypes := #[(.object "own/DateToken$Kind"), .int, .int, .int, .int, .int, .int, .int, (.object "java/util/Optional")]
  staticTypes := #[(.object "java/util/regex/Pattern"), (.object "java/util/regex/Pattern"), .int, (.array (.object "own/DateToken$Field")), .int]
  resolved := Array.replicate 420 none
  statics := none }

def pool4 : Array CpInfo := pool [(1, u "java/lang/Cloneable"), (0, .class_ 1), (0, u "java/lang/Object"), (0, .class_ 3)] 3

/-- java/lang/Cloneable -/
def k4 : Class := { plain "java/lang/Cloneable" (some 0) with
  accessFlags := 1537
  interfaces := #[]
  cf := some (fileOf pool4 2 #[] #[] 1537 4 #[] #[])
  fields := #[]
  methods := #[]
  instanceTypes := #[]
  staticTypes := #[]
  resolved := Array.replicate 8 none
  statics := none }

def pool5 : Array CpInfo := pool [(1, u "java/io/Serializable"), (0, .class_ 1), (0, u "java/lang/Object"), (0, .class_ 3)] 3

/-- java/io/Serializable -/
def k5 : Class := { plain "java/io/Serializable" (some 0) with
  accessFlags := 1537
  interfaces := #[]
  cf := some (fileOf pool5 2 #[] #[] 1537 4 #[] #[])
  fields := #[]
  methods := #[]
  instanceTypes := #[]
  staticTypes := #[]
  resolved := Array.replicate 8 none
  statics := none }

/-- the primitive byte -/
def k6 : Class := { plain "byte" none with kind := .primitive 'B', accessFlags := 0x411 }
/-- [B -/
def k7 : Class := { plain "[B" (some 0) with kind := .array 6 .byte, interfaces := #[4, 5], accessFlags := 1041 }

/-- the primitive int -/
def k8 : Class := { plain "int" none with kind := .primitive 'I', accessFlags := 0x411 }
/-- [I -/
def k9 : Class := { plain "[I" (some 0) with kind := .array 8 .int, interfaces := #[4, 5], accessFlags := 1041 }

def heap : Heap := #[]
def classes : Array Class := #[k0, k1, k2, k3, k4, k5, k6, k7, k8, k9]
def interned : List (Array UInt16 × Addr) := []
def slotsUsed : Nat := 0
def theMethod : MethodId := ⟨1, 1⟩
def args0 : Array Value := #[.int 5]
def aboutOver (below : List Frame) : State where
  vm := { classes := classes, interned := interned.toArray }
  heap := heap
  slotsUsed := slotsUsed
  threads := #[{ frames := .invoking theMethod args0 :: below }]
def below0 : List Frame := [.native { method := ⟨0, 0⟩, args := #[] }]
def about1 : State := aboutOver below0
def p0 : Program := .bare "" "" ""
def e0 : Env := launch0.env 0 0 0
theorem w_frames : about1.frames = Frame.invoking theMethod args0 :: below0 := rfl
set_option maxRecDepth 65536 in
theorem w_args : argsFit about1.vm theMethod args0 = true := by decide +kernel
set_option maxRecDepth 65536 in
theorem w_heap : heapFits about1 = true := by decide +kernel
set_option maxRecDepth 65536 in
theorem w_runnable : about1.curStatus? = some .runnable := by decide +kernel
set_option maxRecDepth 65536 in
theorem w_alone : about1.alone = true := by decide +kernel
set_option maxRecDepth 65536 in
theorem w_named : about1.methodNamed? x = some theMethod := by decide +kernel
set_option maxRecDepth 65536 in
theorem w_hears : about1.hears theMethod below0 = true := by decide +kernel
set_option maxRecDepth 65536 in
theorem w_ripe : about1.ripe theMethod args0 below0 = true := by decide +kernel
theorem w_running : about1.status = .running := rfl
set_option maxRecDepth 65536 in
theorem w_room : about1.hasRoom e0.platform room_1 = true :=
  launch0.hasRoom_least _ room_1 (by decide +kernel) (by decide +kernel) (by decide +kernel) (by decide +kernel) (by decide +kernel) (by decide +kernel)
theorem allAtoms_all (ts : List Jvm.Cond) (a : Array Jvm.Value) (st : Jvm.State) : (allAtoms ts).before a st = ts.all (fun c => c.before a st) := by
  induction ts with
  | nil => rfl
  | cons c t ih =>
    show (Jvm.Cond.and c (allAtoms t)).before a st = _
    rw [Jvm.Cond.before_and, ih, List.all_cons]
def words1 : List Jvm.Cond := Jvm.Cond.code x code maxLocals ret :: tables_1
/-- a 'code' word, met by the world's own term for the bytes: nothing is compared byte by byte -/
theorem code_word {y : MethodName} {bytes : ByteArray} {mx : Nat} {rt : Option FieldType} {a : Array Value} {s : State} {m : MethodId} {meth : Method} {c : Code} (h1 : s.methodNamed? y = some m) (h2 : s.vm.method? m = some meth) (h3 : meth.code = some c) (h4 : c.code = bytes)
    (h5 : (c.maxLocals == mx && c.exceptionTable.isEmpty && decide (c.maxStack ≤ mostOperands) && decide (meth.sig.returnType = rt) && !meth.locks && decide (parseMethodDescriptor y.desc = some meth.sig)) = true) : (Jvm.Cond.code y bytes mx rt).before a s = true := by
  simp only [Bool.and_eq_true, beq_iff_eq, Bool.not_eq_true', decide_eq_true_eq] at h5
  obtain ⟨⟨⟨⟨⟨g1, g2⟩, g3⟩, g4⟩, g5⟩, g6⟩ := h5
  simp [Cond.before, Cond.holds, Cond.value, h1, h2, h3, h4, g1, g2, g3, g4, g5, g6]
def isCode : Jvm.Cond → Bool
  | .code _ _ _ _ => true
  | _ => false
theorem all_split {L : List Jvm.Cond} {P : Jvm.Cond → Bool} (h1 : L.all (fun c => isCode c || P c) = true) (h2 : ∀ c ∈ L.filter isCode, P c = true) : L.all P = true := by
  refine List.all_eq_true.mpr fun c hc => ?_
  have h := List.all_eq_true.mp h1 c hc
  rcases Bool.eq_false_or_eq_true (isCode c) with hi | hi
  · exact h2 c (List.mem_filter.mpr ⟨hc, hi⟩)
  · simpa [hi] using h
set_option maxRecDepth 65536 in
theorem w_c0 : (Jvm.Cond.code x code maxLocals ret).before args0 about1 = true := code_word (m := ⟨1, 1⟩) (meth := k1m1) (c := k1c1) (by decide +kernel) rfl rfl rfl (by decide +kernel)
set_option maxRecDepth 65536 in
theorem w_c1 : (Jvm.Cond.code ({ cls := site_47.cls, name := "isDesignator", desc := "(C)Z" } : Jvm.MethodName) prog_14_method_5_code (1 : Nat) (Option.some Jvm.ClassFile.FieldType.boolean)).before args0 about1 = true := code_word (m := ⟨3, 0⟩) (meth := k3m0) (c := k3c0) (by decide +kernel) rfl rfl rfl (by decide +kernel)
def codes1 : List Jvm.Cond := [Jvm.Cond.code x code maxLocals ret, Jvm.Cond.code ({ cls := site_47.cls, name := "isDesignator", desc := "(C)Z" } : Jvm.MethodName) prog_14_method_5_code (1 : Nat) (Option.some Jvm.ClassFile.FieldType.boolean)]
set_option maxRecDepth 65536 in
theorem codes_eq : words1.filter isCode = codes1 := rfl
theorem w_codes : ∀ c ∈ words1.filter isCode, c.before args0 about1 = true := by
  rw [codes_eq]
  intro c hc
  simp only [codes1, List.mem_cons, List.not_mem_nil, or_false] at hc
  rcases hc with rfl | rfl
  · exact w_c0
  · exact w_c1
set_option maxRecDepth 65536 in
theorem w_t1 : words1.all (fun c => isCode c || c.before args0 about1) = true := by decide +kernel
theorem w_tables : (allAtoms (Jvm.Cond.code x code maxLocals ret :: tables_1)).before args0 about1 = true := by
  rw [allAtoms_all]
  show words1.all (fun c => c.before args0 about1) = true
  refine all_split ?_ w_codes
  rw [w_t1]
set_option maxRecDepth 65536 in
theorem w_case : (Jvm.Cond.and given_1 narrow_1).before args0 about1 = true := by decide +kernel
theorem w_applies : (headSpec (Jvm.Cond.code x code maxLocals ret :: tables_1) room_1).applies x e0.platform about1 = true :=
  (Spec.applies_iff w_frames).mpr ⟨w_running, w_runnable, w_alone, w_named, w_hears, w_ripe, w_room, w_tables⟩
theorem atStart : AtStart classFile x code maxLocals ret World_1 tables_1 room_1 Calls_1 rest_1 Pre_1 launch0 p0 e0 about1 theMethod args0 below0 :=
  ⟨lists_1, trivial, launch0.admits_env _ _ _, launch0.least_env, fairChoices_fair.cas, fairChoices_fair.clock, w_frames, w_args, w_heap, w_applies, trivial, trivial, w_case⟩
end start1
theorem witness_1 : WitnessClaimed_1 := ⟨start1.p0, start1.e0, start1.about1, start1.theMethod, start1.args0, start1.below0, start1.atStart⟩
end Jvm.Pilot.@@N@@
