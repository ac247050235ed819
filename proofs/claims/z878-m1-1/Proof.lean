import JvmDerived
import JvmDerived.Pilot.@@N@@Statement
import JvmDerived.Pilot.@@N@@Code
set_option linter.unusedVariables false
set_option linter.unusedSimpArgs false

namespace Jvm.RoadKit
open Sem ClassFile Op Lib Jvm.Stand Jvm.Free Jvm.LawKit
section New
variable {p : Program} {l : Launch} {e : Env} {R : Room} {s : State} {m : MethodId} {args : Array Value} {below : List Frame} {meth : Method} {c : Code} {T : State} {locs : List Loc} {cells slots : Nat}
theorem retI (X : Stand p l e R s m args below meth c T locs cells slots) (hx : p.tables.exec = Jvm.exec) {pc : Nat} {Ls : Array Slot} {z : Int32} {rest : List Value} (hret : meth.sig.returnType = some .int) (hd : decode c.code pc = .ok (.ireturn, 1)) {fs : List Frame}
    (hl : ∀ (f : JFrame) (acts : List Action), f.method = m → f.locked = none → f.entered = [] → (doReturn e (T.setTop f) acts (some (.int z))).1 = T.setFrames fs) : Steps p.tables e below (T.setTop (mkF m pc Ls (.int z :: rest))) (T.setFrames fs) := by
  have hm' : T.vm.method? m = some meth := X.method'
  have hn : narrow .int (.int z) = .int z := rfl
  show Steps p.tables e below (T.setTop { method := m, pc := pc, locals := Ls, stack := _ :: rest, locked := none }) _
  jvm_step X.here [X.here.top, hx, hd, hm', hret, hn]
  first | (intro acts; rw [hl _ acts rfl rfl rfl]) | rw [hl _ _ rfl rfl rfl]
  exact Steps.refl _
end New
end Jvm.RoadKit
namespace Jvm.Pilot.@@N@@
open Jvm Jvm.ClassFile Sem Op Lib Jvm.Free Jvm.Stand Jvm.LawKit Jvm.RoadKit Bundle Jvm.Pilot.@@N@@.Jvm.D
/-- from A the run comes to B -/
abbrev Wy (tb : Tables) (e : Env) (below : List Frame) (A B : State) : Prop := ∀ t, Steps tb e below B t → Steps tb e below A t
theorem own_nat {c : Int32} (h : 0 ≤ c.toInt) : c = Int32.ofNat c.toInt.toNat := by
  apply Int32.toInt_inj.mp
  have h1 := c.toInt_lt
  rw [Int32.toInt_ofNat_of_lt (by omega)]
  omega
theorem own_lt {a b : Int32} : a < b ↔ a.toInt < b.toInt := Int32.lt_iff_toInt_lt
theorem own_ltF (k : Nat) (c : Int32) (h0 : 0 ≤ c.toInt) (h1 : c.toInt < k) : ∃ n : Fin k, c = Int32.ofNat n.val :=
  ⟨⟨c.toInt.toNat, by omega⟩, own_nat h0⟩
theorem own_rem (x y : Int32) (hx : 0 ≤ x.toInt) (hy : 0 < y.toInt) : (x - (x / y) * y).toInt = x.toInt % y.toInt := by
  have h1 := (c_idiv x y y.toInt rfl (by intro h; rw [h] at hy; exact absurd hy (by decide))).1 hx
  have h2 := c_imul (x / y) y
  have h3 := c_isub x ((x / y) * y)
  have r1 := rng32 ((x / y) * y)
  have r2 := rng32 (x - (x / y) * y)
  have r3 := rng32 x
  have r4 := rng32 y
  have e : x.toInt / y.toInt * y.toInt = x.toInt - x.toInt % y.toInt := by
    have := Int.emod_def x.toInt y.toInt
    rw [Int.mul_comm] at this
    omega
  rw [h1, e] at h2
  have b1 := Int.emod_nonneg x.toInt (show y.toInt ≠ 0 by omega)
  have b2 := Int.emod_lt_of_pos x.toInt hy
  have b3 : x.toInt % y.toInt ≤ x.toInt := by
    by_cases q : x.toInt < y.toInt
    · rw [Int.emod_eq_of_lt hx q]; omega
    · omega
  omega
theorem own_nm {a b : Addr} (h : a ≠ b) : a ∉ [b] := by simpa using h
theorem own_nm2 {a b c : Addr} (h : a ≠ b) (h2 : a ≠ c) : a ∉ [b, c] := by simp [h, h2]

theorem own_getD (l : List Int32) (k : Nat) : (l.map Value.int).getD k (.int 0) = .int (l.getD k 0) := by
  induction l generalizing k with
  | nil => simp
  | cons a r ih => cases k with
    | zero => simp
    | succ k => simpa using ih k
theorem own_in {cl : Cell} {j : Int32} (h : ¬ (j < 0 ∨ cl.slots.size ≤ j.toNatClampNeg)) : j.toNatClampNeg < cl.slots.size := Nat.lt_of_not_le fun q => h (Or.inr q)
theorem own_b8 (x : Int32) : x.toInt8.toInt32.toInt8.toInt32 = x.toInt8.toInt32 := by simp
/-- the array at ad is a byte[] of these values -/
def own_By (Z : State) (h : Heap) (ad : Addr) (vs : List Int32) : Prop := ∃ cl : Cell, Arr Z h ad cl .byte ∧ cl.slots.size = vs.length ∧ ∀ k, k < vs.length → cl.slots[k]? = some (.int (vs.getD k 0))
theorem own_by_of {Z : State} {h : Heap} {ad : Addr} {k : ClassId} {z : Int32} {ws : List Value} {vs : List Int32} (V : Arv Z h ad k .byte z ws (.int 0)) (hw : ws = vs.map Value.int) (hz : z.toNatClampNeg = vs.length) : own_By Z h ad vs := by
  obtain ⟨cl, A, -, S, -, H, -⟩ := V
  exact ⟨cl, A, by rw [S, hz], fun k hk => by rw [H k (by rw [S, hz]; exact hk), hw, own_getD]⟩
theorem own_at {cl : Cell} {vs : List Int32} {j : Int32} (Sz : cl.slots.size = vs.length) (Ha : ∀ k, k < vs.length → cl.slots[k]? = some (.int (vs.getD k 0))) (h0 : 0 ≤ j.toInt) (h1 : j.toInt < vs.length) :
    (¬ (j < 0 ∨ cl.slots.size ≤ j.toNatClampNeg)) ∧ cl.slots[j.toNatClampNeg]? = some (.int (vs.getD j.toNatClampNeg 0)) := by
  have e : j.toNatClampNeg = j.toInt.toNat := rfl
  have z : (0 : Int32).toInt = 0 := rfl
  refine ⟨?_, Ha _ (by omega)⟩
  rw [Int32.lt_iff_toInt_lt, Sz]
  omega
theorem own_ofN {n : Nat} (h : n < 2147483648) : (Int32.ofNat n).toInt = n := Int32.toInt_ofNat_of_lt h
theorem own_ofC {n : Nat} (h : n < 2147483648) : (Int32.ofNat n).toNatClampNeg = n := Int32.toNatClampNeg_ofNat_of_lt h
theorem own_one (i : Nat) : Int32.ofNat i + (1 : Int32) = Int32.ofNat (i + 1) := (Int32.ofNat_add i 1).symm
theorem own_ltN {i t : Nat} (hi : i < 2147483648) (ht : t < 2147483648) : Int32.ofNat i < Int32.ofNat t ↔ i < t := by
  rw [Int32.lt_iff_toInt_lt, own_ofN hi, own_ofN ht]; omega

def F1 (ax : Int32) : Int32 := (if ax = (32 : Int32) then (1 : Int32) else (if ax = (9 : Int32) then (1 : Int32) else (if ax = (13 : Int32) then (1 : Int32) else (if ax = (10 : Int32) then (1 : Int32) else (0 : Int32)))))
theorem d1_0 : decode prog_19_method_9_code 0 = .ok (.iload_n 0, 1) := by decide +kernel
theorem d1_1 : decode prog_19_method_9_code 1 = .ok (.bipush 32, 2) := by decide +kernel
theorem d1_3 : decode prog_19_method_9_code 3 = .ok (.if_icmp .eq 21, 3) := by decide +kernel
theorem d1_6 : decode prog_19_method_9_code 6 = .ok (.iload_n 0, 1) := by decide +kernel
theorem d1_7 : decode prog_19_method_9_code 7 = .ok (.bipush 9, 2) := by decide +kernel
theorem d1_9 : decode prog_19_method_9_code 9 = .ok (.if_icmp .eq 15, 3) := by decide +kernel
theorem d1_12 : decode prog_19_method_9_code 12 = .ok (.iload_n 0, 1) := by decide +kernel
theorem d1_13 : decode prog_19_method_9_code 13 = .ok (.bipush 13, 2) := by decide +kernel
theorem d1_15 : decode prog_19_method_9_code 15 = .ok (.if_icmp .eq 9, 3) := by decide +kernel
theorem d1_18 : decode prog_19_method_9_code 18 = .ok (.iload_n 0, 1) := by decide +kernel
theorem d1_19 : decode prog_19_method_9_code 19 = .ok (.bipush 10, 2) := by decide +kernel
theorem d1_21 : decode prog_19_method_9_code 21 = .ok (.if_icmp .ne 7, 3) := by decide +kernel
theorem d1_24 : decode prog_19_method_9_code 24 = .ok (.iconst 1, 1) := by decide +kernel
theorem d1_25 : decode prog_19_method_9_code 25 = .ok (.goto 4, 3) := by decide +kernel
theorem d1_28 : decode prog_19_method_9_code 28 = .ok (.iconst 0, 1) := by decide +kernel
theorem d1_29 : decode prog_19_method_9_code 29 = .ok (.ireturn, 1) := by decide +kernel
theorem pn_com_example_dandelion_dandelion_FieldText : plainName "com/example/dandelion/dandelion/FieldText" = true := by first | (simp [plainName, overriddenIn]; done) | decide +kernel
theorem ef_rm1 (m : MethodId) (ax : Int32)  : entryFrame m #[(.int ax)] 1 = (mkF m 0 #[.val (.int ax)] []) := by first | (simp [entryFrame, mkF, argsToLocals, Value.category]; done) | rfl
def Q1 (Z : State) (ax : Int32) (h0 : Heap) (n0 : Nat) (v : Option Value) (h : Heap) (L : List Loc) : Prop := v = some (.int (F1 ax)) ∧ Fr n0 L ∧ h = h0
set_option maxRecDepth 65536 in
set_option maxHeartbeats 40000000 in
theorem rm1 (l : Launch) (Z : State) (a0 : Array Value) (hw : ∀ d ∈ tables_1, d.before a0 Z = true) (ws : List Jvm.Cond) (ax : Int32) (h0 : Heap) (n0 : Nat) (Z0 : n0 ≤ h0.size)  :
    MetFree l (⟨"com/example/dandelion/dandelion/FieldText", "isSpace", "(C)Z"⟩ : MethodName) (head1 (Jvm.Cond.code (⟨"com/example/dandelion/dandelion/FieldText", "isSpace", "(C)Z"⟩ : MethodName) prog_19_method_9_code 1 (some .boolean) :: ws) ({ frames := 0, cells := 0, slots := 0, locals := 0 } : Room)) (fun a U => a = #[(.int ax)] ∧ Z.Warmed39 U.vm ∧ U.heap = h0) (fun _ _ _ _ _ => True) (fun _ U o U' => ∃ v L, o = .returned v ∧ Q1 Z ax h0 n0 v U'.heap L ∧ FrameEnd U o U' L ({ frames := 0, cells := 0, slots := 0, locals := 0 } : Room).cells ({ frames := 0, cells := 0, slots := 0, locals := 0 } : Room).slots) := by
  refine MetFree.of_bodySF (plainFor_of_name pn_com_example_dandelion_dandelion_FieldText) hisR ?_
  intro p e s m args below meth c s₁ Bd hml0 hP hK
  obtain ⟨rfl, hZ, hh⟩ := hP
  have hx := Bd.exec
  have hby := Bd.bytes
  have hml : c.maxLocals = 1 := hml0
  have hown : s.vm.findClass "com/example/dandelion/dandelion/FieldText" = some m.cls := findClass_of_methodNamed Bd.named
  have hnm := (name_of_methodNamed Bd.named Bd.method).1
  have X0 : Stand p l e ({ frames := 0, cells := 0, slots := 0, locals := 0 } : Room) s m #[(.int ax)] below meth c s₁ [] 0 0 := Stand.of_body Bd
  have e0 : s₁.heap = h0 := by rw [← hh, Bd.state]; rfl
  have N0 := Fr.nil n0
  have P0 : Wy p.tables e below (s₁.setTop (entryFrame m #[(.int ax)] 1)) (s₁.setTop (mkF m 0 #[.val (.int ax)] [])) := fun t k => castTop (ef_rm1 m ax) k
  have P1 : Wy p.tables e below (s₁.setTop (entryFrame m #[(.int ax)] 1)) (s₁.setTop (mkF m 3 #[.val (.int ax)] [(.int (32 : Int32)), (.int ax)])) := fun t k => P0 t (by
    show Steps p.tables e below (s₁.setTop (mkF m 0 #[.val (.int ax)] [])) _
    refine XS.iloadN X0.here hx rfl (hb hby d1_0) rfl  ?_
    show Steps p.tables e below (s₁.setTop (mkF m 1 #[.val (.int ax)] [(.int ax)])) _
    refine XS.bipush X0.here hx rfl (hb hby d1_1) ?_
    exact k)
  by_cases hc3_2 : ax = (32 : Int32)
  · have P3 : Wy p.tables e below (s₁.setTop (entryFrame m #[(.int ax)] 1)) (s₁.setTop (mkF m 29 #[.val (.int ax)] [(.int (1 : Int32))])) := fun t k => P1 t (by
      show Steps p.tables e below (s₁.setTop (mkF m 3 #[.val (.int ax)] [(.int (32 : Int32)), (.int ax)])) _
      refine XS.icmpYes X0.here hx rfl (pc0 := 3) (pc' := 24) rfl (hb hby d1_3) rfl (teq hc3_2).1 (by decide) (by decide) ?_
      show Steps p.tables e below (s₁.setTop (mkF m 24 #[.val (.int ax)] [])) _
      refine XS.iconst X0.here hx rfl (hb hby d1_24) ?_
      show Steps p.tables e below (s₁.setTop (mkF m 25 #[.val (.int ax)] [(.int (1 : Int32))])) _
      refine XS.goto X0.here hx rfl (pc0 := 25) (pc' := 29) rfl (hb hby d1_25) (by decide) (by decide) ?_
      exact k)
    obtain ⟨fs, hr, hrun, hended, hW, hsame⟩ := X0.leave (v := some (.int (nar .boolean (1 : Int32)))) (fun h => by rw [Bd.returns] at h; cases h)
    refine ⟨_, _, P3 _ ?_, hrun, hended, _, _, rfl, ?_, ⟨_, rfl⟩, hW, hsame.mono (by decide) (by decide)⟩
    · show Steps p.tables e below (s₁.setTop (mkF m 29 #[.val (.int ax)] [(.int (1 : Int32))])) _
      exact retN X0 hx (t := .boolean) Bd.returns (by simp) (hb hby d1_29) hr
    · show Q1 Z ax h0 n0 _ s₁.heap _
      rw [e0]
      exact ⟨congrArg (fun z => some (Value.int z)) (show _ = F1 ax from by simp only [F1, if_pos hc3_2]; try rfl), N0, rfl⟩
  · have P4 : Wy p.tables e below (s₁.setTop (entryFrame m #[(.int ax)] 1)) (s₁.setTop (mkF m 9 #[.val (.int ax)] [(.int (9 : Int32)), (.int ax)])) := fun t k => P1 t (by
      show Steps p.tables e below (s₁.setTop (mkF m 3 #[.val (.int ax)] [(.int (32 : Int32)), (.int ax)])) _
      refine XS.icmpNo X0.here hx rfl (hb hby d1_3) rfl (feq hc3_2).1 ?_
      show Steps p.tables e below (s₁.setTop (mkF m 6 #[.val (.int ax)] [])) _
      refine XS.iloadN X0.here hx rfl (hb hby d1_6) rfl  ?_
      show Steps p.tables e below (s₁.setTop (mkF m 7 #[.val (.int ax)] [(.int ax)])) _
      refine XS.bipush X0.here hx rfl (hb hby d1_7) ?_
      exact k)
    by_cases hc9_5 : ax = (9 : Int32)
    · have P6 : Wy p.tables e below (s₁.setTop (entryFrame m #[(.int ax)] 1)) (s₁.setTop (mkF m 29 #[.val (.int ax)] [(.int (1 : Int32))])) := fun t k => P4 t (by
        show Steps p.tables e below (s₁.setTop (mkF m 9 #[.val (.int ax)] [(.int (9 : Int32)), (.int ax)])) _
        refine XS.icmpYes X0.here hx rfl (pc0 := 9) (pc' := 24) rfl (hb hby d1_9) rfl (teq hc9_5).1 (by decide) (by decide) ?_
        show Steps p.tables e below (s₁.setTop (mkF m 24 #[.val (.int ax)] [])) _
        refine XS.iconst X0.here hx rfl (hb hby d1_24) ?_
        show Steps p.tables e below (s₁.setTop (mkF m 25 #[.val (.int ax)] [(.int (1 : Int32))])) _
        refine XS.goto X0.here hx rfl (pc0 := 25) (pc' := 29) rfl (hb hby d1_25) (by decide) (by decide) ?_
        exact k)
      obtain ⟨fs, hr, hrun, hended, hW, hsame⟩ := X0.leave (v := some (.int (nar .boolean (1 : Int32)))) (fun h => by rw [Bd.returns] at h; cases h)
      refine ⟨_, _, P6 _ ?_, hrun, hended, _, _, rfl, ?_, ⟨_, rfl⟩, hW, hsame.mono (by decide) (by decide)⟩
      · show Steps p.tables e below (s₁.setTop (mkF m 29 #[.val (.int ax)] [(.int (1 : Int32))])) _
        exact retN X0 hx (t := .boolean) Bd.returns (by simp) (hb hby d1_29) hr
      · show Q1 Z ax h0 n0 _ s₁.heap _
        rw [e0]
        exact ⟨congrArg (fun z => some (Value.int z)) (show _ = F1 ax from by simp only [F1, if_neg hc3_2, if_pos hc9_5]; try rfl), N0, rfl⟩
    · have P7 : Wy p.tables e below (s₁.setTop (entryFrame m #[(.int ax)] 1)) (s₁.setTop (mkF m 15 #[.val (.int ax)] [(.int (13 : Int32)), (.int ax)])) := fun t k => P4 t (by
        show Steps p.tables e below (s₁.setTop (mkF m 9 #[.val (.int ax)] [(.int (9 : Int32)), (.int ax)])) _
        refine XS.icmpNo X0.here hx rfl (hb hby d1_9) rfl (feq hc9_5).1 ?_
        show Steps p.tables e below (s₁.setTop (mkF m 12 #[.val (.int ax)] [])) _
        refine XS.iloadN X0.here hx rfl (hb hby d1_12) rfl  ?_
        show Steps p.tables e below (s₁.setTop (mkF m 13 #[.val (.int ax)] [(.int ax)])) _
        refine XS.bipush X0.here hx rfl (hb hby d1_13) ?_
        exact k)
      by_cases hc15_8 : ax = (13 : Int32)
      · have P9 : Wy p.tables e below (s₁.setTop (entryFrame m #[(.int ax)] 1)) (s₁.setTop (mkF m 29 #[.val (.int ax)] [(.int (1 : Int32))])) := fun t k => P7 t (by
          show Steps p.tables e below (s₁.setTop (mkF m 15 #[.val (.int ax)] [(.int (13 : Int32)), (.int ax)])) _
          refine XS.icmpYes X0.here hx rfl (pc0 := 15) (pc' := 24) rfl (hb hby d1_15) rfl (teq hc15_8).1 (by decide) (by decide) ?_
          show Steps p.tables e below (s₁.setTop (mkF m 24 #[.val (.int ax)] [])) _
          refine XS.iconst X0.here hx rfl (hb hby d1_24) ?_
          show Steps p.tables e below (s₁.setTop (mkF m 25 #[.val (.int ax)] [(.int (1 : Int32))])) _
          refine XS.goto X0.here hx rfl (pc0 := 25) (pc' := 29) rfl (hb hby d1_25) (by decide) (by decide) ?_
          exact k)
        obtain ⟨fs, hr, hrun, hended, hW, hsame⟩ := X0.leave (v := some (.int (nar .boolean (1 : Int32)))) (fun h => by rw [Bd.returns] at h; cases h)
        refine ⟨_, _, P9 _ ?_, hrun, hended, _, _, rfl, ?_, ⟨_, rfl⟩, hW, hsame.mono (by decide) (by decide)⟩
        · show Steps p.tables e below (s₁.setTop (mkF m 29 #[.val (.int ax)] [(.int (1 : Int32))])) _
          exact retN X0 hx (t := .boolean) Bd.returns (by simp) (hb hby d1_29) hr
        · show Q1 Z ax h0 n0 _ s₁.heap _
          rw [e0]
          exact ⟨congrArg (fun z => some (Value.int z)) (show _ = F1 ax from by simp only [F1, if_neg hc3_2, if_neg hc9_5, if_pos hc15_8]; try rfl), N0, rfl⟩
      · have P10 : Wy p.tables e below (s₁.setTop (entryFrame m #[(.int ax)] 1)) (s₁.setTop (mkF m 21 #[.val (.int ax)] [(.int (10 : Int32)), (.int ax)])) := fun t k => P7 t (by
          show Steps p.tables e below (s₁.setTop (mkF m 15 #[.val (.int ax)] [(.int (13 : Int32)), (.int ax)])) _
          refine XS.icmpNo X0.here hx rfl (hb hby d1_15) rfl (feq hc15_8).1 ?_
          show Steps p.tables e below (s₁.setTop (mkF m 18 #[.val (.int ax)] [])) _
          refine XS.iloadN X0.here hx rfl (hb hby d1_18) rfl  ?_
          show Steps p.tables e below (s₁.setTop (mkF m 19 #[.val (.int ax)] [(.int ax)])) _
          refine XS.bipush X0.here hx rfl (hb hby d1_19) ?_
          exact k)
        by_cases hc21_11 : ax = (10 : Int32)
        · have P12 : Wy p.tables e below (s₁.setTop (entryFrame m #[(.int ax)] 1)) (s₁.setTop (mkF m 29 #[.val (.int ax)] [(.int (1 : Int32))])) := fun t k => P10 t (by
            show Steps p.tables e below (s₁.setTop (mkF m 21 #[.val (.int ax)] [(.int (10 : Int32)), (.int ax)])) _
            refine XS.icmpNo X0.here hx rfl (hb hby d1_21) rfl (teq hc21_11).2 ?_
            show Steps p.tables e below (s₁.setTop (mkF m 24 #[.val (.int ax)] [])) _
            refine XS.iconst X0.here hx rfl (hb hby d1_24) ?_
            show Steps p.tables e below (s₁.setTop (mkF m 25 #[.val (.int ax)] [(.int (1 : Int32))])) _
            refine XS.goto X0.here hx rfl (pc0 := 25) (pc' := 29) rfl (hb hby d1_25) (by decide) (by decide) ?_
            exact k)
          obtain ⟨fs, hr, hrun, hended, hW, hsame⟩ := X0.leave (v := some (.int (nar .boolean (1 : Int32)))) (fun h => by rw [Bd.returns] at h; cases h)
          refine ⟨_, _, P12 _ ?_, hrun, hended, _, _, rfl, ?_, ⟨_, rfl⟩, hW, hsame.mono (by decide) (by decide)⟩
          · show Steps p.tables e below (s₁.setTop (mkF m 29 #[.val (.int ax)] [(.int (1 : Int32))])) _
            exact retN X0 hx (t := .boolean) Bd.returns (by simp) (hb hby d1_29) hr
          · show Q1 Z ax h0 n0 _ s₁.heap _
            rw [e0]
            exact ⟨congrArg (fun z => some (Value.int z)) (show _ = F1 ax from by simp only [F1, if_neg hc3_2, if_neg hc9_5, if_neg hc15_8, if_pos hc21_11]; try rfl), N0, rfl⟩
        · have P13 : Wy p.tables e below (s₁.setTop (entryFrame m #[(.int ax)] 1)) (s₁.setTop (mkF m 29 #[.val (.int ax)] [(.int (0 : Int32))])) := fun t k => P10 t (by
            show Steps p.tables e below (s₁.setTop (mkF m 21 #[.val (.int ax)] [(.int (10 : Int32)), (.int ax)])) _
            refine XS.icmpYes X0.here hx rfl (pc0 := 21) (pc' := 28) rfl (hb hby d1_21) rfl (feq hc21_11).2 (by decide) (by decide) ?_
            show Steps p.tables e below (s₁.setTop (mkF m 28 #[.val (.int ax)] [])) _
            refine XS.iconst X0.here hx rfl (hb hby d1_28) ?_
            exact k)
          obtain ⟨fs, hr, hrun, hended, hW, hsame⟩ := X0.leave (v := some (.int (nar .boolean (0 : Int32)))) (fun h => by rw [Bd.returns] at h; cases h)
          refine ⟨_, _, P13 _ ?_, hrun, hended, _, _, rfl, ?_, ⟨_, rfl⟩, hW, hsame.mono (by decide) (by decide)⟩
          · show Steps p.tables e below (s₁.setTop (mkF m 29 #[.val (.int ax)] [(.int (0 : Int32))])) _
            exact retN X0 hx (t := .boolean) Bd.returns (by simp) (hb hby d1_29) hr
          · show Q1 Z ax h0 n0 _ s₁.heap _
            rw [e0]
            exact ⟨congrArg (fun z => some (Value.int z)) (show _ = F1 ax from by simp only [F1, if_neg hc3_2, if_neg hc9_5, if_neg hc15_8, if_neg hc21_11]; try rfl), N0, rfl⟩
def own_picks : List Int32 := [9, 10, 13, 32, 11, 12, 133, 160, 8232, 12288, 28, 33]
theorem own_pk (k : Nat) : 0 ≤ (own_picks.getD k 0).toInt := by
  by_cases h : k < 12
  · have q : ∀ n : Fin 12, 0 ≤ (own_picks.getD n.val 0).toInt := by decide
    exact q ⟨k, h⟩
  · have e : own_picks.getD k 0 = 0 := by
      rw [List.getD_eq_getElem?_getD, List.getElem?_eq_none (by show 12 ≤ k; omega)]; rfl
    rw [e]; decide
theorem own_idx (ax : Int32) : ¬ ((ax &&& (2147483647 : Int32)) - ((ax &&& (2147483647 : Int32)) / (12 : Int32)) * (12 : Int32)) < 0 ∧ ((ax &&& (2147483647 : Int32)) - ((ax &&& (2147483647 : Int32)) / (12 : Int32)) * (12 : Int32)) < 12 := by
  have h1 := c_and ax 2147483647 (by decide)
  have h2 := own_rem (ax &&& 2147483647) 12 h1.1 (by decide)
  rw [show (12 : Int32).toInt = 12 from rfl] at h2
  rw [own_lt, own_lt, h2, show (12 : Int32).toInt = 12 from rfl, show (0 : Int32).toInt = 0 from rfl]
  omega
def own_E (c : Int32) : Int32 := (if c < (64 : Int32) then (if (lcmpW ((((4294977024 : Int64).toUInt64 >>> (c &&& 0x3f).toInt64.toUInt64).toInt64) &&& (1 : Int64)) (0 : Int64)) = (0 : Int32) then (0 : Int32) else (1 : Int32)) else (0 : Int32))
theorem own_tab : ∀ n : Fin 64, F1 (Int32.ofNat n.val) = own_E (Int32.ofNat n.val) := by decide +kernel
theorem own_all (c : Int32) (h0 : 0 ≤ c.toInt) : F1 c = own_E c := by
  by_cases q : c.toInt < 64
  · obtain ⟨n, rfl⟩ := own_ltF 64 c h0 q
    exact own_tab n
  · have e : (64 : Int32).toInt = 64 := rfl
    have g (k : Int32) (hk : k.toInt < 64) : ¬ c = k := fun h => by rw [h] at q; omega
    have g0 : ¬ c < 64 := by rw [own_lt]; omega
    simp only [F1, own_E, if_neg (g 32 (by decide)), if_neg (g 9 (by decide)), if_neg (g 13 (by decide)), if_neg (g 10 (by decide)), if_neg g0]
theorem own_law {ax bx c r : Int32} (hc : c = (if (bx &&& (1 : Int32)) = (0 : Int32) then (ax.toUInt32.toUInt16.toUInt32.toInt32) else (own_picks.getD ((ax &&& (2147483647 : Int32)) - ((ax &&& (2147483647 : Int32)) / (12 : Int32)) * (12 : Int32)).toNatClampNeg 0)))
    (hr : r = own_E c) : F1 c = r := by
  rw [hr]
  apply own_all
  rw [hc]
  split
  · exact (c_i2c ax).2.1
  · exact own_pk _

theorem pn_com_example_dandelion_dandelion_FieldTextIsSpacePinLaw : plainName "com/example/dandelion/dandelion/FieldTextIsSpacePinLaw" = true := by first | (simp [plainName, overriddenIn]; done) | decide +kernel
theorem pd_lCrZ : parseMethodDescriptor "(C)Z" = some ⟨[.char], some .boolean⟩ := by decide +kernel
theorem ef_rm0 (m : MethodId) (ax : Int32) (bx : Int32)  : entryFrame m #[(.int ax), (.int bx)] maxLocals = (mkF m 0 #[.val (.int ax), .val (.int bx), .unset, .unset, .unset] []) := by first | (simp [entryFrame, mkF, argsToLocals, Value.category, maxLocals]; done) | rfl
def Q0 (Z : State) (ax bx : Int32) (h0 : Heap) (n0 : Nat) (v : Option Value) (h : Heap) (L : List Loc) : Prop := v = some (.int 1) ∧ Fr n0 L
set_option maxRecDepth 65536 in
set_option maxHeartbeats 40000000 in
theorem rm0 (l : Launch) (Z : State) (a0 : Array Value) (hw : ∀ d ∈ tables_1, d.before a0 Z = true) (ws : List Jvm.Cond) (ax bx : Int32) (h0 : Heap) (n0 : Nat) (Z0 : n0 ≤ h0.size)  :
    MetFree l x (head1 (Jvm.Cond.code x code maxLocals ret :: ws) room_1) (fun a U => a = #[(.int ax), (.int bx)] ∧ Z.Warmed39 U.vm ∧ U.heap = h0) (fun _ _ _ _ _ => True) (fun _ U o U' => ∃ v L, o = .returned v ∧ Q0 Z ax bx h0 n0 v U'.heap L ∧ FrameEnd U o U' L room_1.cells room_1.slots) := by
  refine MetFree.of_bodySF (plainFor_of_name pn_com_example_dandelion_dandelion_FieldTextIsSpacePinLaw) hisR ?_
  intro p e s m args below meth c s₁ Bd hml0 hP hK
  obtain ⟨rfl, hZ, hh⟩ := hP
  have hx := Bd.exec
  have hby := Bd.bytes
  have hml : c.maxLocals = 5 := hml0
  have hown : s.vm.findClass "com/example/dandelion/dandelion/FieldTextIsSpacePinLaw" = some m.cls := findClass_of_methodNamed Bd.named
  have hnm := (name_of_methodNamed Bd.named Bd.method).1
  have X0 : Stand p l e room_1 s m #[(.int ax), (.int bx)] below meth c s₁ [] 0 0 := Stand.of_body Bd
  have e0 : s₁.heap = h0 := by rw [← hh, Bd.state]; rfl
  have N0 := Fr.nil n0
  have P0 : Wy p.tables e below (s₁.setTop (entryFrame m #[(.int ax), (.int bx)] maxLocals)) (s₁.setTop (mkF m 0 #[.val (.int ax), .val (.int bx), .unset, .unset, .unset] [])) := fun t k => castTop (ef_rm0 m ax bx) k
  have P1 : Wy p.tables e below (s₁.setTop (entryFrame m #[(.int ax), (.int bx)] maxLocals)) (s₁.setTop (mkF m 2 #[.val (.int ax), .val (.int bx), .unset, .unset, .unset] [(.int (12 : Int32))])) := fun t k => P0 t (by
    show Steps p.tables e below (s₁.setTop (mkF m 0 #[.val (.int ax), .val (.int bx), .unset, .unset, .unset] [])) _
    refine XS.bipush X0.here hx rfl (hb hby at_0) ?_
    exact k)
  obtain ⟨T2, h2, k2, X2, e2, E2, A2, st2⟩ := newP X0 hx hZ (hw _ (List.mem_of_getElem? (i := 0) rfl)) e0 (g := (mkF m 2 #[.val (.int ax), .val (.int bx), .unset, .unset, .unset] [(.int (12 : Int32))])) rfl (hb hby at_2) rfl (by decide) (cap := 12) (by decide) (by decide) (by decide) (by decide)
  obtain ⟨b2, g2⟩ : ∃ z, z = h0.size := ⟨_, rfl⟩
  rw [← g2] at A2 st2
  have g_b2 : n0 ≤ b2 := Nat.le_trans Z0 (Nat.le_of_eq g2.symm)
  have z2 : n0 ≤ h2.size := Nat.le_trans Z0 E2.1
  have V2 : Arv Z h2 b2 k2 .char (12 : Int32) [(.int (0 : Int32)), (.int (0 : Int32)), (.int (0 : Int32)), (.int (0 : Int32)), (.int (0 : Int32)), (.int (0 : Int32)), (.int (0 : Int32)), (.int (0 : Int32)), (.int (0 : Int32)), (.int (0 : Int32)), (.int (0 : Int32)), (.int (0 : Int32))] (.int (0 : Int32)) := (Arv.new A2 (by decide)).pad (pad_rep [] (.int (0 : Int32)) 12)
  have P3 : Wy p.tables e below (s₁.setTop (entryFrame m #[(.int ax), (.int bx)] maxLocals)) (T2.setTop (mkF m 4 #[.val (.int ax), .val (.int bx), .unset, .unset, .unset] [(.ref b2)])) := fun t k => P1 t (st2 _ k)
  have P4 : Wy p.tables e below (s₁.setTop (entryFrame m #[(.int ax), (.int bx)] maxLocals)) (T2.setTop (mkF m 9 #[.val (.int ax), .val (.int bx), .val (.ref b2), .unset, .unset] [(.int (9 : Int32)), (.int (0 : Int32)), (.ref b2)])) := fun t k => P3 t (by
    show Steps p.tables e below (T2.setTop (mkF m 4 #[.val (.int ax), .val (.int bx), .unset, .unset, .unset] [(.ref b2)])) _
    refine XS.astoreN X2.here hx rfl (hb hby at_4) rfl rfl (l' := #[.val (.int ax), .val (.int bx), .val (.ref b2), .unset, .unset]) rfl ?_
    show Steps p.tables e below (T2.setTop (mkF m 5 #[.val (.int ax), .val (.int bx), .val (.ref b2), .unset, .unset] [])) _
    refine XS.aloadN X2.here hx rfl (hb hby at_5) rfl rfl  ?_
    show Steps p.tables e below (T2.setTop (mkF m 6 #[.val (.int ax), .val (.int bx), .val (.ref b2), .unset, .unset] [(.ref b2)])) _
    refine XS.iconst X2.here hx rfl (hb hby at_6) ?_
    show Steps p.tables e below (T2.setTop (mkF m 7 #[.val (.int ax), .val (.int bx), .val (.ref b2), .unset, .unset] [(.int (0 : Int32)), (.ref b2)])) _
    refine XS.bipush X2.here hx rfl (hb hby at_7) ?_
    exact k)
  obtain ⟨cl5, Ar5, q5, S5, M5, H5, G5⟩ := V2
  obtain ⟨T5, h5, X5, e5, W5, st5⟩ := stC X2 hx hZ e2 Ar5 (j := (0 : Int32)) (inb_of S5 ⟨by decide, by decide⟩) (g := (mkF m 9 #[.val (.int ax), .val (.int bx), .val (.ref b2), .unset, .unset] [(.int (9 : Int32)), (.int (0 : Int32)), (.ref b2)])) rfl rfl (hb hby at_9)
  have V5 : Arv Z h5 b2 k2 .char (12 : Int32) [(.int ((9 : Int32).toUInt32.toUInt16.toUInt32.toInt32)), (.int (0 : Int32)), (.int (0 : Int32)), (.int (0 : Int32)), (.int (0 : Int32)), (.int (0 : Int32)), (.int (0 : Int32)), (.int (0 : Int32)), (.int (0 : Int32)), (.int (0 : Int32)), (.int (0 : Int32)), (.int (0 : Int32))] (.int (0 : Int32)) := Arv.set Ar5 q5 S5 M5 H5 G5 (fits_nar_char _) W5 0 rfl (Nat.le_of_ble_eq_true rfl)
  have V5b : Arv Z h5 b2 k2 .char (12 : Int32) [(.int (9 : Int32)), (.int (0 : Int32)), (.int (0 : Int32)), (.int (0 : Int32)), (.int (0 : Int32)), (.int (0 : Int32)), (.int (0 : Int32)), (.int (0 : Int32)), (.int (0 : Int32)), (.int (0 : Int32)), (.int (0 : Int32)), (.int (0 : Int32))] (.int (0 : Int32)) := by rw [show ((9 : Int32).toUInt32.toUInt16.toUInt32.toInt32) = (9 : Int32) from by decide] at V5; exact V5
  have N5 := Fr.snoc X5 N0 g_b2
  have z5 : n0 ≤ h5.size := Nat.le_trans z2 (Keep.of_wr W5).1
  have P6 : Wy p.tables e below (s₁.setTop (entryFrame m #[(.int ax), (.int bx)] maxLocals)) (T5.setTop (mkF m 10 #[.val (.int ax), .val (.int bx), .val (.ref b2), .unset, .unset] [])) := fun t k => P4 t (st5 _ k)
  have P7 : Wy p.tables e below (s₁.setTop (entryFrame m #[(.int ax), (.int bx)] maxLocals)) (T5.setTop (mkF m 14 #[.val (.int ax), .val (.int bx), .val (.ref b2), .unset, .unset] [(.int (10 : Int32)), (.int (1 : Int32)), (.ref b2)])) := fun t k => P6 t (by
    show Steps p.tables e below (T5.setTop (mkF m 10 #[.val (.int ax), .val (.int bx), .val (.ref b2), .unset, .unset] [])) _
    refine XS.aloadN X5.here hx rfl (hb hby at_10) rfl rfl  ?_
    show Steps p.tables e below (T5.setTop (mkF m 11 #[.val (.int ax), .val (.int bx), .val (.ref b2), .unset, .unset] [(.ref b2)])) _
    refine XS.iconst X5.here hx rfl (hb hby at_11) ?_
    show Steps p.tables e below (T5.setTop (mkF m 12 #[.val (.int ax), .val (.int bx), .val (.ref b2), .unset, .unset] [(.int (1 : Int32)), (.ref b2)])) _
    refine XS.bipush X5.here hx rfl (hb hby at_12) ?_
    exact k)
  obtain ⟨cl8, Ar8, q8, S8, M8, H8, G8⟩ := V5b
  obtain ⟨T8, h8, X8, e8, W8, st8⟩ := stC X5 hx hZ e5 Ar8 (j := (1 : Int32)) (inb_of S8 ⟨by decide, by decide⟩) (g := (mkF m 14 #[.val (.int ax), .val (.int bx), .val (.ref b2), .unset, .unset] [(.int (10 : Int32)), (.int (1 : Int32)), (.ref b2)])) rfl rfl (hb hby at_14)
  have V8 : Arv Z h8 b2 k2 .char (12 : Int32) [(.int (9 : Int32)), (.int ((10 : Int32).toUInt32.toUInt16.toUInt32.toInt32)), (.int (0 : Int32)), (.int (0 : Int32)), (.int (0 : Int32)), (.int (0 : Int32)), (.int (0 : Int32)), (.int (0 : Int32)), (.int (0 : Int32)), (.int (0 : Int32)), (.int (0 : Int32)), (.int (0 : Int32))] (.int (0 : Int32)) := Arv.set Ar8 q8 S8 M8 H8 G8 (fits_nar_char _) W8 1 rfl (Nat.le_of_ble_eq_true rfl)
  have V8b : Arv Z h8 b2 k2 .char (12 : Int32) [(.int (9 : Int32)), (.int (10 : Int32)), (.int (0 : Int32)), (.int (0 : Int32)), (.int (0 : Int32)), (.int (0 : Int32)), (.int (0 : Int32)), (.int (0 : Int32)), (.int (0 : Int32)), (.int (0 : Int32)), (.int (0 : Int32)), (.int (0 : Int32))] (.int (0 : Int32)) := by rw [show ((10 : Int32).toUInt32.toUInt16.toUInt32.toInt32) = (10 : Int32) from by decide] at V8; exact V8
  have N8 := Fr.snoc X8 N5 g_b2
  have z8 : n0 ≤ h8.size := Nat.le_trans z5 (Keep.of_wr W8).1
  have P9 : Wy p.tables e below (s₁.setTop (entryFrame m #[(.int ax), (.int bx)] maxLocals)) (T8.setTop (mkF m 15 #[.val (.int ax), .val (.int bx), .val (.ref b2), .unset, .unset] [])) := fun t k => P7 t (st8 _ k)
  have P10 : Wy p.tables e below (s₁.setTop (entryFrame m #[(.int ax), (.int bx)] maxLocals)) (T8.setTop (mkF m 19 #[.val (.int ax), .val (.int bx), .val (.ref b2), .unset, .unset] [(.int (13 : Int32)), (.int (2 : Int32)), (.ref b2)])) := fun t k => P9 t (by
    show Steps p.tables e below (T8.setTop (mkF m 15 #[.val (.int ax), .val (.int bx), .val (.ref b2), .unset, .unset] [])) _
    refine XS.aloadN X8.here hx rfl (hb hby at_15) rfl rfl  ?_
    show Steps p.tables e below (T8.setTop (mkF m 16 #[.val (.int ax), .val (.int bx), .val (.ref b2), .unset, .unset] [(.ref b2)])) _
    refine XS.iconst X8.here hx rfl (hb hby at_16) ?_
    show Steps p.tables e below (T8.setTop (mkF m 17 #[.val (.int ax), .val (.int bx), .val (.ref b2), .unset, .unset] [(.int (2 : Int32)), (.ref b2)])) _
    refine XS.bipush X8.here hx rfl (hb hby at_17) ?_
    exact k)
  obtain ⟨cl11, Ar11, q11, S11, M11, H11, G11⟩ := V8b
  obtain ⟨T11, h11, X11, e11, W11, st11⟩ := stC X8 hx hZ e8 Ar11 (j := (2 : Int32)) (inb_of S11 ⟨by decide, by decide⟩) (g := (mkF m 19 #[.val (.int ax), .val (.int bx), .val (.ref b2), .unset, .unset] [(.int (13 : Int32)), (.int (2 : Int32)), (.ref b2)])) rfl rfl (hb hby at_19)
  have V11 : Arv Z h11 b2 k2 .char (12 : Int32) [(.int (9 : Int32)), (.int (10 : Int32)), (.int ((13 : Int32).toUInt32.toUInt16.toUInt32.toInt32)), (.int (0 : Int32)), (.int (0 : Int32)), (.int (0 : Int32)), (.int (0 : Int32)), (.int (0 : Int32)), (.int (0 : Int32)), (.int (0 : Int32)), (.int (0 : Int32)), (.int (0 : Int32))] (.int (0 : Int32)) := Arv.set Ar11 q11 S11 M11 H11 G11 (fits_nar_char _) W11 2 rfl (Nat.le_of_ble_eq_true rfl)
  have V11b : Arv Z h11 b2 k2 .char (12 : Int32) [(.int (9 : Int32)), (.int (10 : Int32)), (.int (13 : Int32)), (.int (0 : Int32)), (.int (0 : Int32)), (.int (0 : Int32)), (.int (0 : Int32)), (.int (0 : Int32)), (.int (0 : Int32)), (.int (0 : Int32)), (.int (0 : Int32)), (.int (0 : Int32))] (.int (0 : Int32)) := by rw [show ((13 : Int32).toUInt32.toUInt16.toUInt32.toInt32) = (13 : Int32) from by decide] at V11; exact V11
  have N11 := Fr.snoc X11 N8 g_b2
  have z11 : n0 ≤ h11.size := Nat.le_trans z8 (Keep.of_wr W11).1
  have P12 : Wy p.tables e below (s₁.setTop (entryFrame m #[(.int ax), (.int bx)] maxLocals)) (T11.setTop (mkF m 20 #[.val (.int ax), .val (.int bx), .val (.ref b2), .unset, .unset] [])) := fun t k => P10 t (st11 _ k)
  have P13 : Wy p.tables e below (s₁.setTop (entryFrame m #[(.int ax), (.int bx)] maxLocals)) (T11.setTop (mkF m 24 #[.val (.int ax), .val (.int bx), .val (.ref b2), .unset, .unset] [(.int (32 : Int32)), (.int (3 : Int32)), (.ref b2)])) := fun t k => P12 t (by
    show Steps p.tables e below (T11.setTop (mkF m 20 #[.val (.int ax), .val (.int bx), .val (.ref b2), .unset, .unset] [])) _
    refine XS.aloadN X11.here hx rfl (hb hby at_20) rfl rfl  ?_
    show Steps p.tables e below (T11.setTop (mkF m 21 #[.val (.int ax), .val (.int bx), .val (.ref b2), .unset, .unset] [(.ref b2)])) _
    refine XS.iconst X11.here hx rfl (hb hby at_21) ?_
    show Steps p.tables e below (T11.setTop (mkF m 22 #[.val (.int ax), .val (.int bx), .val (.ref b2), .unset, .unset] [(.int (3 : Int32)), (.ref b2)])) _
    refine XS.bipush X11.here hx rfl (hb hby at_22) ?_
    exact k)
  obtain ⟨cl14, Ar14, q14, S14, M14, H14, G14⟩ := V11b
  obtain ⟨T14, h14, X14, e14, W14, st14⟩ := stC X11 hx hZ e11 Ar14 (j := (3 : Int32)) (inb_of S14 ⟨by decide, by decide⟩) (g := (mkF m 24 #[.val (.int ax), .val (.int bx), .val (.ref b2), .unset, .unset] [(.int (32 : Int32)), (.int (3 : Int32)), (.ref b2)])) rfl rfl (hb hby at_24)
  have V14 : Arv Z h14 b2 k2 .char (12 : Int32) [(.int (9 : Int32)), (.int (10 : Int32)), (.int (13 : Int32)), (.int ((32 : Int32).toUInt32.toUInt16.toUInt32.toInt32)), (.int (0 : Int32)), (.int (0 : Int32)), (.int (0 : Int32)), (.int (0 : Int32)), (.int (0 : Int32)), (.int (0 : Int32)), (.int (0 : Int32)), (.int (0 : Int32))] (.int (0 : Int32)) := Arv.set Ar14 q14 S14 M14 H14 G14 (fits_nar_char _) W14 3 rfl (Nat.le_of_ble_eq_true rfl)
  have V14b : Arv Z h14 b2 k2 .char (12 : Int32) [(.int (9 : Int32)), (.int (10 : Int32)), (.int (13 : Int32)), (.int (32 : Int32)), (.int (0 : Int32)), (.int (0 : Int32)), (.int (0 : Int32)), (.int (0 : Int32)), (.int (0 : Int32)), (.int (0 : Int32)), (.int (0 : Int32)), (.int (0 : Int32))] (.int (0 : Int32)) := by rw [show ((32 : Int32).toUInt32.toUInt16.toUInt32.toInt32) = (32 : Int32) from by decide] at V14; exact V14
  have N14 := Fr.snoc X14 N11 g_b2
  have z14 : n0 ≤ h14.size := Nat.le_trans z11 (Keep.of_wr W14).1
  have P15 : Wy p.tables e below (s₁.setTop (entryFrame m #[(.int ax), (.int bx)] maxLocals)) (T14.setTop (mkF m 25 #[.val (.int ax), .val (.int bx), .val (.ref b2), .unset, .unset] [])) := fun t k => P13 t (st14 _ k)
  have P16 : Wy p.tables e below (s₁.setTop (entryFrame m #[(.int ax), (.int bx)] maxLocals)) (T14.setTop (mkF m 29 #[.val (.int ax), .val (.int bx), .val (.ref b2), .unset, .unset] [(.int (11 : Int32)), (.int (4 : Int32)), (.ref b2)])) := fun t k => P15 t (by
    show Steps p.tables e below (T14.setTop (mkF m 25 #[.val (.int ax), .val (.int bx), .val (.ref b2), .unset, .unset] [])) _
    refine XS.aloadN X14.here hx rfl (hb hby at_25) rfl rfl  ?_
    show Steps p.tables e below (T14.setTop (mkF m 26 #[.val (.int ax), .val (.int bx), .val (.ref b2), .unset, .unset] [(.ref b2)])) _
    refine XS.iconst X14.here hx rfl (hb hby at_26) ?_
    show Steps p.tables e below (T14.setTop (mkF m 27 #[.val (.int ax), .val (.int bx), .val (.ref b2), .unset, .unset] [(.int (4 : Int32)), (.ref b2)])) _
    refine XS.bipush X14.here hx rfl (hb hby at_27) ?_
    exact k)
  obtain ⟨cl17, Ar17, q17, S17, M17, H17, G17⟩ := V14b
  obtain ⟨T17, h17, X17, e17, W17, st17⟩ := stC X14 hx hZ e14 Ar17 (j := (4 : Int32)) (inb_of S17 ⟨by decide, by decide⟩) (g := (mkF m 29 #[.val (.int ax), .val (.int bx), .val (.ref b2), .unset, .unset] [(.int (11 : Int32)), (.int (4 : Int32)), (.ref b2)])) rfl rfl (hb hby at_29)
  have V17 : Arv Z h17 b2 k2 .char (12 : Int32) [(.int (9 : Int32)), (.int (10 : Int32)), (.int (13 : Int32)), (.int (32 : Int32)), (.int ((11 : Int32).toUInt32.toUInt16.toUInt32.toInt32)), (.int (0 : Int32)), (.int (0 : Int32)), (.int (0 : Int32)), (.int (0 : Int32)), (.int (0 : Int32)), (.int (0 : Int32)), (.int (0 : Int32))] (.int (0 : Int32)) := Arv.set Ar17 q17 S17 M17 H17 G17 (fits_nar_char _) W17 4 rfl (Nat.le_of_ble_eq_true rfl)
  have V17b : Arv Z h17 b2 k2 .char (12 : Int32) [(.int (9 : Int32)), (.int (10 : Int32)), (.int (13 : Int32)), (.int (32 : Int32)), (.int (11 : Int32)), (.int (0 : Int32)), (.int (0 : Int32)), (.int (0 : Int32)), (.int (0 : Int32)), (.int (0 : Int32)), (.int (0 : Int32)), (.int (0 : Int32))] (.int (0 : Int32)) := by rw [show ((11 : Int32).toUInt32.toUInt16.toUInt32.toInt32) = (11 : Int32) from by decide] at V17; exact V17
  have N17 := Fr.snoc X17 N14 g_b2
  have z17 : n0 ≤ h17.size := Nat.le_trans z14 (Keep.of_wr W17).1
  have P18 : Wy p.tables e below (s₁.setTop (entryFrame m #[(.int ax), (.int bx)] maxLocals)) (T17.setTop (mkF m 30 #[.val (.int ax), .val (.int bx), .val (.ref b2), .unset, .unset] [])) := fun t k => P16 t (st17 _ k)
  have P19 : Wy p.tables e below (s₁.setTop (entryFrame m #[(.int ax), (.int bx)] maxLocals)) (T17.setTop (mkF m 34 #[.val (.int ax), .val (.int bx), .val (.ref b2), .unset, .unset] [(.int (12 : Int32)), (.int (5 : Int32)), (.ref b2)])) := fun t k => P18 t (by
    show Steps p.tables e below (T17.setTop (mkF m 30 #[.val (.int ax), .val (.int bx), .val (.ref b2), .unset, .unset] [])) _
    refine XS.aloadN X17.here hx rfl (hb hby at_30) rfl rfl  ?_
    show Steps p.tables e below (T17.setTop (mkF m 31 #[.val (.int ax), .val (.int bx), .val (.ref b2), .unset, .unset] [(.ref b2)])) _
    refine XS.iconst X17.here hx rfl (hb hby at_31) ?_
    show Steps p.tables e below (T17.setTop (mkF m 32 #[.val (.int ax), .val (.int bx), .val (.ref b2), .unset, .unset] [(.int (5 : Int32)), (.ref b2)])) _
    refine XS.bipush X17.here hx rfl (hb hby at_32) ?_
    exact k)
  obtain ⟨cl20, Ar20, q20, S20, M20, H20, G20⟩ := V17b
  obtain ⟨T20, h20, X20, e20, W20, st20⟩ := stC X17 hx hZ e17 Ar20 (j := (5 : Int32)) (inb_of S20 ⟨by decide, by decide⟩) (g := (mkF m 34 #[.val (.int ax), .val (.int bx), .val (.ref b2), .unset, .unset] [(.int (12 : Int32)), (.int (5 : Int32)), (.ref b2)])) rfl rfl (hb hby at_34)
  have V20 : Arv Z h20 b2 k2 .char (12 : Int32) [(.int (9 : Int32)), (.int (10 : Int32)), (.int (13 : Int32)), (.int (32 : Int32)), (.int (11 : Int32)), (.int ((12 : Int32).toUInt32.toUInt16.toUInt32.toInt32)), (.int (0 : Int32)), (.int (0 : Int32)), (.int (0 : Int32)), (.int (0 : Int32)), (.int (0 : Int32)), (.int (0 : Int32))] (.int (0 : Int32)) := Arv.set Ar20 q20 S20 M20 H20 G20 (fits_nar_char _) W20 5 rfl (Nat.le_of_ble_eq_true rfl)
  have V20b : Arv Z h20 b2 k2 .char (12 : Int32) [(.int (9 : Int32)), (.int (10 : Int32)), (.int (13 : Int32)), (.int (32 : Int32)), (.int (11 : Int32)), (.int (12 : Int32)), (.int (0 : Int32)), (.int (0 : Int32)), (.int (0 : Int32)), (.int (0 : Int32)), (.int (0 : Int32)), (.int (0 : Int32))] (.int (0 : Int32)) := by rw [show ((12 : Int32).toUInt32.toUInt16.toUInt32.toInt32) = (12 : Int32) from by decide] at V20; exact V20
  have N20 := Fr.snoc X20 N17 g_b2
  have z20 : n0 ≤ h20.size := Nat.le_trans z17 (Keep.of_wr W20).1
  have P21 : Wy p.tables e below (s₁.setTop (entryFrame m #[(.int ax), (.int bx)] maxLocals)) (T20.setTop (mkF m 35 #[.val (.int ax), .val (.int bx), .val (.ref b2), .unset, .unset] [])) := fun t k => P19 t (st20 _ k)
  have P22 : Wy p.tables e below (s₁.setTop (entryFrame m #[(.int ax), (.int bx)] maxLocals)) (T20.setTop (mkF m 41 #[.val (.int ax), .val (.int bx), .val (.ref b2), .unset, .unset] [(.int (133 : Int32)), (.int (6 : Int32)), (.ref b2)])) := fun t k => P21 t (by
    show Steps p.tables e below (T20.setTop (mkF m 35 #[.val (.int ax), .val (.int bx), .val (.ref b2), .unset, .unset] [])) _
    refine XS.aloadN X20.here hx rfl (hb hby at_35) rfl rfl  ?_
    show Steps p.tables e below (T20.setTop (mkF m 36 #[.val (.int ax), .val (.int bx), .val (.ref b2), .unset, .unset] [(.ref b2)])) _
    refine XS.bipush X20.here hx rfl (hb hby at_36) ?_
    show Steps p.tables e below (T20.setTop (mkF m 38 #[.val (.int ax), .val (.int bx), .val (.ref b2), .unset, .unset] [(.int (6 : Int32)), (.ref b2)])) _
    refine XS.sipush X20.here hx rfl (hb hby at_38) ?_
    exact k)
  obtain ⟨cl23, Ar23, q23, S23, M23, H23, G23⟩ := V20b
  obtain ⟨T23, h23, X23, e23, W23, st23⟩ := stC X20 hx hZ e20 Ar23 (j := (6 : Int32)) (inb_of S23 ⟨by decide, by decide⟩) (g := (mkF m 41 #[.val (.int ax), .val (.int bx), .val (.ref b2), .unset, .unset] [(.int (133 : Int32)), (.int (6 : Int32)), (.ref b2)])) rfl rfl (hb hby at_41)
  have V23 : Arv Z h23 b2 k2 .char (12 : Int32) [(.int (9 : Int32)), (.int (10 : Int32)), (.int (13 : Int32)), (.int (32 : Int32)), (.int (11 : Int32)), (.int (12 : Int32)), (.int ((133 : Int32).toUInt32.toUInt16.toUInt32.toInt32)), (.int (0 : Int32)), (.int (0 : Int32)), (.int (0 : Int32)), (.int (0 : Int32)), (.int (0 : Int32))] (.int (0 : Int32)) := Arv.set Ar23 q23 S23 M23 H23 G23 (fits_nar_char _) W23 6 rfl (Nat.le_of_ble_eq_true rfl)
  have V23b : Arv Z h23 b2 k2 .char (12 : Int32) [(.int (9 : Int32)), (.int (10 : Int32)), (.int (13 : Int32)), (.int (32 : Int32)), (.int (11 : Int32)), (.int (12 : Int32)), (.int (133 : Int32)), (.int (0 : Int32)), (.int (0 : Int32)), (.int (0 : Int32)), (.int (0 : Int32)), (.int (0 : Int32))] (.int (0 : Int32)) := by rw [show ((133 : Int32).toUInt32.toUInt16.toUInt32.toInt32) = (133 : Int32) from by decide] at V23; exact V23
  have N23 := Fr.snoc X23 N20 g_b2
  have z23 : n0 ≤ h23.size := Nat.le_trans z20 (Keep.of_wr W23).1
  have P24 : Wy p.tables e below (s₁.setTop (entryFrame m #[(.int ax), (.int bx)] maxLocals)) (T23.setTop (mkF m 42 #[.val (.int ax), .val (.int bx), .val (.ref b2), .unset, .unset] [])) := fun t k => P22 t (st23 _ k)
  have P25 : Wy p.tables e below (s₁.setTop (entryFrame m #[(.int ax), (.int bx)] maxLocals)) (T23.setTop (mkF m 48 #[.val (.int ax), .val (.int bx), .val (.ref b2), .unset, .unset] [(.int (160 : Int32)), (.int (7 : Int32)), (.ref b2)])) := fun t k => P24 t (by
    show Steps p.tables e below (T23.setTop (mkF m 42 #[.val (.int ax), .val (.int bx), .val (.ref b2), .unset, .unset] [])) _
    refine XS.aloadN X23.here hx rfl (hb hby at_42) rfl rfl  ?_
    show Steps p.tables e below (T23.setTop (mkF m 43 #[.val (.int ax), .val (.int bx), .val (.ref b2), .unset, .unset] [(.ref b2)])) _
    refine XS.bipush X23.here hx rfl (hb hby at_43) ?_
    show Steps p.tables e below (T23.setTop (mkF m 45 #[.val (.int ax), .val (.int bx), .val (.ref b2), .unset, .unset] [(.int (7 : Int32)), (.ref b2)])) _
    refine XS.sipush X23.here hx rfl (hb hby at_45) ?_
    exact k)
  obtain ⟨cl26, Ar26, q26, S26, M26, H26, G26⟩ := V23b
  obtain ⟨T26, h26, X26, e26, W26, st26⟩ := stC X23 hx hZ e23 Ar26 (j := (7 : Int32)) (inb_of S26 ⟨by decide, by decide⟩) (g := (mkF m 48 #[.val (.int ax), .val (.int bx), .val (.ref b2), .unset, .unset] [(.int (160 : Int32)), (.int (7 : Int32)), (.ref b2)])) rfl rfl (hb hby at_48)
  have V26 : Arv Z h26 b2 k2 .char (12 : Int32) [(.int (9 : Int32)), (.int (10 : Int32)), (.int (13 : Int32)), (.int (32 : Int32)), (.int (11 : Int32)), (.int (12 : Int32)), (.int (133 : Int32)), (.int ((160 : Int32).toUInt32.toUInt16.toUInt32.toInt32)), (.int (0 : Int32)), (.int (0 : Int32)), (.int (0 : Int32)), (.int (0 : Int32))] (.int (0 : Int32)) := Arv.set Ar26 q26 S26 M26 H26 G26 (fits_nar_char _) W26 7 rfl (Nat.le_of_ble_eq_true rfl)
  have V26b : Arv Z h26 b2 k2 .char (12 : Int32) [(.int (9 : Int32)), (.int (10 : Int32)), (.int (13 : Int32)), (.int (32 : Int32)), (.int (11 : Int32)), (.int (12 : Int32)), (.int (133 : Int32)), (.int (160 : Int32)), (.int (0 : Int32)), (.int (0 : Int32)), (.int (0 : Int32)), (.int (0 : Int32))] (.int (0 : Int32)) := by rw [show ((160 : Int32).toUInt32.toUInt16.toUInt32.toInt32) = (160 : Int32) from by decide] at V26; exact V26
  have N26 := Fr.snoc X26 N23 g_b2
  have z26 : n0 ≤ h26.size := Nat.le_trans z23 (Keep.of_wr W26).1
  have P27 : Wy p.tables e below (s₁.setTop (entryFrame m #[(.int ax), (.int bx)] maxLocals)) (T26.setTop (mkF m 49 #[.val (.int ax), .val (.int bx), .val (.ref b2), .unset, .unset] [])) := fun t k => P25 t (st26 _ k)
  have P28 : Wy p.tables e below (s₁.setTop (entryFrame m #[(.int ax), (.int bx)] maxLocals)) (T26.setTop (mkF m 55 #[.val (.int ax), .val (.int bx), .val (.ref b2), .unset, .unset] [(.int (8232 : Int32)), (.int (8 : Int32)), (.ref b2)])) := fun t k => P27 t (by
    show Steps p.tables e below (T26.setTop (mkF m 49 #[.val (.int ax), .val (.int bx), .val (.ref b2), .unset, .unset] [])) _
    refine XS.aloadN X26.here hx rfl (hb hby at_49) rfl rfl  ?_
    show Steps p.tables e below (T26.setTop (mkF m 50 #[.val (.int ax), .val (.int bx), .val (.ref b2), .unset, .unset] [(.ref b2)])) _
    refine XS.bipush X26.here hx rfl (hb hby at_50) ?_
    show Steps p.tables e below (T26.setTop (mkF m 52 #[.val (.int ax), .val (.int bx), .val (.ref b2), .unset, .unset] [(.int (8 : Int32)), (.ref b2)])) _
    refine XS.sipush X26.here hx rfl (hb hby at_52) ?_
    exact k)
  obtain ⟨cl29, Ar29, q29, S29, M29, H29, G29⟩ := V26b
  obtain ⟨T29, h29, X29, e29, W29, st29⟩ := stC X26 hx hZ e26 Ar29 (j := (8 : Int32)) (inb_of S29 ⟨by decide, by decide⟩) (g := (mkF m 55 #[.val (.int ax), .val (.int bx), .val (.ref b2), .unset, .unset] [(.int (8232 : Int32)), (.int (8 : Int32)), (.ref b2)])) rfl rfl (hb hby at_55)
  have V29 : Arv Z h29 b2 k2 .char (12 : Int32) [(.int (9 : Int32)), (.int (10 : Int32)), (.int (13 : Int32)), (.int (32 : Int32)), (.int (11 : Int32)), (.int (12 : Int32)), (.int (133 : Int32)), (.int (160 : Int32)), (.int ((8232 : Int32).toUInt32.toUInt16.toUInt32.toInt32)), (.int (0 : Int32)), (.int (0 : Int32)), (.int (0 : Int32))] (.int (0 : Int32)) := Arv.set Ar29 q29 S29 M29 H29 G29 (fits_nar_char _) W29 8 rfl (Nat.le_of_ble_eq_true rfl)
  have V29b : Arv Z h29 b2 k2 .char (12 : Int32) [(.int (9 : Int32)), (.int (10 : Int32)), (.int (13 : Int32)), (.int (32 : Int32)), (.int (11 : Int32)), (.int (12 : Int32)), (.int (133 : Int32)), (.int (160 : Int32)), (.int (8232 : Int32)), (.int (0 : Int32)), (.int (0 : Int32)), (.int (0 : Int32))] (.int (0 : Int32)) := by rw [show ((8232 : Int32).toUInt32.toUInt16.toUInt32.toInt32) = (8232 : Int32) from by decide] at V29; exact V29
  have N29 := Fr.snoc X29 N26 g_b2
  have z29 : n0 ≤ h29.size := Nat.le_trans z26 (Keep.of_wr W29).1
  have P30 : Wy p.tables e below (s₁.setTop (entryFrame m #[(.int ax), (.int bx)] maxLocals)) (T29.setTop (mkF m 56 #[.val (.int ax), .val (.int bx), .val (.ref b2), .unset, .unset] [])) := fun t k => P28 t (st29 _ k)
  have P31 : Wy p.tables e below (s₁.setTop (entryFrame m #[(.int ax), (.int bx)] maxLocals)) (T29.setTop (mkF m 62 #[.val (.int ax), .val (.int bx), .val (.ref b2), .unset, .unset] [(.int (12288 : Int32)), (.int (9 : Int32)), (.ref b2)])) := fun t k => P30 t (by
    show Steps p.tables e below (T29.setTop (mkF m 56 #[.val (.int ax), .val (.int bx), .val (.ref b2), .unset, .unset] [])) _
    refine XS.aloadN X29.here hx rfl (hb hby at_56) rfl rfl  ?_
    show Steps p.tables e below (T29.setTop (mkF m 57 #[.val (.int ax), .val (.int bx), .val (.ref b2), .unset, .unset] [(.ref b2)])) _
    refine XS.bipush X29.here hx rfl (hb hby at_57) ?_
    show Steps p.tables e below (T29.setTop (mkF m 59 #[.val (.int ax), .val (.int bx), .val (.ref b2), .unset, .unset] [(.int (9 : Int32)), (.ref b2)])) _
    refine XS.sipush X29.here hx rfl (hb hby at_59) ?_
    exact k)
  obtain ⟨cl32, Ar32, q32, S32, M32, H32, G32⟩ := V29b
  obtain ⟨T32, h32, X32, e32, W32, st32⟩ := stC X29 hx hZ e29 Ar32 (j := (9 : Int32)) (inb_of S32 ⟨by decide, by decide⟩) (g := (mkF m 62 #[.val (.int ax), .val (.int bx), .val (.ref b2), .unset, .unset] [(.int (12288 : Int32)), (.int (9 : Int32)), (.ref b2)])) rfl rfl (hb hby at_62)
  have V32 : Arv Z h32 b2 k2 .char (12 : Int32) [(.int (9 : Int32)), (.int (10 : Int32)), (.int (13 : Int32)), (.int (32 : Int32)), (.int (11 : Int32)), (.int (12 : Int32)), (.int (133 : Int32)), (.int (160 : Int32)), (.int (8232 : Int32)), (.int ((12288 : Int32).toUInt32.toUInt16.toUInt32.toInt32)), (.int (0 : Int32)), (.int (0 : Int32))] (.int (0 : Int32)) := Arv.set Ar32 q32 S32 M32 H32 G32 (fits_nar_char _) W32 9 rfl (Nat.le_of_ble_eq_true rfl)
  have V32b : Arv Z h32 b2 k2 .char (12 : Int32) [(.int (9 : Int32)), (.int (10 : Int32)), (.int (13 : Int32)), (.int (32 : Int32)), (.int (11 : Int32)), (.int (12 : Int32)), (.int (133 : Int32)), (.int (160 : Int32)), (.int (8232 : Int32)), (.int (12288 : Int32)), (.int (0 : Int32)), (.int (0 : Int32))] (.int (0 : Int32)) := by rw [show ((12288 : Int32).toUInt32.toUInt16.toUInt32.toInt32) = (12288 : Int32) from by decide] at V32; exact V32
  have N32 := Fr.snoc X32 N29 g_b2
  have z32 : n0 ≤ h32.size := Nat.le_trans z29 (Keep.of_wr W32).1
  have P33 : Wy p.tables e below (s₁.setTop (entryFrame m #[(.int ax), (.int bx)] maxLocals)) (T32.setTop (mkF m 63 #[.val (.int ax), .val (.int bx), .val (.ref b2), .unset, .unset] [])) := fun t k => P31 t (st32 _ k)
  have P34 : Wy p.tables e below (s₁.setTop (entryFrame m #[(.int ax), (.int bx)] maxLocals)) (T32.setTop (mkF m 68 #[.val (.int ax), .val (.int bx), .val (.ref b2), .unset, .unset] [(.int (28 : Int32)), (.int (10 : Int32)), (.ref b2)])) := fun t k => P33 t (by
    show Steps p.tables e below (T32.setTop (mkF m 63 #[.val (.int ax), .val (.int bx), .val (.ref b2), .unset, .unset] [])) _
    refine XS.aloadN X32.here hx rfl (hb hby at_63) rfl rfl  ?_
    show Steps p.tables e below (T32.setTop (mkF m 64 #[.val (.int ax), .val (.int bx), .val (.ref b2), .unset, .unset] [(.ref b2)])) _
    refine XS.bipush X32.here hx rfl (hb hby at_64) ?_
    show Steps p.tables e below (T32.setTop (mkF m 66 #[.val (.int ax), .val (.int bx), .val (.ref b2), .unset, .unset] [(.int (10 : Int32)), (.ref b2)])) _
    refine XS.bipush X32.here hx rfl (hb hby at_66) ?_
    exact k)
  obtain ⟨cl35, Ar35, q35, S35, M35, H35, G35⟩ := V32b
  obtain ⟨T35, h35, X35, e35, W35, st35⟩ := stC X32 hx hZ e32 Ar35 (j := (10 : Int32)) (inb_of S35 ⟨by decide, by decide⟩) (g := (mkF m 68 #[.val (.int ax), .val (.int bx), .val (.ref b2), .unset, .unset] [(.int (28 : Int32)), (.int (10 : Int32)), (.ref b2)])) rfl rfl (hb hby at_68)
  have V35 : Arv Z h35 b2 k2 .char (12 : Int32) [(.int (9 : Int32)), (.int (10 : Int32)), (.int (13 : Int32)), (.int (32 : Int32)), (.int (11 : Int32)), (.int (12 : Int32)), (.int (133 : Int32)), (.int (160 : Int32)), (.int (8232 : Int32)), (.int (12288 : Int32)), (.int ((28 : Int32).toUInt32.toUInt16.toUInt32.toInt32)), (.int (0 : Int32))] (.int (0 : Int32)) := Arv.set Ar35 q35 S35 M35 H35 G35 (fits_nar_char _) W35 10 rfl (Nat.le_of_ble_eq_true rfl)
  have V35b : Arv Z h35 b2 k2 .char (12 : Int32) [(.int (9 : Int32)), (.int (10 : Int32)), (.int (13 : Int32)), (.int (32 : Int32)), (.int (11 : Int32)), (.int (12 : Int32)), (.int (133 : Int32)), (.int (160 : Int32)), (.int (8232 : Int32)), (.int (12288 : Int32)), (.int (28 : Int32)), (.int (0 : Int32))] (.int (0 : Int32)) := by rw [show ((28 : Int32).toUInt32.toUInt16.toUInt32.toInt32) = (28 : Int32) from by decide] at V35; exact V35
  have N35 := Fr.snoc X35 N32 g_b2
  have z35 : n0 ≤ h35.size := Nat.le_trans z32 (Keep.of_wr W35).1
  have P36 : Wy p.tables e below (s₁.setTop (entryFrame m #[(.int ax), (.int bx)] maxLocals)) (T35.setTop (mkF m 69 #[.val (.int ax), .val (.int bx), .val (.ref b2), .unset, .unset] [])) := fun t k => P34 t (st35 _ k)
  have P37 : Wy p.tables e below (s₁.setTop (entryFrame m #[(.int ax), (.int bx)] maxLocals)) (T35.setTop (mkF m 74 #[.val (.int ax), .val (.int bx), .val (.ref b2), .unset, .unset] [(.int (33 : Int32)), (.int (11 : Int32)), (.ref b2)])) := fun t k => P36 t (by
    show Steps p.tables e below (T35.setTop (mkF m 69 #[.val (.int ax), .val (.int bx), .val (.ref b2), .unset, .unset] [])) _
    refine XS.aloadN X35.here hx rfl (hb hby at_69) rfl rfl  ?_
    show Steps p.tables e below (T35.setTop (mkF m 70 #[.val (.int ax), .val (.int bx), .val (.ref b2), .unset, .unset] [(.ref b2)])) _
    refine XS.bipush X35.here hx rfl (hb hby at_70) ?_
    show Steps p.tables e below (T35.setTop (mkF m 72 #[.val (.int ax), .val (.int bx), .val (.ref b2), .unset, .unset] [(.int (11 : Int32)), (.ref b2)])) _
    refine XS.bipush X35.here hx rfl (hb hby at_72) ?_
    exact k)
  obtain ⟨cl38, Ar38, q38, S38, M38, H38, G38⟩ := V35b
  obtain ⟨T38, h38, X38, e38, W38, st38⟩ := stC X35 hx hZ e35 Ar38 (j := (11 : Int32)) (inb_of S38 ⟨by decide, by decide⟩) (g := (mkF m 74 #[.val (.int ax), .val (.int bx), .val (.ref b2), .unset, .unset] [(.int (33 : Int32)), (.int (11 : Int32)), (.ref b2)])) rfl rfl (hb hby at_74)
  have V38 : Arv Z h38 b2 k2 .char (12 : Int32) [(.int (9 : Int32)), (.int (10 : Int32)), (.int (13 : Int32)), (.int (32 : Int32)), (.int (11 : Int32)), (.int (12 : Int32)), (.int (133 : Int32)), (.int (160 : Int32)), (.int (8232 : Int32)), (.int (12288 : Int32)), (.int (28 : Int32)), (.int ((33 : Int32).toUInt32.toUInt16.toUInt32.toInt32))] (.int (0 : Int32)) := Arv.set Ar38 q38 S38 M38 H38 G38 (fits_nar_char _) W38 11 rfl (Nat.le_of_ble_eq_true rfl)
  have V38b : Arv Z h38 b2 k2 .char (12 : Int32) [(.int (9 : Int32)), (.int (10 : Int32)), (.int (13 : Int32)), (.int (32 : Int32)), (.int (11 : Int32)), (.int (12 : Int32)), (.int (133 : Int32)), (.int (160 : Int32)), (.int (8232 : Int32)), (.int (12288 : Int32)), (.int (28 : Int32)), (.int (33 : Int32))] (.int (0 : Int32)) := by rw [show ((33 : Int32).toUInt32.toUInt16.toUInt32.toInt32) = (33 : Int32) from by decide] at V38; exact V38
  have N38 := Fr.snoc X38 N35 g_b2
  have z38 : n0 ≤ h38.size := Nat.le_trans z35 (Keep.of_wr W38).1
  have P39 : Wy p.tables e below (s₁.setTop (entryFrame m #[(.int ax), (.int bx)] maxLocals)) (T38.setTop (mkF m 75 #[.val (.int ax), .val (.int bx), .val (.ref b2), .unset, .unset] [])) := fun t k => P37 t (st38 _ k)
  obtain ⟨r47, hr47, P48⟩ : ∃ r47 : Int32, r47 = (if (bx &&& (1 : Int32)) = (0 : Int32) then (ax.toUInt32.toUInt16.toUInt32.toInt32) else (own_picks.getD ((ax &&& (2147483647 : Int32)) - ((ax &&& (2147483647 : Int32)) / (12 : Int32)) * (12 : Int32)).toNatClampNeg 0)) ∧ Wy p.tables e below (s₁.setTop (entryFrame m #[(.int ax), (.int bx)] maxLocals)) (T38.setTop (mkF m 97 #[.val (.int ax), .val (.int bx), .val (.ref b2), .val (.int r47), .unset] [])) := by
    have P49 : Wy p.tables e below (s₁.setTop (entryFrame m #[(.int ax), (.int bx)] maxLocals)) (T38.setTop (mkF m 78 #[.val (.int ax), .val (.int bx), .val (.ref b2), .unset, .unset] [(.int (bx &&& (1 : Int32)))])) := fun t k => P39 t (by
      show Steps p.tables e below (T38.setTop (mkF m 75 #[.val (.int ax), .val (.int bx), .val (.ref b2), .unset, .unset] [])) _
      refine XS.iloadN X38.here hx rfl (hb hby at_75) rfl  ?_
      show Steps p.tables e below (T38.setTop (mkF m 76 #[.val (.int ax), .val (.int bx), .val (.ref b2), .unset, .unset] [(.int bx)])) _
      refine XS.iconst X38.here hx rfl (hb hby at_76) ?_
      show Steps p.tables e below (T38.setTop (mkF m 77 #[.val (.int ax), .val (.int bx), .val (.ref b2), .unset, .unset] [(.int (1 : Int32)), (.int bx)])) _
      refine XS.iand X38.here hx rfl (hb hby at_77) rfl ?_
      exact k)
    by_cases hc78_50 : (bx &&& (1 : Int32)) = (0 : Int32)
    · have P51 : Wy p.tables e below (s₁.setTop (entryFrame m #[(.int ax), (.int bx)] maxLocals)) (T38.setTop (mkF m 97 #[.val (.int ax), .val (.int bx), .val (.ref b2), .val (.int (ax.toUInt32.toUInt16.toUInt32.toInt32)), .unset] [])) := fun t k => P49 t (by
        show Steps p.tables e below (T38.setTop (mkF m 78 #[.val (.int ax), .val (.int bx), .val (.ref b2), .unset, .unset] [(.int (bx &&& (1 : Int32)))])) _
        refine XS.ifYes X38.here hx rfl (pc0 := 78) (pc' := 94) rfl (hb hby at_78) rfl ((if0 _ _).trans (teq hc78_50).1) (by decide) (by decide) ?_
        show Steps p.tables e below (T38.setTop (mkF m 94 #[.val (.int ax), .val (.int bx), .val (.ref b2), .unset, .unset] [])) _
        refine XS.iloadN X38.here hx rfl (hb hby at_94) rfl  ?_
        show Steps p.tables e below (T38.setTop (mkF m 95 #[.val (.int ax), .val (.int bx), .val (.ref b2), .unset, .unset] [(.int ax)])) _
        refine XS.i2c X38.here hx rfl (hb hby at_95) rfl ?_
        show Steps p.tables e below (T38.setTop (mkF m 96 #[.val (.int ax), .val (.int bx), .val (.ref b2), .unset, .unset] [(.int (ax.toUInt32.toUInt16.toUInt32.toInt32))])) _
        refine XS.istoreN X38.here hx rfl (hb hby at_96) rfl (l' := #[.val (.int ax), .val (.int bx), .val (.ref b2), .val (.int (ax.toUInt32.toUInt16.toUInt32.toInt32)), .unset]) rfl ?_
        exact k)
      exact ⟨(ax.toUInt32.toUInt16.toUInt32.toInt32), (by simp only [if_pos hc78_50]), P51⟩
    · have P52 : Wy p.tables e below (s₁.setTop (entryFrame m #[(.int ax), (.int bx)] maxLocals)) (T38.setTop (mkF m 89 #[.val (.int ax), .val (.int bx), .val (.ref b2), .unset, .unset] [(.int ((ax &&& (2147483647 : Int32)) - ((ax &&& (2147483647 : Int32)) / (12 : Int32)) * (12 : Int32))), (.ref b2)])) := fun t k => P49 t (by
        show Steps p.tables e below (T38.setTop (mkF m 78 #[.val (.int ax), .val (.int bx), .val (.ref b2), .unset, .unset] [(.int (bx &&& (1 : Int32)))])) _
        refine XS.ifNo X38.here hx rfl (hb hby at_78) rfl ((if0 _ _).trans (feq hc78_50).1) ?_
        show Steps p.tables e below (T38.setTop (mkF m 81 #[.val (.int ax), .val (.int bx), .val (.ref b2), .unset, .unset] [])) _
        refine XS.aloadN X38.here hx rfl (hb hby at_81) rfl rfl  ?_
        show Steps p.tables e below (T38.setTop (mkF m 82 #[.val (.int ax), .val (.int bx), .val (.ref b2), .unset, .unset] [(.ref b2)])) _
        refine XS.iloadN X38.here hx rfl (hb hby at_82) rfl  ?_
        show Steps p.tables e below (T38.setTop (mkF m 83 #[.val (.int ax), .val (.int bx), .val (.ref b2), .unset, .unset] [(.int ax), (.ref b2)])) _
        refine X38.ldcInt hx hown (mvT hZ (hw _ (List.mem_of_getElem? (i := 1) rfl))) (g := (mkF m 83 #[.val (.int ax), .val (.int bx), .val (.ref b2), .unset, .unset] [(.int ax), (.ref b2)])) rfl (hb hby at_83) _ ?_
        show Steps p.tables e below (T38.setTop (mkF m 85 #[.val (.int ax), .val (.int bx), .val (.ref b2), .unset, .unset] [(.int (2147483647 : Int32)), (.int ax), (.ref b2)])) _
        refine XS.iand X38.here hx rfl (hb hby at_85) rfl ?_
        show Steps p.tables e below (T38.setTop (mkF m 86 #[.val (.int ax), .val (.int bx), .val (.ref b2), .unset, .unset] [(.int (ax &&& (2147483647 : Int32))), (.ref b2)])) _
        refine XS.bipush X38.here hx rfl (hb hby at_86) ?_
        show Steps p.tables e below (T38.setTop (mkF m 88 #[.val (.int ax), .val (.int bx), .val (.ref b2), .unset, .unset] [(.int (12 : Int32)), (.int (ax &&& (2147483647 : Int32))), (.ref b2)])) _
        refine XS.irem X38.here hx rfl (hb hby at_88) rfl (by decide) ?_
        exact k)
      obtain ⟨cl53, Ar53, q53, S53, M53, H53, G53⟩ := V38b
      have P54 : Wy p.tables e below (s₁.setTop (entryFrame m #[(.int ax), (.int bx)] maxLocals)) (T38.setTop (mkF m 90 #[.val (.int ax), .val (.int bx), .val (.ref b2), .unset, .unset] [(.int (own_picks.getD ((ax &&& (2147483647 : Int32)) - ((ax &&& (2147483647 : Int32)) / (12 : Int32)) * (12 : Int32)).toNatClampNeg 0))])) := fun t k => P52 t (X38.caload hx (j := ((ax &&& (2147483647 : Int32)) - ((ax &&& (2147483647 : Int32)) / (12 : Int32)) * (12 : Int32))) (v := (.int (own_picks.getD ((ax &&& (2147483647 : Int32)) - ((ax &&& (2147483647 : Int32)) / (12 : Int32)) * (12 : Int32)).toNatClampNeg 0))) (by rw [e38]; exact Ar53.1) (State.isArrayOf_alike hZ.alike Ar53.2.1) Ar53.2.2 (inb_of S53 (own_idx ax)) ((H53 _ (own_in (inb_of S53 (own_idx ax)))).trans (congrArg some (own_getD own_picks _))) (g := (mkF m 89 #[.val (.int ax), .val (.int bx), .val (.ref b2), .unset, .unset] [(.int ((ax &&& (2147483647 : Int32)) - ((ax &&& (2147483647 : Int32)) / (12 : Int32)) * (12 : Int32))), (.ref b2)])) rfl rfl (hb hby at_89) _ k)
      have P55 : Wy p.tables e below (s₁.setTop (entryFrame m #[(.int ax), (.int bx)] maxLocals)) (T38.setTop (mkF m 97 #[.val (.int ax), .val (.int bx), .val (.ref b2), .val (.int (own_picks.getD ((ax &&& (2147483647 : Int32)) - ((ax &&& (2147483647 : Int32)) / (12 : Int32)) * (12 : Int32)).toNatClampNeg 0)), .unset] [])) := fun t k => P54 t (by
        show Steps p.tables e below (T38.setTop (mkF m 90 #[.val (.int ax), .val (.int bx), .val (.ref b2), .unset, .unset] [(.int (own_picks.getD ((ax &&& (2147483647 : Int32)) - ((ax &&& (2147483647 : Int32)) / (12 : Int32)) * (12 : Int32)).toNatClampNeg 0))])) _
        refine XS.istoreN X38.here hx rfl (hb hby at_90) rfl (l' := #[.val (.int ax), .val (.int bx), .val (.ref b2), .val (.int (own_picks.getD ((ax &&& (2147483647 : Int32)) - ((ax &&& (2147483647 : Int32)) / (12 : Int32)) * (12 : Int32)).toNatClampNeg 0)), .unset]) rfl ?_
        show Steps p.tables e below (T38.setTop (mkF m 91 #[.val (.int ax), .val (.int bx), .val (.ref b2), .val (.int (own_picks.getD ((ax &&& (2147483647 : Int32)) - ((ax &&& (2147483647 : Int32)) / (12 : Int32)) * (12 : Int32)).toNatClampNeg 0)), .unset] [])) _
        refine XS.goto X38.here hx rfl (pc0 := 91) (pc' := 97) rfl (hb hby at_91) (by decide) (by decide) ?_
        exact k)
      exact ⟨(own_picks.getD ((ax &&& (2147483647 : Int32)) - ((ax &&& (2147483647 : Int32)) / (12 : Int32)) * (12 : Int32)).toNatClampNeg 0), (by simp only [if_neg hc78_50]), P55⟩
  obtain ⟨r63, hr63, P64⟩ : ∃ r63 : Int32, r63 = (if r47 < (64 : Int32) then (if (lcmpW ((((4294977024 : Int64).toUInt64 >>> (r47 &&& 0x3f).toInt64.toUInt64).toInt64) &&& (1 : Int64)) (0 : Int64)) = (0 : Int32) then (0 : Int32) else (1 : Int32)) else (0 : Int32)) ∧ Wy p.tables e below (s₁.setTop (entryFrame m #[(.int ax), (.int bx)] maxLocals)) (T38.setTop (mkF m 120 #[.val (.int ax), .val (.int bx), .val (.ref b2), .val (.int r47), .unset] [(.int r63)])) := by
    have P65 : Wy p.tables e below (s₁.setTop (entryFrame m #[(.int ax), (.int bx)] maxLocals)) (T38.setTop (mkF m 100 #[.val (.int ax), .val (.int bx), .val (.ref b2), .val (.int r47), .unset] [(.int (64 : Int32)), (.int r47)])) := fun t k => P48 t (by
      show Steps p.tables e below (T38.setTop (mkF m 97 #[.val (.int ax), .val (.int bx), .val (.ref b2), .val (.int r47), .unset] [])) _
      refine XS.iloadN X38.here hx rfl (hb hby at_97) rfl  ?_
      show Steps p.tables e below (T38.setTop (mkF m 98 #[.val (.int ax), .val (.int bx), .val (.ref b2), .val (.int r47), .unset] [(.int r47)])) _
      refine XS.bipush X38.here hx rfl (hb hby at_98) ?_
      exact k)
    by_cases hc100_66 : r47 < (64 : Int32)
    · have P67 : Wy p.tables e below (s₁.setTop (entryFrame m #[(.int ax), (.int bx)] maxLocals)) (T38.setTop (mkF m 112 #[.val (.int ax), .val (.int bx), .val (.ref b2), .val (.int r47), .unset] [(.int (lcmpW ((((4294977024 : Int64).toUInt64 >>> (r47 &&& 0x3f).toInt64.toUInt64).toInt64) &&& (1 : Int64)) (0 : Int64)))])) := fun t k => P65 t (by
        show Steps p.tables e below (T38.setTop (mkF m 100 #[.val (.int ax), .val (.int bx), .val (.ref b2), .val (.int r47), .unset] [(.int (64 : Int32)), (.int r47)])) _
        refine XS.icmpNo X38.here hx rfl (hb hby at_100) rfl (tlt hc100_66).2.1 ?_
        show Steps p.tables e below (T38.setTop (mkF m 103 #[.val (.int ax), .val (.int bx), .val (.ref b2), .val (.int r47), .unset] [])) _
        refine X38.ldc2Long hx hown (mvT hZ (hw _ (List.mem_of_getElem? (i := 2) rfl))) (g := (mkF m 103 #[.val (.int ax), .val (.int bx), .val (.ref b2), .val (.int r47), .unset] [])) rfl (hb hby at_103) _ ?_
        show Steps p.tables e below (T38.setTop (mkF m 106 #[.val (.int ax), .val (.int bx), .val (.ref b2), .val (.int r47), .unset] [(.long (4294977024 : Int64))])) _
        refine XS.iloadN X38.here hx rfl (hb hby at_106) rfl  ?_
        show Steps p.tables e below (T38.setTop (mkF m 107 #[.val (.int ax), .val (.int bx), .val (.ref b2), .val (.int r47), .unset] [(.int r47), (.long (4294977024 : Int64))])) _
        refine XS.lushr X38.here hx rfl (hb hby at_107) rfl ?_
        show Steps p.tables e below (T38.setTop (mkF m 108 #[.val (.int ax), .val (.int bx), .val (.ref b2), .val (.int r47), .unset] [(.long (((4294977024 : Int64).toUInt64 >>> (r47 &&& 0x3f).toInt64.toUInt64).toInt64))])) _
        refine XS.lconst X38.here hx rfl (hb hby at_108) ?_
        show Steps p.tables e below (T38.setTop (mkF m 109 #[.val (.int ax), .val (.int bx), .val (.ref b2), .val (.int r47), .unset] [(.long (1 : Int64)), (.long (((4294977024 : Int64).toUInt64 >>> (r47 &&& 0x3f).toInt64.toUInt64).toInt64))])) _
        refine XS.land X38.here hx rfl (hb hby at_109) rfl ?_
        show Steps p.tables e below (T38.setTop (mkF m 110 #[.val (.int ax), .val (.int bx), .val (.ref b2), .val (.int r47), .unset] [(.long ((((4294977024 : Int64).toUInt64 >>> (r47 &&& 0x3f).toInt64.toUInt64).toInt64) &&& (1 : Int64)))])) _
        refine XS.lconst X38.here hx rfl (hb hby at_110) ?_
        show Steps p.tables e below (T38.setTop (mkF m 111 #[.val (.int ax), .val (.int bx), .val (.ref b2), .val (.int r47), .unset] [(.long (0 : Int64)), (.long ((((4294977024 : Int64).toUInt64 >>> (r47 &&& 0x3f).toInt64.toUInt64).toInt64) &&& (1 : Int64)))])) _
        refine XS.lcmp X38.here hx rfl (hb hby at_111) rfl ?_
        exact k)
      by_cases hc112_68 : (lcmpW ((((4294977024 : Int64).toUInt64 >>> (r47 &&& 0x3f).toInt64.toUInt64).toInt64) &&& (1 : Int64)) (0 : Int64)) = (0 : Int32)
      · have P69 : Wy p.tables e below (s₁.setTop (entryFrame m #[(.int ax), (.int bx)] maxLocals)) (T38.setTop (mkF m 120 #[.val (.int ax), .val (.int bx), .val (.ref b2), .val (.int r47), .unset] [(.int (0 : Int32))])) := fun t k => P67 t (by
          show Steps p.tables e below (T38.setTop (mkF m 112 #[.val (.int ax), .val (.int bx), .val (.ref b2), .val (.int r47), .unset] [(.int (lcmpW ((((4294977024 : Int64).toUInt64 >>> (r47 &&& 0x3f).toInt64.toUInt64).toInt64) &&& (1 : Int64)) (0 : Int64)))])) _
          refine XS.ifYes X38.here hx rfl (pc0 := 112) (pc' := 119) rfl (hb hby at_112) rfl ((if0 _ _).trans (teq hc112_68).1) (by decide) (by decide) ?_
          show Steps p.tables e below (T38.setTop (mkF m 119 #[.val (.int ax), .val (.int bx), .val (.ref b2), .val (.int r47), .unset] [])) _
          refine XS.iconst X38.here hx rfl (hb hby at_119) ?_
          exact k)
        exact ⟨(0 : Int32), (by simp only [if_pos hc100_66, if_pos hc112_68]), P69⟩
      · have P70 : Wy p.tables e below (s₁.setTop (entryFrame m #[(.int ax), (.int bx)] maxLocals)) (T38.setTop (mkF m 120 #[.val (.int ax), .val (.int bx), .val (.ref b2), .val (.int r47), .unset] [(.int (1 : Int32))])) := fun t k => P67 t (by
          show Steps p.tables e below (T38.setTop (mkF m 112 #[.val (.int ax), .val (.int bx), .val (.ref b2), .val (.int r47), .unset] [(.int (lcmpW ((((4294977024 : Int64).toUInt64 >>> (r47 &&& 0x3f).toInt64.toUInt64).toInt64) &&& (1 : Int64)) (0 : Int64)))])) _
          refine XS.ifNo X38.here hx rfl (hb hby at_112) rfl ((if0 _ _).trans (feq hc112_68).1) ?_
          show Steps p.tables e below (T38.setTop (mkF m 115 #[.val (.int ax), .val (.int bx), .val (.ref b2), .val (.int r47), .unset] [])) _
          refine XS.iconst X38.here hx rfl (hb hby at_115) ?_
          show Steps p.tables e below (T38.setTop (mkF m 116 #[.val (.int ax), .val (.int bx), .val (.ref b2), .val (.int r47), .unset] [(.int (1 : Int32))])) _
          refine XS.goto X38.here hx rfl (pc0 := 116) (pc' := 120) rfl (hb hby at_116) (by decide) (by decide) ?_
          exact k)
        exact ⟨(1 : Int32), (by simp only [if_pos hc100_66, if_neg hc112_68]), P70⟩
    · have P71 : Wy p.tables e below (s₁.setTop (entryFrame m #[(.int ax), (.int bx)] maxLocals)) (T38.setTop (mkF m 120 #[.val (.int ax), .val (.int bx), .val (.ref b2), .val (.int r47), .unset] [(.int (0 : Int32))])) := fun t k => P65 t (by
        show Steps p.tables e below (T38.setTop (mkF m 100 #[.val (.int ax), .val (.int bx), .val (.ref b2), .val (.int r47), .unset] [(.int (64 : Int32)), (.int r47)])) _
        refine XS.icmpYes X38.here hx rfl (pc0 := 100) (pc' := 119) rfl (hb hby at_100) rfl (flt hc100_66).2.1 (by decide) (by decide) ?_
        show Steps p.tables e below (T38.setTop (mkF m 119 #[.val (.int ax), .val (.int bx), .val (.ref b2), .val (.int r47), .unset] [])) _
        refine XS.iconst X38.here hx rfl (hb hby at_119) ?_
        exact k)
      exact ⟨(0 : Int32), (by simp only [if_neg hc100_66]), P71⟩
  have P72 : Wy p.tables e below (s₁.setTop (entryFrame m #[(.int ax), (.int bx)] maxLocals)) (T38.setTop (mkF m 123 #[.val (.int ax), .val (.int bx), .val (.ref b2), .val (.int r47), .val (.int r63)] [(.int r47)])) := fun t k => P64 t (by
    show Steps p.tables e below (T38.setTop (mkF m 120 #[.val (.int ax), .val (.int bx), .val (.ref b2), .val (.int r47), .unset] [(.int r63)])) _
    refine XS.istore X38.here hx rfl (hb hby at_120) rfl (l' := #[.val (.int ax), .val (.int bx), .val (.ref b2), .val (.int r47), .val (.int r63)]) rfl ?_
    show Steps p.tables e below (T38.setTop (mkF m 122 #[.val (.int ax), .val (.int bx), .val (.ref b2), .val (.int r47), .val (.int r63)] [])) _
    refine XS.iloadN X38.here hx rfl (hb hby at_122) rfl  ?_
    exact k)
  obtain ⟨_, _, ⟨T73, L73, k73, n73⟩, -, X73, ⟨Lc73, hQ73, l73, y73, z73⟩, st73⟩ := Jvm.LawKit.callS X38 hx (y := (⟨"com/example/dandelion/dandelion/FieldText", "isSpace", "(C)Z"⟩ : MethodName)) hown (mvT hZ (hw _ (List.mem_of_getElem? (i := 3) rfl))) (mvT hZ (hw _ (List.mem_of_getElem? (i := 4) rfl))) (mvT hZ (hw _ (List.mem_of_getElem? (i := 5) rfl))) (mvT hZ (hw _ (List.mem_of_getElem? (i := 6) rfl))) (by decide) (backOf (W := 0) (rm1 l Z a0 hw [] r47 h38 n0 z38 ) hZ (hw _ (List.mem_of_getElem? (i := 6) rfl)) (hw _ (List.mem_of_getElem? (i := 5) rfl)) (by decide) (by decide)) (g := (mkF m 123 #[.val (.int ax), .val (.int bx), .val (.ref b2), .val (.int r47), .val (.int r63)] [(.int r47)])) rfl (by rw [hml]; rfl) (argsL := [(.int r47)]) (rest := []) (lenOf pd_lCrZ rfl) rfl (by show 2 * 0 + _ ≤ _; exact Nat.le_of_eq rfl) (hb hby at_123) (fun _ _ => ⟨rfl, e38, (by decide : 1 + 0 ≤ _), (by decide : 12 + 0 ≤ _)⟩)
  dsimp only [Pt.U, Pt.locs, Pt.cells, Pt.slots] at X73 l73 y73 z73 st73 hQ73
  subst l73 y73 z73
  obtain ⟨rfl, N73q, e73⟩ := hQ73
  have N73 := Fr.app N38 N73q
  have P74 : Wy p.tables e below (s₁.setTop (entryFrame m #[(.int ax), (.int bx)] maxLocals)) (T73.setTop (mkF m 126 #[.val (.int ax), .val (.int bx), .val (.ref b2), .val (.int r47), .val (.int r63)] [(.int (F1 r47))])) := fun t k => P72 t (st73 _ k)
  have P75 : Wy p.tables e below (s₁.setTop (entryFrame m #[(.int ax), (.int bx)] maxLocals)) (T73.setTop (mkF m 136 #[.val (.int ax), .val (.int bx), .val (.ref b2), .val (.int r47), .val (.int r63)] [(.int (1 : Int32))])) := fun t k => P74 t (by
    show Steps p.tables e below (T73.setTop (mkF m 126 #[.val (.int ax), .val (.int bx), .val (.ref b2), .val (.int r47), .val (.int r63)] [(.int (F1 r47))])) _
    refine XS.iload X73.here hx rfl (hb hby at_126) rfl  ?_
    show Steps p.tables e below (T73.setTop (mkF m 128 #[.val (.int ax), .val (.int bx), .val (.ref b2), .val (.int r47), .val (.int r63)] [(.int r63), (.int (F1 r47))])) _
    refine XS.icmpNo X73.here hx rfl (hb hby at_128) rfl (teq (own_law hr47 hr63 : (F1 r47) = r63)).2 ?_
    show Steps p.tables e below (T73.setTop (mkF m 131 #[.val (.int ax), .val (.int bx), .val (.ref b2), .val (.int r47), .val (.int r63)] [])) _
    refine XS.iconst X73.here hx rfl (hb hby at_131) ?_
    show Steps p.tables e below (T73.setTop (mkF m 132 #[.val (.int ax), .val (.int bx), .val (.ref b2), .val (.int r47), .val (.int r63)] [(.int (1 : Int32))])) _
    refine XS.goto X73.here hx rfl (pc0 := 132) (pc' := 136) rfl (hb hby at_132) (by decide) (by decide) ?_
    exact k)
  obtain ⟨fs, hr, hrun, hended, hW, hsame⟩ := X73.leave (v := some (.int (nar .boolean (1 : Int32)))) (fun h => by rw [Bd.returns] at h; cases h)
  refine ⟨_, _, P75 _ ?_, hrun, hended, _, _, rfl, ?_, ⟨_, rfl⟩, hW, hsame.mono (by decide) (by decide)⟩
  · show Steps p.tables e below (T73.setTop (mkF m 136 #[.val (.int ax), .val (.int bx), .val (.ref b2), .val (.int r47), .val (.int r63)] [(.int (1 : Int32))])) _
    exact retN X73 hx (t := .boolean) Bd.returns (by simp) (hb hby at_136) hr
  · show Q0 Z ax bx h0 n0 _ T73.heap _
    rw [e73]
    exact ⟨rfl, N73⟩
set_option maxRecDepth 65536 in
set_option maxHeartbeats 40000000 in
theorem comes_1 {Post : Tables → Env → Array Value → State → Outcome → State → Prop} (hpost : ∀ tb e args s v u, (limb_1_1.after args s (.returned v) u = true ∧ limb_1_2.after args s (.returned v) u = true ∧ True) → FrameEnd s (.returned v) u (Jvm.fieldLocs frame_1_writes args s ++ Jvm.arrayLocs frame_1_arrays args s ++ Jvm.staticLocs frame_1_statics s) 16 128 → Post tb e args s (.returned v) u) :
    ArmFor flags0 classFile x code maxLocals ret World_1 tables_1 room_1 Calls_1 rest_1 Pre_1 Post := by
  intro l hfl _ _ p e ha hc hk s m args below hf hA hF happ hP
  obtain ⟨hcalls, hrest, hpre⟩ := hP
  obtain ⟨-, -, -, hnamed, -, -, -, hat⟩ := (Spec.applies_iff hf).mp happ
  obtain ⟨hg, hn⟩ := and_e (Cond.before_iff.mp (show (Jvm.Cond.and given_1 narrow_1).before args s = true from hpre))
  obtain ⟨g1, g2⟩ := and_e hg
  obtain ⟨g3, g4⟩ := and_e g2
  obtain ⟨w0, w1, rfl⟩ : ∃ w0 w1 : Value, args = #[w0, w1] := by
    have hs : args.size = 2 := by simpa [Cond.value, given_1] using g1
    obtain ⟨L⟩ := args
    match L, hs with
    | [w0, w1], _ => exact ⟨w0, w1, rfl⟩
  have hw := fun d (hd : d ∈ tables_1) => atoms_spec (ws := Jvm.Cond.code x code maxLocals ret :: tables_1) hat d (List.mem_cons_of_mem _ hd)
  have hfit : Fit s := fun {y c} hc i hi => by
    obtain ⟨ha, rfl⟩ := Array.getElem?_eq_some_iff.mp hc
    have q := List.all_eq_true.mp ((Array.all_eq_true_iff_forall_mem.mp hF) _ (Array.getElem_mem ha)) i (List.mem_range.mpr hi)
    simpa [Array.getElem?_eq_getElem hi] using q
  obtain ⟨i0, ei0⟩ := is_v g3
  obtain rfl : w0 = (.int i0) := Option.some.inj ei0
  obtain ⟨i1, ei1⟩ := is_v g4
  obtain rfl : w1 = (.int i1) := Option.some.inj ei1
  obtain ⟨n, o, h1, h2, h3, _, L, rfl, ⟨rfl, N⟩, hq⟩ := rm0 l s _ hw tables_1 i0 i1 s.heap s.heap.size (Nat.le_refl _)  p e ha hc hk s m _ below hf ((Spec.applies_iff_loose hf).mp happ).1 ⟨rfl, State.Warmed39.refl s, rfl⟩ trivial
  refine ⟨n, _, h1, h2, h3, hpost _ _ _ _ _ _ ⟨Cond.after_iff.mpr rfl, Cond.after_iff.mpr (eq_i res_at (Term.int_eval (1)) rfl), trivial⟩ ⟨hq.1, hq.2.1, (hq.2.2.sift fun y hy => Or.inr (N y hy)).mono (by decide) (by decide)⟩⟩
theorem main_1_1 : Claimed_1_1 := comes_1 fun _ _ _ _ _ _ h hF => ⟨h.1, hF⟩
theorem main_1_2 : Claimed_1_2 := comes_1 fun _ _ _ _ _ _ h hF => ⟨h.2.1, hF⟩
end Jvm.Pilot.@@N@@
namespace Jvm.Pilot.@@N@@
open Jvm Jvm.ClassFile Sem Op Lib Jvm.Free Jvm.Stand Jvm.Pilot.@@N@@.Jvm.D
/-! MADE BY PROGRAM (witnessworld.py) out of the Statement's table words and the real class files: 11 classes; the members and pool entries that the words name. The judged class is class 1, her method 1. -/
namespace start1
open Jvm.ClassFile
def u (s : String) : CpInfo := .utf8 (stringToUtf16 s)
/-- a pool by its gaps: so many unusable entries, then the entry; so many at the end -/
def gap : Nat → List CpInfo → List CpInfo
  | 0, r => r
  | n + 1, r => .unusable :: gap n r
def poolList (es : List (Nat × CpInfo)) (last : Nat) : List CpInfo := es.foldr (fun e r => gap e.1 (e.2 :: r)) (gap last [])
def pool (es : List (Nat × CpInfo)) (last : Nat) : Array CpInfo := ⟨poolList es last⟩
def fileOf (pool : Array CpInfo) (this : Nat) (attrs : Array Attribute := #[]) (ms : Array MethodInfo := #[]) (fl : Nat := 33) (sup : Nat := 0) (ifs : Array Nat := #[]) (fds : Array FieldInfo := #[]) : ClassFile where
  minorVersion := 0
  majorVersion := 65
  constantPool := pool
  accessFlags := fl
  thisClass := this
  superClass := sup
  interfaces := ifs
  fields := fds
  methods := ms
  attributes := attrs
def plain (name : String) (sup : Option ClassId) : Class where
  name := name
  kind := .ordinary
  loader := none
  accessFlags := 33
  super := sup
  interfaces := #[]
  cf := none
  fields := #[]
  methods := #[]
  instanceTypes := #[]
  staticTypes := #[]
  resolved := #[]
  callSites := []
  init := .initialized
  statics := none
  mirror := none

def pool0 : Array CpInfo := pool [(5, u "<init>"), (0, u "()V"), (1, .class_ 10), (1, u "java/lang/Object")] 113

def k0m0 : Method := { name := "<init>", desc := "()V", sig := { parameters := [], returnType := none }, accessFlags := 1, code := none }
/-- java/lang/Object -/
def k0 : Class := { plain "java/lang/Object" none with
  accessFlags := 33
  interfaces := #[]
  cf := some (fileOf pool0 8 #[] #[{ accessFlags := 1, nameIndex := 5, descriptorIndex := 6, attributes := #[] }] 33 0 #[] #[])
  fields := #[]
  methods := #[k0m0]
  instanceTypes := #[]
  staticTypes := #[]
  resolved := Array.replicate 124 none
  statics := none }

def pool1 : Array CpInfo := pool [(2, .class_ 4), (1, u "java/lang/Object"), (0, u "<init>"), (0, u "()V"), (0, .integer 2147483647), (0, .long 4294977024), (1, .methodref 11 12), (0, .class_ 13), (0, .nameAndType 14 15), (0, u "com/example/dandelion/dandelion/FieldText"), (0, u "isSpace"), (0, u "(C)Z"), (0, .class_ 17), (0, u "com/example/dandelion/dandelion/FieldTextIsSpacePinLaw"), (2, u "law"), (0, u "(II)Z")] 5

def k1m0 : Method := { name := "<init>", desc := "()V", sig := { parameters := [], returnType := none }, accessFlags := 2, code := none }
def k1c1 : Code := { maxStack := 4, maxLocals := 5, code := code, exceptionTable := #[], attributes := #[] }
def k1m1 : Method := { name := "law", desc := "(II)Z", sig := { parameters := [.int, .int], returnType := some .boolean }, accessFlags := 9, code := some k1c1 }
/-- com/example/dandelion/dandelion/FieldTextIsSpacePinLaw -/
def k1 : Class := { plain "com/example/dandelion/dandelion/FieldTextIsSpacePinLaw" (some 0) with
  accessFlags := 49
  interfaces := #[]
  cf := some (fileOf pool1 16 #[] #[{ accessFlags := 2, nameIndex := 5, descriptorIndex := 6, attributes := #[] }, { accessFlags := 9, nameIndex := 20, descriptorIndex := 21, attributes := #[] }] 49 2 #[] #[])
  fields := #[]
  methods := #[k1m0, k1m1]
  instanceTypes := #[]
  staticTypes := #[]
  resolved := Array.replicate 27 none
  statics := none }

def pool2 : Array CpInfo := pool [(1, .class_ 2), (0, u "com/example/dandelion/dandelion/FieldText"), (1, .class_ 6), (1, u "java/lang/Object"), (0, u "<init>"), (0, u "()V"), (5, u "text"), (0, u "Ljava/lang/StringBuilder;"), (2, u "shortenedAt"), (0, u "I"), (6, u "digitRun"), (2, u "cut"), (0, u "Z"), (6, u "isSpace"), (0, u "(C)Z"), (48, u "MAX_LENGTH"), (2, u "KEPT_AT_EACH_END"), (1, u "LONG_RUN"), (1, u "SHOWN_LENGTH")] 26

def k2m0 : Method := { name := "<init>", desc := "()V", sig := { parameters := [], returnType := none }, accessFlags := 0, code := none }
def k2c1 : Code := { maxStack := 2, maxLocals := 1, code := prog_19_method_9_code, exceptionTable := #[], attributes := #[] }
def k2m1 : Method := { name := "isSpace", desc := "(C)Z", sig := { parameters := [.char], returnType := some .boolean }, accessFlags := 8, code := some k2c1 }
/-- com/example/dandelion/dandelion/FieldText -/
def k2 : Class := { plain "com/example/dandelion/dandelion/FieldText" (some 0) with
  accessFlags := 48
  interfaces := #[]
  cf := some (fileOf pool2 1 #[] #[{ accessFlags := 0, nameIndex := 7, descriptorIndex := 8, attributes := #[] }, { accessFlags := 8, nameIndex := 37, descriptorIndex := 38, attributes := #[] }] 48 4 #[] #[{ accessFlags := 26, nameIndex := 87, descriptorIndex := 19, attributes := #[] }, { accessFlags := 26, nameIndex := 90, descriptorIndex := 19, attributes := #[] }, { accessFlags := 26, nameIndex := 92, descriptorIndex := 19, attributes := #[] }, { accessFlags := 26, nameIndex := 94, descriptorIndex := 19, attributes := #[] }, { accessFlags := 18, nameIndex := 14, descriptorIndex := 15, attributes := #[] }, { accessFlags := 2, nameIndex := 26, descriptorIndex := 19, attributes := #[] }, { accessFlags := 2, nameIndex := 18, descriptorIndex := 19, attributes := #[] }, { accessFlags := 2, nameIndex := 29, descriptorIndex := 30, attributes := #[] }])
  fields := #[{ name := "MAX_LENGTH", type := .int, accessFlags := 26, slot := 0, constantValue := 0 }, { name := "KEPT_AT_EACH_END", type := .int, accessFlags := 26, slot := 1, constantValue := 0 }, { name := "LONG_RUN", type := .int, accessFlags := 26, slot := 2, constantValue := 0 }, { name := "SHOWN_LENGTH", type := .int, accessFlags := 26, slot := 3, constantValue := 0 }, { name := "text", type := (.object "java/lang/StringBuilder"), accessFlags := 18, slot := 0, constantValue := 0 }, { name := "digitRun", type := .int, accessFlags := 2, slot := 1, constantValue := 0 }, { name := "shortenedAt", type := .int, accessFlags := 2, slot := 2, constantValue := 0 }, { name := "cut", type := .boolean, accessFlags := 2, slot := 3, constantValue := 0 }]
  methods := #[k2m0, k2m1]
  instanceTypes := #[(.object "java/lang/StringBuilder"), .int, .int, .boolean]
  staticTypes := #[.int, .int, .int, .int]
  resolved := Array.replicate 121 none
  statics := none }

def pool3 : Array CpInfo := pool [(1, u "java/lang/Cloneable"), (0, .class_ 1), (0, u "java/lang/Object"), (0, .class_ 3)] 3

/-- java/lang/Cloneable -/
def k3 : Class := { plain "java/lang/Cloneable" (some 0) with
  accessFlags := 1537
  interfaces := #[]
  cf := some (fileOf pool3 2 #[] #[] 1537 4 #[] #[])
  fields := #[]
  methods := #[]
  instanceTypes := #[]
  staticTypes := #[]
  resolved := Array.replicate 8 none
  statics := none }

def pool4 : Array CpInfo := pool [(1, u "java/io/Serializable"), (0, .class_ 1), (0, u "java/lang/Object"), (0, .class_ 3)] 3

/-- java/io/Serializable -/
def k4 : Class := { plain "java/io/Serializable" (some 0) with
  accessFlags := 1537
  interfaces := #[]
  cf := some (fileOf pool4 2 #[] #[] 1537 4 #[] #[])
  fields := #[]
  methods := #[]
  instanceTypes := #[]
  staticTypes := #[]
  resolved := Array.replicate 8 none
  statics := none }

/-- the primitive byte -/
def k5 : Class := { plain "byte" none with kind := .primitive 'B', accessFlags := 0x411 }
/-- [B -/
def k6 : Class := { plain "[B" (some 0) with kind := .array 5 .byte, interfaces := #[3, 4], accessFlags := 1041 }

/-- the primitive char -/
def k7 : Class := { plain "char" none with kind := .primitive 'C', accessFlags := 0x411 }
/-- [C -/
def k8 : Class := { plain "[C" (some 0) with kind := .array 7 .char, interfaces := #[3, 4], accessFlags := 1041 }

/-- the primitive int -/
def k9 : Class := { plain "int" none with kind := .primitive 'I', accessFlags := 0x411 }
/-- [I -/
def k10 : Class := { plain "[I" (some 0) with kind := .array 9 .int, interfaces := #[3, 4], accessFlags := 1041 }

def heap : Heap := #[]
def classes : Array Class := #[k0, k1, k2, k3, k4, k5, k6, k7, k8, k9, k10]
def interned : List (Array UInt16 × Addr) := []
def slotsUsed : Nat := 0
def theMethod : MethodId := ⟨1, 1⟩
def args0 : Array Value := #[.int 5, .int 7]
def aboutOver (below : List Frame) : State where
  vm := { classes := classes, interned := interned.toArray }
  heap := heap
  slotsUsed := slotsUsed
  threads := #[{ frames := .invoking theMethod args0 :: below }]
def below0 : List Frame := [.native { method := ⟨0, 0⟩, args := #[] }]
def about1 : State := aboutOver below0
def p0 : Program := .bare "" "" ""
def e0 : Env := launch0.env 0 0 0
theorem w_frames : about1.frames = Frame.invoking theMethod args0 :: below0 := rfl
set_option maxRecDepth 65536 in
theorem w_args : argsFit about1.vm theMethod args0 = true := by decide +kernel
set_option maxRecDepth 65536 in
theorem w_heap : heapFits about1 = true := by decide +kernel
set_option maxRecDepth 65536 in
theorem w_runnable : about1.curStatus? = some .runnable := by decide +kernel
set_option maxRecDepth 65536 in
theorem w_alone : about1.alone = true := by decide +kernel
set_option maxRecDepth 65536 in
theorem w_named : about1.methodNamed? x = some theMethod := by decide +kernel
set_option maxRecDepth 65536 in
theorem w_hears : about1.hears theMethod below0 = true := by decide +kernel
set_option maxRecDepth 65536 in
theorem w_ripe : about1.ripe theMethod args0 below0 = true := by decide +kernel
theorem w_running : about1.status = .running := rfl
set_option maxRecDepth 65536 in
theorem w_room : about1.hasRoom e0.platform room_1 = true :=
  launch0.hasRoom_least _ room_1 (by decide +kernel) (by decide +kernel) (by decide +kernel) (by decide +kernel) (by decide +kernel) (by decide +kernel)
theorem allAtoms_all (ts : List Jvm.Cond) (a : Array Jvm.Value) (st : Jvm.State) : (allAtoms ts).before a st = ts.all (fun c => c.before a st) := by
  induction ts with
  | nil => rfl
  | cons c t ih =>
    show (Jvm.Cond.and c (allAtoms t)).before a st = _
    rw [Jvm.Cond.before_and, ih, List.all_cons]
def words1 : List Jvm.Cond := Jvm.Cond.code x code maxLocals ret :: tables_1
/-- a 'code' word, met by the world's own term for the bytes: nothing is compared byte by byte -/
theorem code_word {y : MethodName} {bytes : ByteArray} {mx : Nat} {rt : Option FieldType} {a : Array Value} {s : State} {m : MethodId} {meth : Method} {c : Code} (h1 : s.methodNamed? y = some m) (h2 : s.vm.method? m = some meth) (h3 : meth.code = some c) (h4 : c.code = bytes)
    (h5 : (c.maxLocals == mx && c.exceptionTable.isEmpty && decide (c.maxStack ≤ mostOperands) && decide (meth.sig.returnType = rt) && !meth.locks && decide (parseMethodDescriptor y.desc = some meth.sig)) = true) : (Jvm.Cond.code y bytes mx rt).before a s = true := by
  simp only [Bool.and_eq_true, beq_iff_eq, Bool.not_eq_true', decide_eq_true_eq] at h5
  obtain ⟨⟨⟨⟨⟨g1, g2⟩, g3⟩, g4⟩, g5⟩, g6⟩ := h5
  simp [Cond.before, Cond.holds, Cond.value, h1, h2, h3, h4, g1, g2, g3, g4, g5, g6]
def isCode : Jvm.Cond → Bool
  | .code _ _ _ _ => true
  | _ => false
theorem all_split {L : List Jvm.Cond} {P : Jvm.Cond → Bool} (h1 : L.all (fun c => isCode c || P c) = true) (h2 : ∀ c ∈ L.filter isCode, P c = true) : L.all P = true := by
  refine List.all_eq_true.mpr fun c hc => ?_
  have h := List.all_eq_true.mp h1 c hc
  rcases Bool.eq_false_or_eq_true (isCode c) with hi | hi
  · exact h2 c (List.mem_filter.mpr ⟨hc, hi⟩)
  · simpa [hi] using h
set_option maxRecDepth 65536 in
theorem w_c0 : (Jvm.Cond.code x code maxLocals ret).before args0 about1 = true := code_word (m := ⟨1, 1⟩) (meth := k1m1) (c := k1c1) (by decide +kernel) rfl rfl rfl (by decide +kernel)
set_option maxRecDepth 65536 in
theorem w_c1 : (Jvm.Cond.code ({ cls := "com/example/dandelion/dandelion/FieldText", name := "isSpace", desc := "(C)Z" } : Jvm.MethodName) prog_19_method_9_code (1 : Nat) (Option.some Jvm.ClassFile.FieldType.boolean)).before args0 about1 = true := code_word (m := ⟨2, 1⟩) (meth := k2m1) (c := k2c1) (by decide +kernel) rfl rfl rfl (by decide +kernel)
def codes1 : List Jvm.Cond := [Jvm.Cond.code x code maxLocals ret, Jvm.Cond.code ({ cls := "com/example/dandelion/dandelion/FieldText", name := "isSpace", desc := "(C)Z" } : Jvm.MethodName) prog_19_method_9_code (1 : Nat) (Option.some Jvm.ClassFile.FieldType.boolean)]
set_option maxRecDepth 65536 in
theorem codes_eq : words1.filter isCode = codes1 := rfl
theorem w_codes : ∀ c ∈ words1.filter isCode, c.before args0 about1 = true := by
  rw [codes_eq]
  intro c hc
  simp only [codes1, List.mem_cons, List.not_mem_nil, or_false] at hc
  rcases hc with rfl | rfl
  · exact w_c0
  · exact w_c1
set_option maxRecDepth 65536 in
theorem w_t1 : words1.all (fun c => isCode c || c.before args0 about1) = true := by decide +kernel
theorem w_tables : (allAtoms (Jvm.Cond.code x code maxLocals ret :: tables_1)).before args0 about1 = true := by
  rw [allAtoms_all]
  show words1.all (fun c => c.before args0 about1) = true
  refine all_split ?_ w_codes
  rw [w_t1]
set_option maxRecDepth 65536 in
theorem w_case : (Jvm.Cond.and given_1 narrow_1).before args0 about1 = true := by decide +kernel
theorem w_applies : (headSpec (Jvm.Cond.code x code maxLocals ret :: tables_1) room_1).applies x e0.platform about1 = true :=
  (Spec.applies_iff w_frames).mpr ⟨w_running, w_runnable, w_alone, w_named, w_hears, w_ripe, w_room, w_tables⟩
theorem atStart : AtStart classFile x code maxLocals ret World_1 tables_1 room_1 Calls_1 rest_1 Pre_1 launch0 p0 e0 about1 theMethod args0 below0 :=
  ⟨lists_1, trivial, launch0.admits_env _ _ _, launch0.least_env, fairChoices_fair.cas, fairChoices_fair.clock, w_frames, w_args, w_heap, w_applies, trivial, trivial, w_case⟩
end start1
theorem witness_1 : WitnessClaimed_1 := ⟨start1.p0, start1.e0, start1.about1, start1.theMethod, start1.args0, start1.below0, start1.atStart⟩
end Jvm.Pilot.@@N@@
