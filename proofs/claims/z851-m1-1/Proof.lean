import JvmDerived
import JvmDerived.Pilot.@@N@@Statement
import JvmDerived.Pilot.@@N@@Code
set_option linter.unusedVariables false
set_option linter.unusedSimpArgs false

namespace Jvm.RoadKit
open Sem ClassFile Op Lib Jvm.Stand Jvm.Free Jvm.LawKit
section New
variable {p : Program} {l : Launch} {e : Env} {R : Room} {s : State} {m : MethodId} {args : Array Value} {below : List Frame} {meth : Method} {c : Code} {T : State} {locs : List Loc} {cells slots : Nat}
theorem retI (X : Stand p l e R s m args below meth c T locs cells slots) (hx : p.tables.exec = Jvm.exec) {pc : Nat} {Ls : Array Slot} {z : Int32} {rest : List Value} (hret : meth.sig.returnType = some .int) (hd : decode c.code pc = .ok (.ireturn, 1)) {fs : List Frame}
    (hl : ∀ (f : JFrame) (acts : List Action), f.method = m → f.locked = none → f.entered = [] → (doReturn e (T.setTop f) acts (some (.int z))).1 = T.setFrames fs) : Steps p.tables e below (T.setTop (mkF m pc Ls (.int z :: rest))) (T.setFrames fs) := by
  have hm' : T.vm.method? m = some meth := X.method'
  have hn : narrow .int (.int z) = .int z := rfl
  show Steps p.tables e below (T.setTop { method := m, pc := pc, locals := Ls, stack := _ :: rest, locked := none }) _
  jvm_step X.here [X.here.top, hx, hd, hm', hret, hn]
  first | (intro acts; rw [hl _ acts rfl rfl rfl]) | rw [hl _ _ rfl rfl rfl]
  exact Steps.refl _
end New
end Jvm.RoadKit
namespace Jvm.Pilot.@@N@@
open Jvm Jvm.ClassFile Sem Op Lib Jvm.Free Jvm.Stand Jvm.LawKit Jvm.RoadKit Bundle Jvm.Pilot.@@N@@.Jvm.D
/-- from A the run comes to B -/
abbrev Wy (tb : Tables) (e : Env) (below : List Frame) (A B : State) : Prop := ∀ t, Steps tb e below B t → Steps tb e below A t
theorem own_nat {c : Int32} (h : 0 ≤ c.toInt) : c = Int32.ofNat c.toInt.toNat := by
  apply Int32.toInt_inj.mp
  have h1 := c.toInt_lt
  rw [Int32.toInt_ofNat_of_lt (by omega)]
  omega
theorem own_lt {a b : Int32} : a < b ↔ a.toInt < b.toInt := Int32.lt_iff_toInt_lt
theorem own_ltF (k : Nat) (c : Int32) (h0 : 0 ≤ c.toInt) (h1 : c.toInt < k) : ∃ n : Fin k, c = Int32.ofNat n.val :=
  ⟨⟨c.toInt.toNat, by omega⟩, own_nat h0⟩
theorem own_rem (x y : Int32) (hx : 0 ≤ x.toInt) (hy : 0 < y.toInt) : (x - (x / y) * y).toInt = x.toInt % y.toInt := by
  have h1 := (c_idiv x y y.toInt rfl (by intro h; rw [h] at hy; exact absurd hy (by decide))).1 hx
  have h2 := c_imul (x / y) y
  have h3 := c_isub x ((x / y) * y)
  have r1 := rng32 ((x / y) * y)
  have r2 := rng32 (x - (x / y) * y)
  have r3 := rng32 x
  have r4 := rng32 y
  have e : x.toInt / y.toInt * y.toInt = x.toInt - x.toInt % y.toInt := by
    have := Int.emod_def x.toInt y.toInt
    rw [Int.mul_comm] at this
    omega
  rw [h1, e] at h2
  have b1 := Int.emod_nonneg x.toInt (show y.toInt ≠ 0 by omega)
  have b2 := Int.emod_lt_of_pos x.toInt hy
  have b3 : x.toInt % y.toInt ≤ x.toInt := by
    by_cases q : x.toInt < y.toInt
    · rw [Int.emod_eq_of_lt hx q]; omega
    · omega
  omega
theorem own_nm {a b : Addr} (h : a ≠ b) : a ∉ [b] := by simpa using h
theorem own_nm2 {a b c : Addr} (h : a ≠ b) (h2 : a ≠ c) : a ∉ [b, c] := by simp [h, h2]

def own_pw (u : Int32) : Nat → Int32
  | 0 => u
  | k + 1 => own_pw (u * 10) k
theorem own_one (i : Nat) : Int32.ofNat i + (1 : Int32) = Int32.ofNat (i + 1) := (Int32.ofNat_add i 1).symm
theorem own_lt9 {i : Nat} (h : i < 9) : Int32.ofNat i < (9 : Int32) := by
  rw [Int32.lt_iff_toInt_lt, Int32.toInt_ofNat_of_lt (by omega)]
  show (i : Int) < 9
  omega

theorem d1_4 : decode prog_82_method_19_code 4 = .ok (.iload_n 2, 1) := by decide +kernel
theorem d1_5 : decode prog_82_method_19_code 5 = .ok (.bipush 9, 2) := by decide +kernel
theorem d1_7 : decode prog_82_method_19_code 7 = .ok (.if_icmp .ge 14, 3) := by decide +kernel
theorem d1_10 : decode prog_82_method_19_code 10 = .ok (.iload_n 1, 1) := by decide +kernel
theorem d1_11 : decode prog_82_method_19_code 11 = .ok (.bipush 10, 2) := by decide +kernel
theorem d1_13 : decode prog_82_method_19_code 13 = .ok (.imul, 1) := by decide +kernel
theorem d1_14 : decode prog_82_method_19_code 14 = .ok (.istore_n 1, 1) := by decide +kernel
theorem d1_15 : decode prog_82_method_19_code 15 = .ok (.iinc 2 1, 3) := by decide +kernel
theorem d1_18 : decode prog_82_method_19_code 18 = .ok (.goto (-14), 3) := by decide +kernel
set_option maxRecDepth 65536 in
set_option maxHeartbeats 40000000 in
theorem sg_turn {p : Program} {l : Launch} {e : Env} {R : Room} {s : State} {m : MethodId} {args : Array Value} {below : List Frame} {meth : Method} {c : Code} {T0 : State} {locs : List Loc} {cells slots : Nat} {Z : State} {a0 : Array Value} {h0 : Heap} (pp uu ii : Int32) (X0 : Stand p l e R s m args below meth c T0 locs cells slots) (hx : p.tables.exec = Jvm.exec) (hZ : Z.Warmed39 s.vm) (hw : ∀ d ∈ tables_1, d.before a0 Z = true) (hby : c.code = prog_82_method_19_code) (hml : c.maxLocals = 3) (hown : s.vm.findClass "com/example/cascade/cascade/model/DatetimeType" = some m.cls) (e0 : T0.heap = h0) (hc : ii < (9 : Int32)) :
    Wy p.tables e below (T0.setTop (mkF m 4 #[.val (.int pp), .val (.int uu), .val (.int ii)] [])) (T0.setTop (mkF m 4 #[.val (.int pp), .val (.int (uu * (10 : Int32))), .val (.int (ii + (1 : Int32)))] [])) := by
  have P0 : Wy p.tables e below (T0.setTop (mkF m 4 #[.val (.int pp), .val (.int uu), .val (.int ii)] [])) (T0.setTop (mkF m 4 #[.val (.int pp), .val (.int uu), .val (.int ii)] [])) := fun t k => k
  have P1 : Wy p.tables e below (T0.setTop (mkF m 4 #[.val (.int pp), .val (.int uu), .val (.int ii)] [])) (T0.setTop (mkF m 4 #[.val (.int pp), .val (.int (uu * (10 : Int32))), .val (.int (ii + (1 : Int32)))] [])) := fun t k => P0 t (by
    show Steps p.tables e below (T0.setTop (mkF m 4 #[.val (.int pp), .val (.int uu), .val (.int ii)] [])) _
    refine XS.iloadN X0.here hx rfl (hb hby d1_4) rfl  ?_
    show Steps p.tables e below (T0.setTop (mkF m 5 #[.val (.int pp), .val (.int uu), .val (.int ii)] [(.int ii)])) _
    refine XS.bipush X0.here hx rfl (hb hby d1_5) ?_
    show Steps p.tables e below (T0.setTop (mkF m 7 #[.val (.int pp), .val (.int uu), .val (.int ii)] [(.int (9 : Int32)), (.int ii)])) _
    refine XS.icmpNo X0.here hx rfl (hb hby d1_7) rfl (tlt (hc : ii < (9 : Int32))).2.1 ?_
    show Steps p.tables e below (T0.setTop (mkF m 10 #[.val (.int pp), .val (.int uu), .val (.int ii)] [])) _
    refine XS.iloadN X0.here hx rfl (hb hby d1_10) rfl  ?_
    show Steps p.tables e below (T0.setTop (mkF m 11 #[.val (.int pp), .val (.int uu), .val (.int ii)] [(.int uu)])) _
    refine XS.bipush X0.here hx rfl (hb hby d1_11) ?_
    show Steps p.tables e below (T0.setTop (mkF m 13 #[.val (.int pp), .val (.int uu), .val (.int ii)] [(.int (10 : Int32)), (.int uu)])) _
    refine XS.imul X0.here hx rfl (hb hby d1_13) rfl ?_
    show Steps p.tables e below (T0.setTop (mkF m 14 #[.val (.int pp), .val (.int uu), .val (.int ii)] [(.int (uu * (10 : Int32)))])) _
    refine XS.istoreN X0.here hx rfl (hb hby d1_14) rfl (l' := #[.val (.int pp), .val (.int (uu * (10 : Int32))), .val (.int ii)]) rfl ?_
    show Steps p.tables e below (T0.setTop (mkF m 15 #[.val (.int pp), .val (.int (uu * (10 : Int32))), .val (.int ii)] [])) _
    refine XS.iinc X0.here hx rfl (hb hby d1_15) rfl (l' := #[.val (.int pp), .val (.int (uu * (10 : Int32))), .val (.int (ii + (1 : Int32)))]) rfl ?_
    show Steps p.tables e below (T0.setTop (mkF m 18 #[.val (.int pp), .val (.int (uu * (10 : Int32))), .val (.int (ii + (1 : Int32)))] [])) _
    refine XS.goto X0.here hx rfl (pc0 := 18) (pc' := 4) rfl (hb hby d1_18) (by decide) (by decide) ?_
    exact k)
  exact P1
set_option maxRecDepth 65536 in
set_option maxHeartbeats 40000000 in
theorem sg_out {p : Program} {l : Launch} {e : Env} {R : Room} {s : State} {m : MethodId} {args : Array Value} {below : List Frame} {meth : Method} {c : Code} {T0 : State} {locs : List Loc} {cells slots : Nat} {Z : State} {a0 : Array Value} {h0 : Heap} (pp uu ii : Int32) (X0 : Stand p l e R s m args below meth c T0 locs cells slots) (hx : p.tables.exec = Jvm.exec) (hZ : Z.Warmed39 s.vm) (hw : ∀ d ∈ tables_1, d.before a0 Z = true) (hby : c.code = prog_82_method_19_code) (hml : c.maxLocals = 3) (hown : s.vm.findClass "com/example/cascade/cascade/model/DatetimeType" = some m.cls) (e0 : T0.heap = h0) (hc : ¬ (ii < (9 : Int32))) :
    Wy p.tables e below (T0.setTop (mkF m 4 #[.val (.int pp), .val (.int uu), .val (.int ii)] [])) (T0.setTop (mkF m 21 #[.val (.int pp), .val (.int uu), .val (.int ii)] [])) := by
  have P0 : Wy p.tables e below (T0.setTop (mkF m 4 #[.val (.int pp), .val (.int uu), .val (.int ii)] [])) (T0.setTop (mkF m 4 #[.val (.int pp), .val (.int uu), .val (.int ii)] [])) := fun t k => k
  have P1 : Wy p.tables e below (T0.setTop (mkF m 4 #[.val (.int pp), .val (.int uu), .val (.int ii)] [])) (T0.setTop (mkF m 21 #[.val (.int pp), .val (.int uu), .val (.int ii)] [])) := fun t k => P0 t (by
    show Steps p.tables e below (T0.setTop (mkF m 4 #[.val (.int pp), .val (.int uu), .val (.int ii)] [])) _
    refine XS.iloadN X0.here hx rfl (hb hby d1_4) rfl  ?_
    show Steps p.tables e below (T0.setTop (mkF m 5 #[.val (.int pp), .val (.int uu), .val (.int ii)] [(.int ii)])) _
    refine XS.bipush X0.here hx rfl (hb hby d1_5) ?_
    show Steps p.tables e below (T0.setTop (mkF m 7 #[.val (.int pp), .val (.int uu), .val (.int ii)] [(.int (9 : Int32)), (.int ii)])) _
    refine XS.icmpYes X0.here hx rfl (pc0 := 7) (pc' := 21) rfl (hb hby d1_7) rfl (flt (hc : ¬ (ii < (9 : Int32)))).2.1 (by decide) (by decide) ?_
    exact k)
  exact P1
theorem own_loop {p : Program} {l : Launch} {e : Env} {R : Room} {s : State} {m : MethodId} {args : Array Value} {below : List Frame} {meth : Method} {c : Code} {T0 : State} {locs : List Loc} {cells slots : Nat} {Z : State} {a0 : Array Value} {h0 : Heap} (pp : Int32) (X0 : Stand p l e R s m args below meth c T0 locs cells slots) (hx : p.tables.exec = Jvm.exec) (hZ : Z.Warmed39 s.vm) (hw : ∀ d ∈ tables_1, d.before a0 Z = true) (hby : c.code = prog_82_method_19_code) (hml : c.maxLocals = 3) (hown : s.vm.findClass "com/example/cascade/cascade/model/DatetimeType" = some m.cls) (e0 : T0.heap = h0) : ∀ (k i : Nat) (uu : Int32), i + k = 9 →
    Wy p.tables e below (T0.setTop (mkF m 4 #[.val (.int pp), .val (.int uu), .val (.int (Int32.ofNat i))] [])) (T0.setTop (mkF m 21 #[.val (.int pp), .val (.int (own_pw uu k)), .val (.int (Int32.ofNat 9))] [])) := by
  intro k
  induction k with
  | zero =>
    intro i uu hi
    obtain rfl : i = 9 := by omega
    exact sg_out pp uu (Int32.ofNat 9) X0 hx hZ hw hby hml hown e0 (by decide)
  | succ k ih =>
    intro i uu hi t h
    refine sg_turn pp uu (Int32.ofNat i) X0 hx hZ hw hby hml hown e0 (own_lt9 (by omega)) t ?_
    rw [own_one]
    exact ih (i + 1) (uu * 10) (by omega) t h
theorem d1_0 : decode prog_82_method_19_code 0 = .ok (.iconst 1, 1) := by decide +kernel
theorem d1_1 : decode prog_82_method_19_code 1 = .ok (.istore_n 1, 1) := by decide +kernel
theorem d1_2 : decode prog_82_method_19_code 2 = .ok (.iload_n 0, 1) := by decide +kernel
theorem d1_3 : decode prog_82_method_19_code 3 = .ok (.istore_n 2, 1) := by decide +kernel
theorem d1_21 : decode prog_82_method_19_code 21 = .ok (.iload_n 1, 1) := by decide +kernel
theorem d1_22 : decode prog_82_method_19_code 22 = .ok (.ireturn, 1) := by decide +kernel
theorem pn_com_example_cascade_cascade_model_DatetimeType : plainName "com/example/cascade/cascade/model/DatetimeType" = true := by first | (simp [plainName, overriddenIn]; done) | decide +kernel
theorem ef_rm1 (m : MethodId) (ax : Int32)  : entryFrame m #[(.int ax)] 3 = (mkF m 0 #[.val (.int ax), .unset, .unset] []) := by first | (simp [entryFrame, mkF, argsToLocals, Value.category]; done) | rfl
def Q1 (Z : State) (ax : Int32) (nn : Nat) (h0 : Heap) (n0 : Nat) (v : Option Value) (h : Heap) (L : List Loc) : Prop := v = some (.int (own_pw 1 (9 - nn))) ∧ Fr n0 L ∧ h = h0
set_option maxRecDepth 65536 in
set_option maxHeartbeats 40000000 in
theorem rm1 (l : Launch) (Z : State) (a0 : Array Value) (hw : ∀ d ∈ tables_1, d.before a0 Z = true) (ws : List Jvm.Cond) (ax : Int32) (nn : Nat) (h0 : Heap) (n0 : Nat) (Z0 : n0 ≤ h0.size) (hn : nn ≤ 9) (hax : ax = Int32.ofNat nn) :
    MetFree l (⟨"com/example/cascade/cascade/model/DatetimeType", "unit", "(I)I"⟩ : MethodName) (head1 (Jvm.Cond.code (⟨"com/example/cascade/cascade/model/DatetimeType", "unit", "(I)I"⟩ : MethodName) prog_82_method_19_code 3 (some .int) :: ws) ({ frames := 0, cells := 0, slots := 0, locals := 0 } : Room)) (fun a U => a = #[(.int ax)] ∧ Z.Warmed39 U.vm ∧ U.heap = h0) (fun _ _ _ _ _ => True) (fun _ U o U' => ∃ v L, o = .returned v ∧ Q1 Z ax nn h0 n0 v U'.heap L ∧ FrameEnd U o U' L ({ frames := 0, cells := 0, slots := 0, locals := 0 } : Room).cells ({ frames := 0, cells := 0, slots := 0, locals := 0 } : Room).slots) := by
  refine MetFree.of_bodySF (plainFor_of_name pn_com_example_cascade_cascade_model_DatetimeType) hisR ?_
  intro p e s m args below meth c s₁ Bd hml0 hP hK
  obtain ⟨rfl, hZ, hh⟩ := hP
  have hx := Bd.exec
  have hby := Bd.bytes
  have hml : c.maxLocals = 3 := hml0
  have hown : s.vm.findClass "com/example/cascade/cascade/model/DatetimeType" = some m.cls := findClass_of_methodNamed Bd.named
  have hnm := (name_of_methodNamed Bd.named Bd.method).1
  have X0 : Stand p l e ({ frames := 0, cells := 0, slots := 0, locals := 0 } : Room) s m #[(.int ax)] below meth c s₁ [] 0 0 := Stand.of_body Bd
  have e0 : s₁.heap = h0 := by rw [← hh, Bd.state]; rfl
  have N0 := Fr.nil n0
  have P0 : Wy p.tables e below (s₁.setTop (entryFrame m #[(.int ax)] 3)) (s₁.setTop (mkF m 0 #[.val (.int ax), .unset, .unset] [])) := fun t k => castTop (ef_rm1 m ax) k
  have P1 : Wy p.tables e below (s₁.setTop (entryFrame m #[(.int ax)] 3)) (s₁.setTop (mkF m 4 #[.val (.int ax), .val (.int (1 : Int32)), .val (.int ax)] [])) := fun t k => P0 t (by
    show Steps p.tables e below (s₁.setTop (mkF m 0 #[.val (.int ax), .unset, .unset] [])) _
    refine XS.iconst X0.here hx rfl (hb hby d1_0) ?_
    show Steps p.tables e below (s₁.setTop (mkF m 1 #[.val (.int ax), .unset, .unset] [(.int (1 : Int32))])) _
    refine XS.istoreN X0.here hx rfl (hb hby d1_1) rfl (l' := #[.val (.int ax), .val (.int (1 : Int32)), .unset]) rfl ?_
    show Steps p.tables e below (s₁.setTop (mkF m 2 #[.val (.int ax), .val (.int (1 : Int32)), .unset] [])) _
    refine XS.iloadN X0.here hx rfl (hb hby d1_2) rfl  ?_
    show Steps p.tables e below (s₁.setTop (mkF m 3 #[.val (.int ax), .val (.int (1 : Int32)), .unset] [(.int ax)])) _
    refine XS.istoreN X0.here hx rfl (hb hby d1_3) rfl (l' := #[.val (.int ax), .val (.int (1 : Int32)), .val (.int ax)]) rfl ?_
    exact k)
  have P2 : Wy p.tables e below (s₁.setTop (entryFrame m #[(.int ax)] 3)) (s₁.setTop (mkF m 21 #[.val (.int ax), .val (.int (own_pw 1 (9 - nn))), .val (.int (Int32.ofNat 9))] [])) := fun t k => P1 t (by
    have q := own_loop ax X0 hx hZ hw hby hml hown e0 (9 - nn) nn 1 (by omega)
    rw [← hax] at q
    exact q t k)
  have P3 : Wy p.tables e below (s₁.setTop (entryFrame m #[(.int ax)] 3)) (s₁.setTop (mkF m 22 #[.val (.int ax), .val (.int (own_pw 1 (9 - nn))), .val (.int (Int32.ofNat 9))] [(.int (own_pw 1 (9 - nn)))])) := fun t k => P2 t (by
    show Steps p.tables e below (s₁.setTop (mkF m 21 #[.val (.int ax), .val (.int (own_pw 1 (9 - nn))), .val (.int (Int32.ofNat 9))] [])) _
    refine XS.iloadN X0.here hx rfl (hb hby d1_21) rfl  ?_
    exact k)
  obtain ⟨fs, hr, hrun, hended, hW, hsame⟩ := X0.leave (v := some (.int (own_pw 1 (9 - nn)))) (fun h => by rw [Bd.returns] at h; cases h)
  refine ⟨_, _, P3 _ ?_, hrun, hended, _, _, rfl, ?_, ⟨_, rfl⟩, hW, hsame.mono (by decide) (by decide)⟩
  · show Steps p.tables e below (s₁.setTop (mkF m 22 #[.val (.int ax), .val (.int (own_pw 1 (9 - nn))), .val (.int (Int32.ofNat 9))] [(.int (own_pw 1 (9 - nn)))])) _
    exact retI X0 hx Bd.returns (hb hby d1_22) hr
  · show Q1 Z ax nn h0 n0 _ s₁.heap _
    rw [e0]
    exact ⟨rfl, N0, rfl⟩
def F2 (ax : Int32) : Int32 := (if ax = (0 : Int32) then (1000000000 : Int32) else (if ax = (1 : Int32) then (100000000 : Int32) else (if ax = (2 : Int32) then (10000000 : Int32) else (if ax = (3 : Int32) then (1000000 : Int32) else (if ax = (4 : Int32) then (100000 : Int32) else (if ax = (5 : Int32) then (10000 : Int32) else (if ax = (6 : Int32) then (1000 : Int32) else (if ax = (7 : Int32) then (100 : Int32) else (if ax = (8 : Int32) then (10 : Int32) else (1 : Int32))))))))))
theorem d2_0 : decode method_3_code 0 = .ok (.iload_n 0, 1) := by decide +kernel
theorem d2_1 : decode method_3_code 1 = .ok (.ifCond .ne 9, 3) := by decide +kernel
theorem d2_4 : decode method_3_code 4 = .ok (.ldc 19, 2) := by decide +kernel
theorem d2_6 : decode method_3_code 6 = .ok (.istore_n 1, 1) := by decide +kernel
theorem d2_7 : decode method_3_code 7 = .ok (.goto 98, 3) := by decide +kernel
theorem d2_10 : decode method_3_code 10 = .ok (.iload_n 0, 1) := by decide +kernel
theorem d2_11 : decode method_3_code 11 = .ok (.iconst 1, 1) := by decide +kernel
theorem d2_12 : decode method_3_code 12 = .ok (.if_icmp .ne 9, 3) := by decide +kernel
theorem d2_15 : decode method_3_code 15 = .ok (.ldc 20, 2) := by decide +kernel
theorem d2_17 : decode method_3_code 17 = .ok (.istore_n 1, 1) := by decide +kernel
theorem d2_18 : decode method_3_code 18 = .ok (.goto 87, 3) := by decide +kernel
theorem d2_21 : decode method_3_code 21 = .ok (.iload_n 0, 1) := by decide +kernel
theorem d2_22 : decode method_3_code 22 = .ok (.iconst 2, 1) := by decide +kernel
theorem d2_23 : decode method_3_code 23 = .ok (.if_icmp .ne 9, 3) := by decide +kernel
theorem d2_26 : decode method_3_code 26 = .ok (.ldc 21, 2) := by decide +kernel
theorem d2_28 : decode method_3_code 28 = .ok (.istore_n 1, 1) := by decide +kernel
theorem d2_29 : decode method_3_code 29 = .ok (.goto 76, 3) := by decide +kernel
theorem d2_32 : decode method_3_code 32 = .ok (.iload_n 0, 1) := by decide +kernel
theorem d2_33 : decode method_3_code 33 = .ok (.iconst 3, 1) := by decide +kernel
theorem d2_34 : decode method_3_code 34 = .ok (.if_icmp .ne 9, 3) := by decide +kernel
theorem d2_37 : decode method_3_code 37 = .ok (.ldc 22, 2) := by decide +kernel
theorem d2_39 : decode method_3_code 39 = .ok (.istore_n 1, 1) := by decide +kernel
theorem d2_40 : decode method_3_code 40 = .ok (.goto 65, 3) := by decide +kernel
theorem d2_43 : decode method_3_code 43 = .ok (.iload_n 0, 1) := by decide +kernel
theorem d2_44 : decode method_3_code 44 = .ok (.iconst 4, 1) := by decide +kernel
theorem d2_45 : decode method_3_code 45 = .ok (.if_icmp .ne 9, 3) := by decide +kernel
theorem d2_48 : decode method_3_code 48 = .ok (.ldc 23, 2) := by decide +kernel
theorem d2_50 : decode method_3_code 50 = .ok (.istore_n 1, 1) := by decide +kernel
theorem d2_51 : decode method_3_code 51 = .ok (.goto 54, 3) := by decide +kernel
theorem d2_54 : decode method_3_code 54 = .ok (.iload_n 0, 1) := by decide +kernel
theorem d2_55 : decode method_3_code 55 = .ok (.iconst 5, 1) := by decide +kernel
theorem d2_56 : decode method_3_code 56 = .ok (.if_icmp .ne 10, 3) := by decide +kernel
theorem d2_59 : decode method_3_code 59 = .ok (.sipush 10000, 3) := by decide +kernel
theorem d2_62 : decode method_3_code 62 = .ok (.istore_n 1, 1) := by decide +kernel
theorem d2_63 : decode method_3_code 63 = .ok (.goto 42, 3) := by decide +kernel
theorem d2_66 : decode method_3_code 66 = .ok (.iload_n 0, 1) := by decide +kernel
theorem d2_67 : decode method_3_code 67 = .ok (.bipush 6, 2) := by decide +kernel
theorem d2_69 : decode method_3_code 69 = .ok (.if_icmp .ne 10, 3) := by decide +kernel
theorem d2_72 : decode method_3_code 72 = .ok (.sipush 1000, 3) := by decide +kernel
theorem d2_75 : decode method_3_code 75 = .ok (.istore_n 1, 1) := by decide +kernel
theorem d2_76 : decode method_3_code 76 = .ok (.goto 29, 3) := by decide +kernel
theorem d2_79 : decode method_3_code 79 = .ok (.iload_n 0, 1) := by decide +kernel
theorem d2_80 : decode method_3_code 80 = .ok (.bipush 7, 2) := by decide +kernel
theorem d2_82 : decode method_3_code 82 = .ok (.if_icmp .ne 9, 3) := by decide +kernel
theorem d2_85 : decode method_3_code 85 = .ok (.bipush 100, 2) := by decide +kernel
theorem d2_87 : decode method_3_code 87 = .ok (.istore_n 1, 1) := by decide +kernel
theorem d2_88 : decode method_3_code 88 = .ok (.goto 17, 3) := by decide +kernel
theorem d2_91 : decode method_3_code 91 = .ok (.iload_n 0, 1) := by decide +kernel
theorem d2_92 : decode method_3_code 92 = .ok (.bipush 8, 2) := by decide +kernel
theorem d2_94 : decode method_3_code 94 = .ok (.if_icmp .ne 9, 3) := by decide +kernel
theorem d2_97 : decode method_3_code 97 = .ok (.bipush 10, 2) := by decide +kernel
theorem d2_99 : decode method_3_code 99 = .ok (.istore_n 1, 1) := by decide +kernel
theorem d2_100 : decode method_3_code 100 = .ok (.goto 5, 3) := by decide +kernel
theorem d2_103 : decode method_3_code 103 = .ok (.iconst 1, 1) := by decide +kernel
theorem d2_104 : decode method_3_code 104 = .ok (.istore_n 1, 1) := by decide +kernel
theorem d2_105 : decode method_3_code 105 = .ok (.iload_n 1, 1) := by decide +kernel
theorem d2_106 : decode method_3_code 106 = .ok (.ireturn, 1) := by decide +kernel
theorem pn_com_example_cascade_cascade_model_DatetimeTypeUnitPinLaw : plainName "com/example/cascade/cascade/model/DatetimeTypeUnitPinLaw" = true := by first | (simp [plainName, overriddenIn]; done) | decide +kernel
theorem ef_rm2 (m : MethodId) (ax : Int32)  : entryFrame m #[(.int ax)] 2 = (mkF m 0 #[.val (.int ax), .unset] []) := by first | (simp [entryFrame, mkF, argsToLocals, Value.category]; done) | rfl
def Q2 (Z : State) (ax : Int32) (h0 : Heap) (n0 : Nat) (v : Option Value) (h : Heap) (L : List Loc) : Prop := v = some (.int (F2 ax)) ∧ Fr n0 L ∧ h = h0
set_option maxRecDepth 65536 in
set_option maxHeartbeats 40000000 in
theorem rm2 (l : Launch) (Z : State) (a0 : Array Value) (hw : ∀ d ∈ tables_1, d.before a0 Z = true) (ws : List Jvm.Cond) (ax : Int32) (h0 : Heap) (n0 : Nat) (Z0 : n0 ≤ h0.size)  :
    MetFree l (⟨"com/example/cascade/cascade/model/DatetimeTypeUnitPinLaw", "expected", "(I)I"⟩ : MethodName) (head1 (Jvm.Cond.code (⟨"com/example/cascade/cascade/model/DatetimeTypeUnitPinLaw", "expected", "(I)I"⟩ : MethodName) method_3_code 2 (some .int) :: ws) ({ frames := 0, cells := 0, slots := 0, locals := 0 } : Room)) (fun a U => a = #[(.int ax)] ∧ Z.Warmed39 U.vm ∧ U.heap = h0) (fun _ _ _ _ _ => True) (fun _ U o U' => ∃ v L, o = .returned v ∧ Q2 Z ax h0 n0 v U'.heap L ∧ FrameEnd U o U' L ({ frames := 0, cells := 0, slots := 0, locals := 0 } : Room).cells ({ frames := 0, cells := 0, slots := 0, locals := 0 } : Room).slots) := by
  refine MetFree.of_bodySF (plainFor_of_name pn_com_example_cascade_cascade_model_DatetimeTypeUnitPinLaw) hisR ?_
  intro p e s m args below meth c s₁ Bd hml0 hP hK
  obtain ⟨rfl, hZ, hh⟩ := hP
  have hx := Bd.exec
  have hby := Bd.bytes
  have hml : c.maxLocals = 2 := hml0
  have hown : s.vm.findClass "com/example/cascade/cascade/model/DatetimeTypeUnitPinLaw" = some m.cls := findClass_of_methodNamed Bd.named
  have hnm := (name_of_methodNamed Bd.named Bd.method).1
  have X0 : Stand p l e ({ frames := 0, cells := 0, slots := 0, locals := 0 } : Room) s m #[(.int ax)] below meth c s₁ [] 0 0 := Stand.of_body Bd
  have e0 : s₁.heap = h0 := by rw [← hh, Bd.state]; rfl
  have N0 := Fr.nil n0
  have P0 : Wy p.tables e below (s₁.setTop (entryFrame m #[(.int ax)] 2)) (s₁.setTop (mkF m 0 #[.val (.int ax), .unset] [])) := fun t k => castTop (ef_rm2 m ax) k
  have P1 : Wy p.tables e below (s₁.setTop (entryFrame m #[(.int ax)] 2)) (s₁.setTop (mkF m 1 #[.val (.int ax), .unset] [(.int ax)])) := fun t k => P0 t (by
    show Steps p.tables e below (s₁.setTop (mkF m 0 #[.val (.int ax), .unset] [])) _
    refine XS.iloadN X0.here hx rfl (hb hby d2_0) rfl  ?_
    exact k)
  by_cases hc1_2 : ax = (0 : Int32)
  · have P3 : Wy p.tables e below (s₁.setTop (entryFrame m #[(.int ax)] 2)) (s₁.setTop (mkF m 106 #[.val (.int ax), .val (.int (1000000000 : Int32))] [(.int (1000000000 : Int32))])) := fun t k => P1 t (by
      show Steps p.tables e below (s₁.setTop (mkF m 1 #[.val (.int ax), .unset] [(.int ax)])) _
      refine XS.ifNo X0.here hx rfl (hb hby d2_1) rfl ((if0 _ _).trans (teq hc1_2).2) ?_
      show Steps p.tables e below (s₁.setTop (mkF m 4 #[.val (.int ax), .unset] [])) _
      refine X0.ldcInt hx hown (mvT hZ (hw _ (List.mem_of_getElem? (i := 9) rfl))) (g := (mkF m 4 #[.val (.int ax), .unset] [])) rfl (hb hby d2_4) _ ?_
      show Steps p.tables e below (s₁.setTop (mkF m 6 #[.val (.int ax), .unset] [(.int (1000000000 : Int32))])) _
      refine XS.istoreN X0.here hx rfl (hb hby d2_6) rfl (l' := #[.val (.int ax), .val (.int (1000000000 : Int32))]) rfl ?_
      show Steps p.tables e below (s₁.setTop (mkF m 7 #[.val (.int ax), .val (.int (1000000000 : Int32))] [])) _
      refine XS.goto X0.here hx rfl (pc0 := 7) (pc' := 105) rfl (hb hby d2_7) (by decide) (by decide) ?_
      show Steps p.tables e below (s₁.setTop (mkF m 105 #[.val (.int ax), .val (.int (1000000000 : Int32))] [])) _
      refine XS.iloadN X0.here hx rfl (hb hby d2_105) rfl  ?_
      exact k)
    obtain ⟨fs, hr, hrun, hended, hW, hsame⟩ := X0.leave (v := some (.int (1000000000 : Int32))) (fun h => by rw [Bd.returns] at h; cases h)
    refine ⟨_, _, P3 _ ?_, hrun, hended, _, _, rfl, ?_, ⟨_, rfl⟩, hW, hsame.mono (by decide) (by decide)⟩
    · show Steps p.tables e below (s₁.setTop (mkF m 106 #[.val (.int ax), .val (.int (1000000000 : Int32))] [(.int (1000000000 : Int32))])) _
      exact retI X0 hx Bd.returns (hb hby d2_106) hr
    · show Q2 Z ax h0 n0 _ s₁.heap _
      rw [e0]
      exact ⟨congrArg (fun z => some (Value.int z)) (show _ = F2 ax from by simp only [F2, if_pos hc1_2]; try rfl), N0, rfl⟩
  · have P4 : Wy p.tables e below (s₁.setTop (entryFrame m #[(.int ax)] 2)) (s₁.setTop (mkF m 12 #[.val (.int ax), .unset] [(.int (1 : Int32)), (.int ax)])) := fun t k => P1 t (by
      show Steps p.tables e below (s₁.setTop (mkF m 1 #[.val (.int ax), .unset] [(.int ax)])) _
      refine XS.ifYes X0.here hx rfl (pc0 := 1) (pc' := 10) rfl (hb hby d2_1) rfl ((if0 _ _).trans (feq hc1_2).2) (by decide) (by decide) ?_
      show Steps p.tables e below (s₁.setTop (mkF m 10 #[.val (.int ax), .unset] [])) _
      refine XS.iloadN X0.here hx rfl (hb hby d2_10) rfl  ?_
      show Steps p.tables e below (s₁.setTop (mkF m 11 #[.val (.int ax), .unset] [(.int ax)])) _
      refine XS.iconst X0.here hx rfl (hb hby d2_11) ?_
      exact k)
    by_cases hc12_5 : ax = (1 : Int32)
    · have P6 : Wy p.tables e below (s₁.setTop (entryFrame m #[(.int ax)] 2)) (s₁.setTop (mkF m 106 #[.val (.int ax), .val (.int (100000000 : Int32))] [(.int (100000000 : Int32))])) := fun t k => P4 t (by
        show Steps p.tables e below (s₁.setTop (mkF m 12 #[.val (.int ax), .unset] [(.int (1 : Int32)), (.int ax)])) _
        refine XS.icmpNo X0.here hx rfl (hb hby d2_12) rfl (teq hc12_5).2 ?_
        show Steps p.tables e below (s₁.setTop (mkF m 15 #[.val (.int ax), .unset] [])) _
        refine X0.ldcInt hx hown (mvT hZ (hw _ (List.mem_of_getElem? (i := 11) rfl))) (g := (mkF m 15 #[.val (.int ax), .unset] [])) rfl (hb hby d2_15) _ ?_
        show Steps p.tables e below (s₁.setTop (mkF m 17 #[.val (.int ax), .unset] [(.int (100000000 : Int32))])) _
        refine XS.istoreN X0.here hx rfl (hb hby d2_17) rfl (l' := #[.val (.int ax), .val (.int (100000000 : Int32))]) rfl ?_
        show Steps p.tables e below (s₁.setTop (mkF m 18 #[.val (.int ax), .val (.int (100000000 : Int32))] [])) _
        refine XS.goto X0.here hx rfl (pc0 := 18) (pc' := 105) rfl (hb hby d2_18) (by decide) (by decide) ?_
        show Steps p.tables e below (s₁.setTop (mkF m 105 #[.val (.int ax), .val (.int (100000000 : Int32))] [])) _
        refine XS.iloadN X0.here hx rfl (hb hby d2_105) rfl  ?_
        exact k)
      obtain ⟨fs, hr, hrun, hended, hW, hsame⟩ := X0.leave (v := some (.int (100000000 : Int32))) (fun h => by rw [Bd.returns] at h; cases h)
      refine ⟨_, _, P6 _ ?_, hrun, hended, _, _, rfl, ?_, ⟨_, rfl⟩, hW, hsame.mono (by decide) (by decide)⟩
      · show Steps p.tables e below (s₁.setTop (mkF m 106 #[.val (.int ax), .val (.int (100000000 : Int32))] [(.int (100000000 : Int32))])) _
        exact retI X0 hx Bd.returns (hb hby d2_106) hr
      · show Q2 Z ax h0 n0 _ s₁.heap _
        rw [e0]
        exact ⟨congrArg (fun z => some (Value.int z)) (show _ = F2 ax from by simp only [F2, if_neg hc1_2, if_pos hc12_5]; try rfl), N0, rfl⟩
    · have P7 : Wy p.tables e below (s₁.setTop (entryFrame m #[(.int ax)] 2)) (s₁.setTop (mkF m 23 #[.val (.int ax), .unset] [(.int (2 : Int32)), (.int ax)])) := fun t k => P4 t (by
        show Steps p.tables e below (s₁.setTop (mkF m 12 #[.val (.int ax), .unset] [(.int (1 : Int32)), (.int ax)])) _
        refine XS.icmpYes X0.here hx rfl (pc0 := 12) (pc' := 21) rfl (hb hby d2_12) rfl (feq hc12_5).2 (by decide) (by decide) ?_
        show Steps p.tables e below (s₁.setTop (mkF m 21 #[.val (.int ax), .unset] [])) _
        refine XS.iloadN X0.here hx rfl (hb hby d2_21) rfl  ?_
        show Steps p.tables e below (s₁.setTop (mkF m 22 #[.val (.int ax), .unset] [(.int ax)])) _
        refine XS.iconst X0.here hx rfl (hb hby d2_22) ?_
        exact k)
      by_cases hc23_8 : ax = (2 : Int32)
      · have P9 : Wy p.tables e below (s₁.setTop (entryFrame m #[(.int ax)] 2)) (s₁.setTop (mkF m 106 #[.val (.int ax), .val (.int (10000000 : Int32))] [(.int (10000000 : Int32))])) := fun t k => P7 t (by
          show Steps p.tables e below (s₁.setTop (mkF m 23 #[.val (.int ax), .unset] [(.int (2 : Int32)), (.int ax)])) _
          refine XS.icmpNo X0.here hx rfl (hb hby d2_23) rfl (teq hc23_8).2 ?_
          show Steps p.tables e below (s₁.setTop (mkF m 26 #[.val (.int ax), .unset] [])) _
          refine X0.ldcInt hx hown (mvT hZ (hw _ (List.mem_of_getElem? (i := 13) rfl))) (g := (mkF m 26 #[.val (.int ax), .unset] [])) rfl (hb hby d2_26) _ ?_
          show Steps p.tables e below (s₁.setTop (mkF m 28 #[.val (.int ax), .unset] [(.int (10000000 : Int32))])) _
          refine XS.istoreN X0.here hx rfl (hb hby d2_28) rfl (l' := #[.val (.int ax), .val (.int (10000000 : Int32))]) rfl ?_
          show Steps p.tables e below (s₁.setTop (mkF m 29 #[.val (.int ax), .val (.int (10000000 : Int32))] [])) _
          refine XS.goto X0.here hx rfl (pc0 := 29) (pc' := 105) rfl (hb hby d2_29) (by decide) (by decide) ?_
          show Steps p.tables e below (s₁.setTop (mkF m 105 #[.val (.int ax), .val (.int (10000000 : Int32))] [])) _
          refine XS.iloadN X0.here hx rfl (hb hby d2_105) rfl  ?_
          exact k)
        obtain ⟨fs, hr, hrun, hended, hW, hsame⟩ := X0.leave (v := some (.int (10000000 : Int32))) (fun h => by rw [Bd.returns] at h; cases h)
        refine ⟨_, _, P9 _ ?_, hrun, hended, _, _, rfl, ?_, ⟨_, rfl⟩, hW, hsame.mono (by decide) (by decide)⟩
        · show Steps p.tables e below (s₁.setTop (mkF m 106 #[.val (.int ax), .val (.int (10000000 : Int32))] [(.int (10000000 : Int32))])) _
          exact retI X0 hx Bd.returns (hb hby d2_106) hr
        · show Q2 Z ax h0 n0 _ s₁.heap _
          rw [e0]
          exact ⟨congrArg (fun z => some (Value.int z)) (show _ = F2 ax from by simp only [F2, if_neg hc1_2, if_neg hc12_5, if_pos hc23_8]; try rfl), N0, rfl⟩
      · have P10 : Wy p.tables e below (s₁.setTop (entryFrame m #[(.int ax)] 2)) (s₁.setTop (mkF m 34 #[.val (.int ax), .unset] [(.int (3 : Int32)), (.int ax)])) := fun t k => P7 t (by
          show Steps p.tables e below (s₁.setTop (mkF m 23 #[.val (.int ax), .unset] [(.int (2 : Int32)), (.int ax)])) _
          refine XS.icmpYes X0.here hx rfl (pc0 := 23) (pc' := 32) rfl (hb hby d2_23) rfl (feq hc23_8).2 (by decide) (by decide) ?_
          show Steps p.tables e below (s₁.setTop (mkF m 32 #[.val (.int ax), .unset] [])) _
          refine XS.iloadN X0.here hx rfl (hb hby d2_32) rfl  ?_
          show Steps p.tables e below (s₁.setTop (mkF m 33 #[.val (.int ax), .unset] [(.int ax)])) _
          refine XS.iconst X0.here hx rfl (hb hby d2_33) ?_
          exact k)
        by_cases hc34_11 : ax = (3 : Int32)
        · have P12 : Wy p.tables e below (s₁.setTop (entryFrame m #[(.int ax)] 2)) (s₁.setTop (mkF m 106 #[.val (.int ax), .val (.int (1000000 : Int32))] [(.int (1000000 : Int32))])) := fun t k => P10 t (by
            show Steps p.tables e below (s₁.setTop (mkF m 34 #[.val (.int ax), .unset] [(.int (3 : Int32)), (.int ax)])) _
            refine XS.icmpNo X0.here hx rfl (hb hby d2_34) rfl (teq hc34_11).2 ?_
            show Steps p.tables e below (s₁.setTop (mkF m 37 #[.val (.int ax), .unset] [])) _
            refine X0.ldcInt hx hown (mvT hZ (hw _ (List.mem_of_getElem? (i := 10) rfl))) (g := (mkF m 37 #[.val (.int ax), .unset] [])) rfl (hb hby d2_37) _ ?_
            show Steps p.tables e below (s₁.setTop (mkF m 39 #[.val (.int ax), .unset] [(.int (1000000 : Int32))])) _
            refine XS.istoreN X0.here hx rfl (hb hby d2_39) rfl (l' := #[.val (.int ax), .val (.int (1000000 : Int32))]) rfl ?_
            show Steps p.tables e below (s₁.setTop (mkF m 40 #[.val (.int ax), .val (.int (1000000 : Int32))] [])) _
            refine XS.goto X0.here hx rfl (pc0 := 40) (pc' := 105) rfl (hb hby d2_40) (by decide) (by decide) ?_
            show Steps p.tables e below (s₁.setTop (mkF m 105 #[.val (.int ax), .val (.int (1000000 : Int32))] [])) _
            refine XS.iloadN X0.here hx rfl (hb hby d2_105) rfl  ?_
            exact k)
          obtain ⟨fs, hr, hrun, hended, hW, hsame⟩ := X0.leave (v := some (.int (1000000 : Int32))) (fun h => by rw [Bd.returns] at h; cases h)
          refine ⟨_, _, P12 _ ?_, hrun, hended, _, _, rfl, ?_, ⟨_, rfl⟩, hW, hsame.mono (by decide) (by decide)⟩
          · show Steps p.tables e below (s₁.setTop (mkF m 106 #[.val (.int ax), .val (.int (1000000 : Int32))] [(.int (1000000 : Int32))])) _
            exact retI X0 hx Bd.returns (hb hby d2_106) hr
          · show Q2 Z ax h0 n0 _ s₁.heap _
            rw [e0]
            exact ⟨congrArg (fun z => some (Value.int z)) (show _ = F2 ax from by simp only [F2, if_neg hc1_2, if_neg hc12_5, if_neg hc23_8, if_pos hc34_11]; try rfl), N0, rfl⟩
        · have P13 : Wy p.tables e below (s₁.setTop (entryFrame m #[(.int ax)] 2)) (s₁.setTop (mkF m 45 #[.val (.int ax), .unset] [(.int (4 : Int32)), (.int ax)])) := fun t k => P10 t (by
            show Steps p.tables e below (s₁.setTop (mkF m 34 #[.val (.int ax), .unset] [(.int (3 : Int32)), (.int ax)])) _
            refine XS.icmpYes X0.here hx rfl (pc0 := 34) (pc' := 43) rfl (hb hby d2_34) rfl (feq hc34_11).2 (by decide) (by decide) ?_
            show Steps p.tables e below (s₁.setTop (mkF m 43 #[.val (.int ax), .unset] [])) _
            refine XS.iloadN X0.here hx rfl (hb hby d2_43) rfl  ?_
            show Steps p.tables e below (s₁.setTop (mkF m 44 #[.val (.int ax), .unset] [(.int ax)])) _
            refine XS.iconst X0.here hx rfl (hb hby d2_44) ?_
            exact k)
          by_cases hc45_14 : ax = (4 : Int32)
          · have P15 : Wy p.tables e below (s₁.setTop (entryFrame m #[(.int ax)] 2)) (s₁.setTop (mkF m 106 #[.val (.int ax), .val (.int (100000 : Int32))] [(.int (100000 : Int32))])) := fun t k => P13 t (by
              show Steps p.tables e below (s₁.setTop (mkF m 45 #[.val (.int ax), .unset] [(.int (4 : Int32)), (.int ax)])) _
              refine XS.icmpNo X0.here hx rfl (hb hby d2_45) rfl (teq hc45_14).2 ?_
              show Steps p.tables e below (s₁.setTop (mkF m 48 #[.val (.int ax), .unset] [])) _
              refine X0.ldcInt hx hown (mvT hZ (hw _ (List.mem_of_getElem? (i := 12) rfl))) (g := (mkF m 48 #[.val (.int ax), .unset] [])) rfl (hb hby d2_48) _ ?_
              show Steps p.tables e below (s₁.setTop (mkF m 50 #[.val (.int ax), .unset] [(.int (100000 : Int32))])) _
              refine XS.istoreN X0.here hx rfl (hb hby d2_50) rfl (l' := #[.val (.int ax), .val (.int (100000 : Int32))]) rfl ?_
              show Steps p.tables e below (s₁.setTop (mkF m 51 #[.val (.int ax), .val (.int (100000 : Int32))] [])) _
              refine XS.goto X0.here hx rfl (pc0 := 51) (pc' := 105) rfl (hb hby d2_51) (by decide) (by decide) ?_
              show Steps p.tables e below (s₁.setTop (mkF m 105 #[.val (.int ax), .val (.int (100000 : Int32))] [])) _
              refine XS.iloadN X0.here hx rfl (hb hby d2_105) rfl  ?_
              exact k)
            obtain ⟨fs, hr, hrun, hended, hW, hsame⟩ := X0.leave (v := some (.int (100000 : Int32))) (fun h => by rw [Bd.returns] at h; cases h)
            refine ⟨_, _, P15 _ ?_, hrun, hended, _, _, rfl, ?_, ⟨_, rfl⟩, hW, hsame.mono (by decide) (by decide)⟩
            · show Steps p.tables e below (s₁.setTop (mkF m 106 #[.val (.int ax), .val (.int (100000 : Int32))] [(.int (100000 : Int32))])) _
              exact retI X0 hx Bd.returns (hb hby d2_106) hr
            · show Q2 Z ax h0 n0 _ s₁.heap _
              rw [e0]
              exact ⟨congrArg (fun z => some (Value.int z)) (show _ = F2 ax from by simp only [F2, if_neg hc1_2, if_neg hc12_5, if_neg hc23_8, if_neg hc34_11, if_pos hc45_14]; try rfl), N0, rfl⟩
          · have P16 : Wy p.tables e below (s₁.setTop (entryFrame m #[(.int ax)] 2)) (s₁.setTop (mkF m 56 #[.val (.int ax), .unset] [(.int (5 : Int32)), (.int ax)])) := fun t k => P13 t (by
              show Steps p.tables e below (s₁.setTop (mkF m 45 #[.val (.int ax), .unset] [(.int (4 : Int32)), (.int ax)])) _
              refine XS.icmpYes X0.here hx rfl (pc0 := 45) (pc' := 54) rfl (hb hby d2_45) rfl (feq hc45_14).2 (by decide) (by decide) ?_
              show Steps p.tables e below (s₁.setTop (mkF m 54 #[.val (.int ax), .unset] [])) _
              refine XS.iloadN X0.here hx rfl (hb hby d2_54) rfl  ?_
              show Steps p.tables e below (s₁.setTop (mkF m 55 #[.val (.int ax), .unset] [(.int ax)])) _
              refine XS.iconst X0.here hx rfl (hb hby d2_55) ?_
              exact k)
            by_cases hc56_17 : ax = (5 : Int32)
            · have P18 : Wy p.tables e below (s₁.setTop (entryFrame m #[(.int ax)] 2)) (s₁.setTop (mkF m 106 #[.val (.int ax), .val (.int (10000 : Int32))] [(.int (10000 : Int32))])) := fun t k => P16 t (by
                show Steps p.tables e below (s₁.setTop (mkF m 56 #[.val (.int ax), .unset] [(.int (5 : Int32)), (.int ax)])) _
                refine XS.icmpNo X0.here hx rfl (hb hby d2_56) rfl (teq hc56_17).2 ?_
                show Steps p.tables e below (s₁.setTop (mkF m 59 #[.val (.int ax), .unset] [])) _
                refine XS.sipush X0.here hx rfl (hb hby d2_59) ?_
                show Steps p.tables e below (s₁.setTop (mkF m 62 #[.val (.int ax), .unset] [(.int (10000 : Int32))])) _
                refine XS.istoreN X0.here hx rfl (hb hby d2_62) rfl (l' := #[.val (.int ax), .val (.int (10000 : Int32))]) rfl ?_
                show Steps p.tables e below (s₁.setTop (mkF m 63 #[.val (.int ax), .val (.int (10000 : Int32))] [])) _
                refine XS.goto X0.here hx rfl (pc0 := 63) (pc' := 105) rfl (hb hby d2_63) (by decide) (by decide) ?_
                show Steps p.tables e below (s₁.setTop (mkF m 105 #[.val (.int ax), .val (.int (10000 : Int32))] [])) _
                refine XS.iloadN X0.here hx rfl (hb hby d2_105) rfl  ?_
                exact k)
              obtain ⟨fs, hr, hrun, hended, hW, hsame⟩ := X0.leave (v := some (.int (10000 : Int32))) (fun h => by rw [Bd.returns] at h; cases h)
              refine ⟨_, _, P18 _ ?_, hrun, hended, _, _, rfl, ?_, ⟨_, rfl⟩, hW, hsame.mono (by decide) (by decide)⟩
              · show Steps p.tables e below (s₁.setTop (mkF m 106 #[.val (.int ax), .val (.int (10000 : Int32))] [(.int (10000 : Int32))])) _
                exact retI X0 hx Bd.returns (hb hby d2_106) hr
              · show Q2 Z ax h0 n0 _ s₁.heap _
                rw [e0]
                exact ⟨congrArg (fun z => some (Value.int z)) (show _ = F2 ax from by simp only [F2, if_neg hc1_2, if_neg hc12_5, if_neg hc23_8, if_neg hc34_11, if_neg hc45_14, if_pos hc56_17]; try rfl), N0, rfl⟩
            · have P19 : Wy p.tables e below (s₁.setTop (entryFrame m #[(.int ax)] 2)) (s₁.setTop (mkF m 69 #[.val (.int ax), .unset] [(.int (6 : Int32)), (.int ax)])) := fun t k => P16 t (by
                show Steps p.tables e below (s₁.setTop (mkF m 56 #[.val (.int ax), .unset] [(.int (5 : Int32)), (.int ax)])) _
                refine XS.icmpYes X0.here hx rfl (pc0 := 56) (pc' := 66) rfl (hb hby d2_56) rfl (feq hc56_17).2 (by decide) (by decide) ?_
                show Steps p.tables e below (s₁.setTop (mkF m 66 #[.val (.int ax), .unset] [])) _
                refine XS.iloadN X0.here hx rfl (hb hby d2_66) rfl  ?_
                show Steps p.tables e below (s₁.setTop (mkF m 67 #[.val (.int ax), .unset] [(.int ax)])) _
                refine XS.bipush X0.here hx rfl (hb hby d2_67) ?_
                exact k)
              by_cases hc69_20 : ax = (6 : Int32)
              · have P21 : Wy p.tables e below (s₁.setTop (entryFrame m #[(.int ax)] 2)) (s₁.setTop (mkF m 106 #[.val (.int ax), .val (.int (1000 : Int32))] [(.int (1000 : Int32))])) := fun t k => P19 t (by
                  show Steps p.tables e below (s₁.setTop (mkF m 69 #[.val (.int ax), .unset] [(.int (6 : Int32)), (.int ax)])) _
                  refine XS.icmpNo X0.here hx rfl (hb hby d2_69) rfl (teq hc69_20).2 ?_
                  show Steps p.tables e below (s₁.setTop (mkF m 72 #[.val (.int ax), .unset] [])) _
                  refine XS.sipush X0.here hx rfl (hb hby d2_72) ?_
                  show Steps p.tables e below (s₁.setTop (mkF m 75 #[.val (.int ax), .unset] [(.int (1000 : Int32))])) _
                  refine XS.istoreN X0.here hx rfl (hb hby d2_75) rfl (l' := #[.val (.int ax), .val (.int (1000 : Int32))]) rfl ?_
                  show Steps p.tables e below (s₁.setTop (mkF m 76 #[.val (.int ax), .val (.int (1000 : Int32))] [])) _
                  refine XS.goto X0.here hx rfl (pc0 := 76) (pc' := 105) rfl (hb hby d2_76) (by decide) (by decide) ?_
                  show Steps p.tables e below (s₁.setTop (mkF m 105 #[.val (.int ax), .val (.int (1000 : Int32))] [])) _
                  refine XS.iloadN X0.here hx rfl (hb hby d2_105) rfl  ?_
                  exact k)
                obtain ⟨fs, hr, hrun, hended, hW, hsame⟩ := X0.leave (v := some (.int (1000 : Int32))) (fun h => by rw [Bd.returns] at h; cases h)
                refine ⟨_, _, P21 _ ?_, hrun, hended, _, _, rfl, ?_, ⟨_, rfl⟩, hW, hsame.mono (by decide) (by decide)⟩
                · show Steps p.tables e below (s₁.setTop (mkF m 106 #[.val (.int ax), .val (.int (1000 : Int32))] [(.int (1000 : Int32))])) _
                  exact retI X0 hx Bd.returns (hb hby d2_106) hr
                · show Q2 Z ax h0 n0 _ s₁.heap _
                  rw [e0]
                  exact ⟨congrArg (fun z => some (Value.int z)) (show _ = F2 ax from by simp only [F2, if_neg hc1_2, if_neg hc12_5, if_neg hc23_8, if_neg hc34_11, if_neg hc45_14, if_neg hc56_17, if_pos hc69_20]; try rfl), N0, rfl⟩
              · have P22 : Wy p.tables e below (s₁.setTop (entryFrame m #[(.int ax)] 2)) (s₁.setTop (mkF m 82 #[.val (.int ax), .unset] [(.int (7 : Int32)), (.int ax)])) := fun t k => P19 t (by
                  show Steps p.tables e below (s₁.setTop (mkF m 69 #[.val (.int ax), .unset] [(.int (6 : Int32)), (.int ax)])) _
                  refine XS.icmpYes X0.here hx rfl (pc0 := 69) (pc' := 79) rfl (hb hby d2_69) rfl (feq hc69_20).2 (by decide) (by decide) ?_
                  show Steps p.tables e below (s₁.setTop (mkF m 79 #[.val (.int ax), .unset] [])) _
                  refine XS.iloadN X0.here hx rfl (hb hby d2_79) rfl  ?_
                  show Steps p.tables e below (s₁.setTop (mkF m 80 #[.val (.int ax), .unset] [(.int ax)])) _
                  refine XS.bipush X0.here hx rfl (hb hby d2_80) ?_
                  exact k)
                by_cases hc82_23 : ax = (7 : Int32)
                · have P24 : Wy p.tables e below (s₁.setTop (entryFrame m #[(.int ax)] 2)) (s₁.setTop (mkF m 106 #[.val (.int ax), .val (.int (100 : Int32))] [(.int (100 : Int32))])) := fun t k => P22 t (by
                    show Steps p.tables e below (s₁.setTop (mkF m 82 #[.val (.int ax), .unset] [(.int (7 : Int32)), (.int ax)])) _
                    refine XS.icmpNo X0.here hx rfl (hb hby d2_82) rfl (teq hc82_23).2 ?_
                    show Steps p.tables e below (s₁.setTop (mkF m 85 #[.val (.int ax), .unset] [])) _
                    refine XS.bipush X0.here hx rfl (hb hby d2_85) ?_
                    show Steps p.tables e below (s₁.setTop (mkF m 87 #[.val (.int ax), .unset] [(.int (100 : Int32))])) _
                    refine XS.istoreN X0.here hx rfl (hb hby d2_87) rfl (l' := #[.val (.int ax), .val (.int (100 : Int32))]) rfl ?_
                    show Steps p.tables e below (s₁.setTop (mkF m 88 #[.val (.int ax), .val (.int (100 : Int32))] [])) _
                    refine XS.goto X0.here hx rfl (pc0 := 88) (pc' := 105) rfl (hb hby d2_88) (by decide) (by decide) ?_
                    show Steps p.tables e below (s₁.setTop (mkF m 105 #[.val (.int ax), .val (.int (100 : Int32))] [])) _
                    refine XS.iloadN X0.here hx rfl (hb hby d2_105) rfl  ?_
                    exact k)
                  obtain ⟨fs, hr, hrun, hended, hW, hsame⟩ := X0.leave (v := some (.int (100 : Int32))) (fun h => by rw [Bd.returns] at h; cases h)
                  refine ⟨_, _, P24 _ ?_, hrun, hended, _, _, rfl, ?_, ⟨_, rfl⟩, hW, hsame.mono (by decide) (by decide)⟩
                  · show Steps p.tables e below (s₁.setTop (mkF m 106 #[.val (.int ax), .val (.int (100 : Int32))] [(.int (100 : Int32))])) _
                    exact retI X0 hx Bd.returns (hb hby d2_106) hr
                  · show Q2 Z ax h0 n0 _ s₁.heap _
                    rw [e0]
                    exact ⟨congrArg (fun z => some (Value.int z)) (show _ = F2 ax from by simp only [F2, if_neg hc1_2, if_neg hc12_5, if_neg hc23_8, if_neg hc34_11, if_neg hc45_14, if_neg hc56_17, if_neg hc69_20, if_pos hc82_23]; try rfl), N0, rfl⟩
                · have P25 : Wy p.tables e below (s₁.setTop (entryFrame m #[(.int ax)] 2)) (s₁.setTop (mkF m 94 #[.val (.int ax), .unset] [(.int (8 : Int32)), (.int ax)])) := fun t k => P22 t (by
                    show Steps p.tables e below (s₁.setTop (mkF m 82 #[.val (.int ax), .unset] [(.int (7 : Int32)), (.int ax)])) _
                    refine XS.icmpYes X0.here hx rfl (pc0 := 82) (pc' := 91) rfl (hb hby d2_82) rfl (feq hc82_23).2 (by decide) (by decide) ?_
                    show Steps p.tables e below (s₁.setTop (mkF m 91 #[.val (.int ax), .unset] [])) _
                    refine XS.iloadN X0.here hx rfl (hb hby d2_91) rfl  ?_
                    show Steps p.tables e below (s₁.setTop (mkF m 92 #[.val (.int ax), .unset] [(.int ax)])) _
                    refine XS.bipush X0.here hx rfl (hb hby d2_92) ?_
                    exact k)
                  by_cases hc94_26 : ax = (8 : Int32)
                  · have P27 : Wy p.tables e below (s₁.setTop (entryFrame m #[(.int ax)] 2)) (s₁.setTop (mkF m 106 #[.val (.int ax), .val (.int (10 : Int32))] [(.int (10 : Int32))])) := fun t k => P25 t (by
                      show Steps p.tables e below (s₁.setTop (mkF m 94 #[.val (.int ax), .unset] [(.int (8 : Int32)), (.int ax)])) _
                      refine XS.icmpNo X0.here hx rfl (hb hby d2_94) rfl (teq hc94_26).2 ?_
                      show Steps p.tables e below (s₁.setTop (mkF m 97 #[.val (.int ax), .unset] [])) _
                      refine XS.bipush X0.here hx rfl (hb hby d2_97) ?_
                      show Steps p.tables e below (s₁.setTop (mkF m 99 #[.val (.int ax), .unset] [(.int (10 : Int32))])) _
                      refine XS.istoreN X0.here hx rfl (hb hby d2_99) rfl (l' := #[.val (.int ax), .val (.int (10 : Int32))]) rfl ?_
                      show Steps p.tables e below (s₁.setTop (mkF m 100 #[.val (.int ax), .val (.int (10 : Int32))] [])) _
                      refine XS.goto X0.here hx rfl (pc0 := 100) (pc' := 105) rfl (hb hby d2_100) (by decide) (by decide) ?_
                      show Steps p.tables e below (s₁.setTop (mkF m 105 #[.val (.int ax), .val (.int (10 : Int32))] [])) _
                      refine XS.iloadN X0.here hx rfl (hb hby d2_105) rfl  ?_
                      exact k)
                    obtain ⟨fs, hr, hrun, hended, hW, hsame⟩ := X0.leave (v := some (.int (10 : Int32))) (fun h => by rw [Bd.returns] at h; cases h)
                    refine ⟨_, _, P27 _ ?_, hrun, hended, _, _, rfl, ?_, ⟨_, rfl⟩, hW, hsame.mono (by decide) (by decide)⟩
                    · show Steps p.tables e below (s₁.setTop (mkF m 106 #[.val (.int ax), .val (.int (10 : Int32))] [(.int (10 : Int32))])) _
                      exact retI X0 hx Bd.returns (hb hby d2_106) hr
                    · show Q2 Z ax h0 n0 _ s₁.heap _
                      rw [e0]
                      exact ⟨congrArg (fun z => some (Value.int z)) (show _ = F2 ax from by simp only [F2, if_neg hc1_2, if_neg hc12_5, if_neg hc23_8, if_neg hc34_11, if_neg hc45_14, if_neg hc56_17, if_neg hc69_20, if_neg hc82_23, if_pos hc94_26]; try rfl), N0, rfl⟩
                  · have P28 : Wy p.tables e below (s₁.setTop (entryFrame m #[(.int ax)] 2)) (s₁.setTop (mkF m 106 #[.val (.int ax), .val (.int (1 : Int32))] [(.int (1 : Int32))])) := fun t k => P25 t (by
                      show Steps p.tables e below (s₁.setTop (mkF m 94 #[.val (.int ax), .unset] [(.int (8 : Int32)), (.int ax)])) _
                      refine XS.icmpYes X0.here hx rfl (pc0 := 94) (pc' := 103) rfl (hb hby d2_94) rfl (feq hc94_26).2 (by decide) (by decide) ?_
                      show Steps p.tables e below (s₁.setTop (mkF m 103 #[.val (.int ax), .unset] [])) _
                      refine XS.iconst X0.here hx rfl (hb hby d2_103) ?_
                      show Steps p.tables e below (s₁.setTop (mkF m 104 #[.val (.int ax), .unset] [(.int (1 : Int32))])) _
                      refine XS.istoreN X0.here hx rfl (hb hby d2_104) rfl (l' := #[.val (.int ax), .val (.int (1 : Int32))]) rfl ?_
                      show Steps p.tables e below (s₁.setTop (mkF m 105 #[.val (.int ax), .val (.int (1 : Int32))] [])) _
                      refine XS.iloadN X0.here hx rfl (hb hby d2_105) rfl  ?_
                      exact k)
                    obtain ⟨fs, hr, hrun, hended, hW, hsame⟩ := X0.leave (v := some (.int (1 : Int32))) (fun h => by rw [Bd.returns] at h; cases h)
                    refine ⟨_, _, P28 _ ?_, hrun, hended, _, _, rfl, ?_, ⟨_, rfl⟩, hW, hsame.mono (by decide) (by decide)⟩
                    · show Steps p.tables e below (s₁.setTop (mkF m 106 #[.val (.int ax), .val (.int (1 : Int32))] [(.int (1 : Int32))])) _
                      exact retI X0 hx Bd.returns (hb hby d2_106) hr
                    · show Q2 Z ax h0 n0 _ s₁.heap _
                      rw [e0]
                      exact ⟨congrArg (fun z => some (Value.int z)) (show _ = F2 ax from by simp only [F2, if_neg hc1_2, if_neg hc12_5, if_neg hc23_8, if_neg hc34_11, if_neg hc45_14, if_neg hc56_17, if_neg hc69_20, if_neg hc82_23, if_neg hc94_26]; try rfl), N0, rfl⟩
theorem own_tab : ∀ n : Fin 10, own_pw 1 (9 - n.val) = F2 (Int32.ofNat n.val) := by decide +kernel
theorem own_law {v : Int32} {nn : Nat} (hn : nn ≤ 9) (hv : v = Int32.ofNat nn) : own_pw 1 (9 - nn) = F2 v := by
  subst hv
  exact own_tab ⟨nn, by omega⟩
theorem own_rng {ax v : Int32} (hv : v = ((ax &&& (2147483647 : Int32)) - ((ax &&& (2147483647 : Int32)) / (10 : Int32)) * (10 : Int32))) : ∃ nn : Nat, nn ≤ 9 ∧ v = Int32.ofNat nn := by
  have h1 := c_and ax 2147483647 (by decide)
  have h2 := own_rem (ax &&& 2147483647) 10 h1.1 (by decide)
  rw [← hv, show (10 : Int32).toInt = 10 from rfl] at h2
  exact ⟨v.toInt.toNat, by omega, own_nat (by omega)⟩
theorem pd_lIrI : parseMethodDescriptor "(I)I" = some ⟨[.int], some .int⟩ := by decide +kernel
theorem ef_rm0 (m : MethodId) (ax : Int32)  : entryFrame m #[(.int ax)] maxLocals = (mkF m 0 #[.val (.int ax), .unset] []) := by first | (simp [entryFrame, mkF, argsToLocals, Value.category, maxLocals]; done) | rfl
def Q0 (Z : State) (ax : Int32) (h0 : Heap) (n0 : Nat) (v : Option Value) (h : Heap) (L : List Loc) : Prop := v = some (.int 1) ∧ Fr n0 L
set_option maxRecDepth 65536 in
set_option maxHeartbeats 40000000 in
theorem rm0 (l : Launch) (Z : State) (a0 : Array Value) (hw : ∀ d ∈ tables_1, d.before a0 Z = true) (ws : List Jvm.Cond) (ax : Int32) (h0 : Heap) (n0 : Nat) (Z0 : n0 ≤ h0.size)  :
    MetFree l x (head1 (Jvm.Cond.code x code maxLocals ret :: ws) room_1) (fun a U => a = #[(.int ax)] ∧ Z.Warmed39 U.vm ∧ U.heap = h0) (fun _ _ _ _ _ => True) (fun _ U o U' => ∃ v L, o = .returned v ∧ Q0 Z ax h0 n0 v U'.heap L ∧ FrameEnd U o U' L room_1.cells room_1.slots) := by
  refine MetFree.of_bodySF (plainFor_of_name pn_com_example_cascade_cascade_model_DatetimeTypeUnitPinLaw) hisR ?_
  intro p e s m args below meth c s₁ Bd hml0 hP hK
  obtain ⟨rfl, hZ, hh⟩ := hP
  have hx := Bd.exec
  have hby := Bd.bytes
  have hml : c.maxLocals = 2 := hml0
  have hown : s.vm.findClass "com/example/cascade/cascade/model/DatetimeTypeUnitPinLaw" = some m.cls := findClass_of_methodNamed Bd.named
  have hnm := (name_of_methodNamed Bd.named Bd.method).1
  have X0 : Stand p l e room_1 s m #[(.int ax)] below meth c s₁ [] 0 0 := Stand.of_body Bd
  have e0 : s₁.heap = h0 := by rw [← hh, Bd.state]; rfl
  have N0 := Fr.nil n0
  have P0 : Wy p.tables e below (s₁.setTop (entryFrame m #[(.int ax)] maxLocals)) (s₁.setTop (mkF m 0 #[.val (.int ax), .unset] [])) := fun t k => castTop (ef_rm0 m ax) k
  have P1 : Wy p.tables e below (s₁.setTop (entryFrame m #[(.int ax)] maxLocals)) (s₁.setTop (mkF m 8 #[.val (.int ax), .val (.int ((ax &&& (2147483647 : Int32)) - ((ax &&& (2147483647 : Int32)) / (10 : Int32)) * (10 : Int32)))] [])) := fun t k => P0 t (by
    show Steps p.tables e below (s₁.setTop (mkF m 0 #[.val (.int ax), .unset] [])) _
    refine XS.iloadN X0.here hx rfl (hb hby at_0) rfl  ?_
    show Steps p.tables e below (s₁.setTop (mkF m 1 #[.val (.int ax), .unset] [(.int ax)])) _
    refine X0.ldcInt hx hown (mvT hZ (hw _ (List.mem_of_getElem? (i := 0) rfl))) (g := (mkF m 1 #[.val (.int ax), .unset] [(.int ax)])) rfl (hb hby at_1) _ ?_
    show Steps p.tables e below (s₁.setTop (mkF m 3 #[.val (.int ax), .unset] [(.int (2147483647 : Int32)), (.int ax)])) _
    refine XS.iand X0.here hx rfl (hb hby at_3) rfl ?_
    show Steps p.tables e below (s₁.setTop (mkF m 4 #[.val (.int ax), .unset] [(.int (ax &&& (2147483647 : Int32)))])) _
    refine XS.bipush X0.here hx rfl (hb hby at_4) ?_
    show Steps p.tables e below (s₁.setTop (mkF m 6 #[.val (.int ax), .unset] [(.int (10 : Int32)), (.int (ax &&& (2147483647 : Int32)))])) _
    refine XS.irem X0.here hx rfl (hb hby at_6) rfl (by decide) ?_
    show Steps p.tables e below (s₁.setTop (mkF m 7 #[.val (.int ax), .unset] [(.int ((ax &&& (2147483647 : Int32)) - ((ax &&& (2147483647 : Int32)) / (10 : Int32)) * (10 : Int32)))])) _
    refine XS.istoreN X0.here hx rfl (hb hby at_7) rfl (l' := #[.val (.int ax), .val (.int ((ax &&& (2147483647 : Int32)) - ((ax &&& (2147483647 : Int32)) / (10 : Int32)) * (10 : Int32)))]) rfl ?_
    exact k)
  obtain ⟨v2, hv2⟩ : ∃ z : Int32, z = ((ax &&& (2147483647 : Int32)) - ((ax &&& (2147483647 : Int32)) / (10 : Int32)) * (10 : Int32)) := ⟨_, rfl⟩
  have P3 : Wy p.tables e below (s₁.setTop (entryFrame m #[(.int ax)] maxLocals)) (s₁.setTop (mkF m 8 #[.val (.int ax), .val (.int v2)] [])) := fun t k => by subst hv2; exact P1 t k
  obtain ⟨nn, hn, hax⟩ := own_rng hv2
  have P4 : Wy p.tables e below (s₁.setTop (entryFrame m #[(.int ax)] maxLocals)) (s₁.setTop (mkF m 9 #[.val (.int ax), .val (.int v2)] [(.int v2)])) := fun t k => P3 t (by
    show Steps p.tables e below (s₁.setTop (mkF m 8 #[.val (.int ax), .val (.int v2)] [])) _
    refine XS.iloadN X0.here hx rfl (hb hby at_8) rfl  ?_
    exact k)
  obtain ⟨_, _, ⟨T5, L5, k5, n5⟩, -, X5, ⟨Lc5, hQ5, l5, y5, z5⟩, st5⟩ := Jvm.LawKit.callS X0 hx (y := (⟨"com/example/cascade/cascade/model/DatetimeType", "unit", "(I)I"⟩ : MethodName)) hown (mvT hZ (hw _ (List.mem_of_getElem? (i := 1) rfl))) (mvT hZ (hw _ (List.mem_of_getElem? (i := 2) rfl))) (mvT hZ (hw _ (List.mem_of_getElem? (i := 3) rfl))) (mvT hZ (hw _ (List.mem_of_getElem? (i := 4) rfl))) (by decide) (backOf (W := 0) (rm1 l Z a0 hw [] v2 nn h0 n0 Z0 hn hax) hZ (hw _ (List.mem_of_getElem? (i := 4) rfl)) (hw _ (List.mem_of_getElem? (i := 3) rfl)) (by decide) (by decide)) (g := (mkF m 9 #[.val (.int ax), .val (.int v2)] [(.int v2)])) rfl (by rw [hml]; rfl) (argsL := [(.int v2)]) (rest := []) (lenOf pd_lIrI rfl) rfl (by show 2 * 0 + _ ≤ _; exact Nat.le_of_eq rfl) (hb hby at_9) (fun _ _ => ⟨rfl, e0, (by decide : 0 + 0 ≤ _), (by decide : 0 + 0 ≤ _)⟩)
  dsimp only [Pt.U, Pt.locs, Pt.cells, Pt.slots] at X5 l5 y5 z5 st5 hQ5
  subst l5 y5 z5
  obtain ⟨rfl, N5q, e5⟩ := hQ5
  have N5 := Fr.app N0 N5q
  have P6 : Wy p.tables e below (s₁.setTop (entryFrame m #[(.int ax)] maxLocals)) (T5.setTop (mkF m 12 #[.val (.int ax), .val (.int v2)] [(.int (own_pw 1 (9 - nn)))])) := fun t k => P4 t (st5 _ k)
  have P7 : Wy p.tables e below (s₁.setTop (entryFrame m #[(.int ax)] maxLocals)) (T5.setTop (mkF m 13 #[.val (.int ax), .val (.int v2)] [(.int v2), (.int (own_pw 1 (9 - nn)))])) := fun t k => P6 t (by
    show Steps p.tables e below (T5.setTop (mkF m 12 #[.val (.int ax), .val (.int v2)] [(.int (own_pw 1 (9 - nn)))])) _
    refine XS.iloadN X5.here hx rfl (hb hby at_12) rfl  ?_
    exact k)
  obtain ⟨_, _, ⟨T8, L8, k8, n8⟩, -, X8, ⟨Lc8, hQ8, l8, y8, z8⟩, st8⟩ := Jvm.LawKit.callS X5 hx (y := (⟨"com/example/cascade/cascade/model/DatetimeTypeUnitPinLaw", "expected", "(I)I"⟩ : MethodName)) hown (mvT hZ (hw _ (List.mem_of_getElem? (i := 5) rfl))) (mvT hZ (hw _ (List.mem_of_getElem? (i := 6) rfl))) (mvT hZ (hw _ (List.mem_of_getElem? (i := 7) rfl))) (mvT hZ (hw _ (List.mem_of_getElem? (i := 8) rfl))) (by decide) (backOf (W := 1) (rm2 l Z a0 hw [] v2 h0 n0 Z0 ) hZ (hw _ (List.mem_of_getElem? (i := 8) rfl)) (hw _ (List.mem_of_getElem? (i := 7) rfl)) (by decide) (by decide)) (g := (mkF m 13 #[.val (.int ax), .val (.int v2)] [(.int v2), (.int (own_pw 1 (9 - nn)))])) rfl (by rw [hml]; rfl) (argsL := [(.int v2)]) (rest := [(.int (own_pw 1 (9 - nn)))]) (lenOf pd_lIrI rfl) rfl (by show 2 * 0 + _ ≤ _; exact Nat.le_of_eq rfl) (hb hby at_13) (fun _ _ => ⟨rfl, e5, (by decide : 0 + 0 ≤ _), (by decide : 0 + 0 ≤ _)⟩)
  dsimp only [Pt.U, Pt.locs, Pt.cells, Pt.slots] at X8 l8 y8 z8 st8 hQ8
  subst l8 y8 z8
  obtain ⟨rfl, N8q, e8⟩ := hQ8
  have N8 := Fr.app N5 N8q
  have P9 : Wy p.tables e below (s₁.setTop (entryFrame m #[(.int ax)] maxLocals)) (T8.setTop (mkF m 16 #[.val (.int ax), .val (.int v2)] [(.int (F2 v2)), (.int (own_pw 1 (9 - nn)))])) := fun t k => P7 t (st8 _ k)
  have P10 : Wy p.tables e below (s₁.setTop (entryFrame m #[(.int ax)] maxLocals)) (T8.setTop (mkF m 24 #[.val (.int ax), .val (.int v2)] [(.int (1 : Int32))])) := fun t k => P9 t (by
    show Steps p.tables e below (T8.setTop (mkF m 16 #[.val (.int ax), .val (.int v2)] [(.int (F2 v2)), (.int (own_pw 1 (9 - nn)))])) _
    refine XS.icmpNo X8.here hx rfl (hb hby at_16) rfl (teq (own_law hn hax : (own_pw 1 (9 - nn)) = (F2 v2))).2 ?_
    show Steps p.tables e below (T8.setTop (mkF m 19 #[.val (.int ax), .val (.int v2)] [])) _
    refine XS.iconst X8.here hx rfl (hb hby at_19) ?_
    show Steps p.tables e below (T8.setTop (mkF m 20 #[.val (.int ax), .val (.int v2)] [(.int (1 : Int32))])) _
    refine XS.goto X8.here hx rfl (pc0 := 20) (pc' := 24) rfl (hb hby at_20) (by decide) (by decide) ?_
    exact k)
  obtain ⟨fs, hr, hrun, hended, hW, hsame⟩ := X8.leave (v := some (.int (nar .boolean (1 : Int32)))) (fun h => by rw [Bd.returns] at h; cases h)
  refine ⟨_, _, P10 _ ?_, hrun, hended, _, _, rfl, ?_, ⟨_, rfl⟩, hW, hsame.mono (by decide) (by decide)⟩
  · show Steps p.tables e below (T8.setTop (mkF m 24 #[.val (.int ax), .val (.int v2)] [(.int (1 : Int32))])) _
    exact retN X8 hx (t := .boolean) Bd.returns (by simp) (hb hby at_24) hr
  · show Q0 Z ax h0 n0 _ T8.heap _
    rw [e8]
    exact ⟨rfl, N8⟩
set_option maxRecDepth 65536 in
set_option maxHeartbeats 40000000 in
theorem comes_1 {Post : Tables → Env → Array Value → State → Outcome → State → Prop} (hpost : ∀ tb e args s v u, (limb_1_1.after args s (.returned v) u = true ∧ limb_1_2.after args s (.returned v) u = true ∧ True) → FrameEnd s (.returned v) u (Jvm.fieldLocs frame_1_writes args s ++ Jvm.arrayLocs frame_1_arrays args s ++ Jvm.staticLocs frame_1_statics s) 0 0 → Post tb e args s (.returned v) u) :
    ArmFor flags0 classFile x code maxLocals ret World_1 tables_1 room_1 Calls_1 rest_1 Pre_1 Post := by
  intro l hfl _ _ p e ha hc hk s m args below hf hA hF happ hP
  obtain ⟨hcalls, hrest, hpre⟩ := hP
  obtain ⟨-, -, -, hnamed, -, -, -, hat⟩ := (Spec.applies_iff hf).mp happ
  obtain ⟨hg, hn⟩ := and_e (Cond.before_iff.mp (show (Jvm.Cond.and given_1 narrow_1).before args s = true from hpre))
  obtain ⟨g1, g2⟩ := and_e hg
  obtain ⟨w0, rfl⟩ : ∃ w0 : Value, args = #[w0] := by
    have hs : args.size = 1 := by simpa [Cond.value, given_1] using g1
    obtain ⟨L⟩ := args
    match L, hs with
    | [w0], _ => exact ⟨w0, rfl⟩
  have hw := fun d (hd : d ∈ tables_1) => atoms_spec (ws := Jvm.Cond.code x code maxLocals ret :: tables_1) hat d (List.mem_cons_of_mem _ hd)
  have hfit : Fit s := fun {y c} hc i hi => by
    obtain ⟨ha, rfl⟩ := Array.getElem?_eq_some_iff.mp hc
    have q := List.all_eq_true.mp ((Array.all_eq_true_iff_forall_mem.mp hF) _ (Array.getElem_mem ha)) i (List.mem_range.mpr hi)
    simpa [Array.getElem?_eq_getElem hi] using q
  obtain ⟨i0, ei0⟩ := is_v g2
  obtain rfl : w0 = (.int i0) := Option.some.inj ei0
  obtain ⟨n, o, h1, h2, h3, _, L, rfl, ⟨rfl, N⟩, hq⟩ := rm0 l s _ hw tables_1 i0 s.heap s.heap.size (Nat.le_refl _)  p e ha hc hk s m _ below hf ((Spec.applies_iff_loose hf).mp happ).1 ⟨rfl, State.Warmed39.refl s, rfl⟩ trivial
  refine ⟨n, _, h1, h2, h3, hpost _ _ _ _ _ _ ⟨Cond.after_iff.mpr rfl, Cond.after_iff.mpr (eq_i res_at (Term.int_eval (1)) rfl), trivial⟩ ⟨hq.1, hq.2.1, (hq.2.2.sift fun y hy => Or.inr (N y hy)).mono (by decide) (by decide)⟩⟩
theorem main_1_1 : Claimed_1_1 := comes_1 fun _ _ _ _ _ _ h hF => ⟨h.1, hF⟩
theorem main_1_2 : Claimed_1_2 := comes_1 fun _ _ _ _ _ _ h hF => ⟨h.2.1, hF⟩
end Jvm.Pilot.@@N@@
namespace Jvm.Pilot.@@N@@
open Jvm Jvm.ClassFile Sem Op Lib Jvm.Free Jvm.Stand Jvm.Pilot.@@N@@.Jvm.D
/-! MADE BY PROGRAM (witnessworld.py) out of the Statement's table words and the real class files: 10 classes; the members and pool entries that the words name. The judged class is class 1, her method 1. -/
namespace start1
open Jvm.ClassFile
def u (s : String) : CpInfo := .utf8 (stringToUtf16 s)
/-- a pool by its gaps: so many unusable entries, then the entry; so many at the end -/
def gap : Nat → List CpInfo → List CpInfo
  | 0, r => r
  | n + 1, r => .unusable :: gap n r
def poolList (es : List (Nat × CpInfo)) (last : Nat) : List CpInfo := es.foldr (fun e r => gap e.1 (e.2 :: r)) (gap last [])
def pool (es : List (Nat × CpInfo)) (last : Nat) : Array CpInfo := ⟨poolList es last⟩
def fileOf (pool : Array CpInfo) (this : Nat) (attrs : Array Attribute := #[]) (ms : Array MethodInfo := #[]) (fl : Nat := 33) (sup : Nat := 0) (ifs : Array Nat := #[]) (fds : Array FieldInfo := #[]) : ClassFile where
  minorVersion := 0
  majorVersion := 65
  constantPool := pool
  accessFlags := fl
  thisClass := this
  superClass := sup
  interfaces := ifs
  fields := fds
  methods := ms
  attributes := attrs
def plain (name : String) (sup : Option ClassId) : Class where
  name := name
  kind := .ordinary
  loader := none
  accessFlags := 33
  super := sup
  interfaces := #[]
  cf := none
  fields := #[]
  methods := #[]
  instanceTypes := #[]
  staticTypes := #[]
  resolved := #[]
  callSites := []
  init := .initialized
  statics := none
  mirror := none

def pool0 : Array CpInfo := pool [(5, u "<init>"), (0, u "()V"), (1, .class_ 10), (1, u "java/lang/Object")] 113

def k0m0 : Method := { name := "<init>", desc := "()V", sig := { parameters := [], returnType := none }, accessFlags := 1, code := none }
/-- java/lang/Object -/
def k0 : Class := { plain "java/lang/Object" none with
  accessFlags := 33
  interfaces := #[]
  cf := some (fileOf pool0 8 #[] #[{ accessFlags := 1, nameIndex := 5, descriptorIndex := 6, attributes := #[] }] 33 0 #[] #[])
  fields := #[]
  methods := #[k0m0]
  instanceTypes := #[]
  staticTypes := #[]
  resolved := Array.replicate 124 none
  statics := none }

def pool1 : Array CpInfo := pool [(2, .class_ 4), (1, u "java/lang/Object"), (0, u "<init>"), (0, u "()V"), (0, .integer 2147483647), (0, .methodref 9 10), (0, .class_ 11), (0, .nameAndType 12 13), (0, u "com/example/cascade/cascade/model/DatetimeType"), (0, u "unit"), (0, u "(I)I"), (0, .methodref 15 16), (0, .class_ 17), (0, .nameAndType 18 13), (0, u "com/example/cascade/cascade/model/DatetimeTypeUnitPinLaw"), (0, u "expected"), (0, .integer 1000000000), (0, .integer 100000000), (0, .integer 10000000), (0, .integer 1000000), (0, .integer 100000), (2, u "law"), (0, u "(I)Z")] 3

def k1m0 : Method := { name := "<init>", desc := "()V", sig := { parameters := [], returnType := none }, accessFlags := 1, code := none }
def k1c1 : Code := { maxStack := 2, maxLocals := 2, code := code, exceptionTable := #[], attributes := #[] }
def k1m1 : Method := { name := "law", desc := "(I)Z", sig := { parameters := [.int], returnType := some .boolean }, accessFlags := 9, code := some k1c1 }
def k1c2 : Code := { maxStack := 2, maxLocals := 2, code := method_3_code, exceptionTable := #[], attributes := #[] }
def k1m2 : Method := { name := "expected", desc := "(I)I", sig := { parameters := [.int], returnType := some .int }, accessFlags := 10, code := some k1c2 }
/-- com/example/cascade/cascade/model/DatetimeTypeUnitPinLaw -/
def k1 : Class := { plain "com/example/cascade/cascade/model/DatetimeTypeUnitPinLaw" (some 0) with
  accessFlags := 49
  interfaces := #[]
  cf := some (fileOf pool1 15 #[] #[{ accessFlags := 1, nameIndex := 5, descriptorIndex := 6, attributes := #[] }, { accessFlags := 9, nameIndex := 26, descriptorIndex := 27, attributes := #[] }, { accessFlags := 10, nameIndex := 18, descriptorIndex := 13, attributes := #[] }] 49 2 #[] #[])
  fields := #[]
  methods := #[k1m0, k1m1, k1m2]
  instanceTypes := #[]
  staticTypes := #[]
  resolved := Array.replicate 31 none
  statics := none }

def pool2 : Array CpInfo := pool [(2, .class_ 4), (1, u "java/lang/Object"), (0, u "<init>"), (0, u "()V"), (0, .class_ 8), (0, u "com/example/cascade/cascade/model/ColumnType")] 144

def k2m0 : Method := { name := "<init>", desc := "()V", sig := { parameters := [], returnType := none }, accessFlags := 0, code := none }
/-- com/example/cascade/cascade/model/ColumnType -/
def k2 : Class := { plain "com/example/cascade/cascade/model/ColumnType" (some 0) with
  accessFlags := 1057
  interfaces := #[]
  cf := some (fileOf pool2 7 #[] #[{ accessFlags := 0, nameIndex := 5, descriptorIndex := 6, attributes := #[] }] 1057 2 #[] #[])
  fields := #[]
  methods := #[k2m0]
  instanceTypes := #[]
  staticTypes := #[]
  resolved := Array.replicate 153 none
  statics := none }

def pool3 : Array CpInfo := pool [(2, .class_ 4), (1, u "com/example/cascade/cascade/model/ColumnType"), (3, .class_ 10), (1, u "com/example/cascade/cascade/model/DatetimeType"), (0, u "precision"), (0, u "I"), (11, u "BY_PRECISION"), (0, u "[Lcom/example/cascade/cascade/model/DatetimeType;"), (37, u "DATETIME"), (64, u "unit"), (0, u "(I)I"), (14, u "TEXT"), (0, u "Ljava/util/regex/Pattern;"), (58, u "Lcom/example/cascade/cascade/model/DatetimeType;"), (6, u "MAX_PRECISION"), (2, u "LAST_YEAR"), (1, u "NANO_DIGITS")] 47

def k3c0 : Code := { maxStack := 2, maxLocals := 3, code := prog_82_method_19_code, exceptionTable := #[], attributes := #[] }
def k3m0 : Method := { name := "unit", desc := "(I)I", sig := { parameters := [.int], returnType := some .int }, accessFlags := 8, code := some k3c0 }
/-- com/example/cascade/cascade/model/DatetimeType -/
def k3 : Class := { plain "com/example/cascade/cascade/model/DatetimeType" (some 2) with
  accessFlags := 49
  interfaces := #[]
  cf := some (fileOf pool3 8 #[] #[{ accessFlags := 8, nameIndex := 128, descriptorIndex := 129, attributes := #[] }] 49 2 #[] #[{ accessFlags := 25, nameIndex := 211, descriptorIndex := 12, attributes := #[] }, { accessFlags := 26, nameIndex := 24, descriptorIndex := 25, attributes := #[] }, { accessFlags := 25, nameIndex := 63, descriptorIndex := 204, attributes := #[] }, { accessFlags := 26, nameIndex := 144, descriptorIndex := 145, attributes := #[] }, { accessFlags := 26, nameIndex := 214, descriptorIndex := 12, attributes := #[] }, { accessFlags := 26, nameIndex := 216, descriptorIndex := 12, attributes := #[] }, { accessFlags := 18, nameIndex := 11, descriptorIndex := 12, attributes := #[] }])
  fields := #[{ name := "MAX_PRECISION", type := .int, accessFlags := 25, slot := 0, constantValue := 0 }, { name := "BY_PRECISION", type := (.array (.object "com/example/cascade/cascade/model/DatetimeType")), accessFlags := 26, slot := 1, constantValue := 0 }, { name := "DATETIME", type := (.object "com/example/cascade/cascade/model/DatetimeType"), accessFlags := 25, slot := 2, constantValue := 0 }, { name := "TEXT", type := (.object "java/util/regex/Pattern"), accessFlags := 26, slot := 3, constantValue := 0 }, { name := "LAST_YEAR", type := .int, accessFlags := 26, slot := 4, constantValue := 0 }, { name := "NANO_DIGITS", type := .int, accessFlags := 26, slot := 5, constantValue := 0 }, { name := "precision", type := .int, accessFlags := 18, slot := 0, constantValue := 0 }]
  methods := #[k3m0]
  instanceTypes := #[.int]
  staticTypes := #[.int, (.array (.object "com/example/cascade/cascade/model/DatetimeType")), (.object "com/example/cascade/cascade/model/DatetimeType"), (.object "java/util/regex/Pattern"), .int, .int]
  resolved := Array.replicate 264 none
  statics := none }

def pool4 : Array CpInfo := pool [(1, u "java/lang/Cloneable"), (0, .class_ 1), (0, u "java/lang/Object"), (0, .class_ 3)] 3

/-- java/lang/Cloneable -/
def k4 : Class := { plain "java/lang/Cloneable" (some 0) with
  accessFlags := 1537
  interfaces := #[]
  cf := some (fileOf pool4 2 #[] #[] 1537 4 #[] #[])
  fields := #[]
  methods := #[]
  instanceTypes := #[]
  staticTypes := #[]
  resolved := Array.replicate 8 none
  statics := none }

def pool5 : Array CpInfo := pool [(1, u "java/io/Serializable"), (0, .class_ 1), (0, u "java/lang/Object"), (0, .class_ 3)] 3

/-- java/io/Serializable -/
def k5 : Class := { plain "java/io/Serializable" (some 0) with
  accessFlags := 1537
  interfaces := #[]
  cf := some (fileOf pool5 2 #[] #[] 1537 4 #[] #[])
  fields := #[]
  methods := #[]
  instanceTypes := #[]
  staticTypes := #[]
  resolved := Array.replicate 8 none
  statics := none }

/-- the primitive byte -/
def k6 : Class := { plain "byte" none with kind := .primitive 'B', accessFlags := 0x411 }
/-- [B -/
def k7 : Class := { plain "[B" (some 0) with kind := .array 6 .byte, interfaces := #[4, 5], accessFlags := 1041 }

/-- the primitive int -/
def k8 : Class := { plain "int" none with kind := .primitive 'I', accessFlags := 0x411 }
/-- [I -/
def k9 : Class := { plain "[I" (some 0) with kind := .array 8 .int, interfaces := #[4, 5], accessFlags := 1041 }

def heap : Heap := #[]
def classes : Array Class := #[k0, k1, k2, k3, k4, k5, k6, k7, k8, k9]
def interned : List (Array UInt16 × Addr) := []
def slotsUsed : Nat := 0
def theMethod : MethodId := ⟨1, 1⟩
def args0 : Array Value := #[.int 5]
def aboutOver (below : List Frame) : State where
  vm := { classes := classes, interned := interned.toArray }
  heap := heap
  slotsUsed := slotsUsed
  threads := #[{ frames := .invoking theMethod args0 :: below }]
def below0 : List Frame := [.native { method := ⟨0, 0⟩, args := #[] }]
def about1 : State := aboutOver below0
def p0 : Program := .bare "" "" ""
def e0 : Env := launch0.env 0 0 0
theorem w_frames : about1.frames = Frame.invoking theMethod args0 :: below0 := rfl
set_option maxRecDepth 65536 in
theorem w_args : argsFit about1.vm theMethod args0 = true := by decide +kernel
set_option maxRecDepth 65536 in
theorem w_heap : heapFits about1 = true := by decide +kernel
set_option maxRecDepth 65536 in
theorem w_runnable : about1.curStatus? = some .runnable := by decide +kernel
set_option maxRecDepth 65536 in
theorem w_alone : about1.alone = true := by decide +kernel
set_option maxRecDepth 65536 in
theorem w_named : about1.methodNamed? x = some theMethod := by decide +kernel
set_option maxRecDepth 65536 in
theorem w_hears : about1.hears theMethod below0 = true := by decide +kernel
set_option maxRecDepth 65536 in
theorem w_ripe : about1.ripe theMethod args0 below0 = true := by decide +kernel
theorem w_running : about1.status = .running := rfl
set_option maxRecDepth 65536 in
theorem w_room : about1.hasRoom e0.platform room_1 = true :=
  launch0.hasRoom_least _ room_1 (by decide +kernel) (by decide +kernel) (by decide +kernel) (by decide +kernel) (by decide +kernel) (by decide +kernel)
theorem allAtoms_all (ts : List Jvm.Cond) (a : Array Jvm.Value) (st : Jvm.State) : (allAtoms ts).before a st = ts.all (fun c => c.before a st) := by
  induction ts with
  | nil => rfl
  | cons c t ih =>
    show (Jvm.Cond.and c (allAtoms t)).before a st = _
    rw [Jvm.Cond.before_and, ih, List.all_cons]
def words1 : List Jvm.Cond := Jvm.Cond.code x code maxLocals ret :: tables_1
/-- a 'code' word, met by the world's own term for the bytes: nothing is compared byte by byte -/
theorem code_word {y : MethodName} {bytes : ByteArray} {mx : Nat} {rt : Option FieldType} {a : Array Value} {s : State} {m : MethodId} {meth : Method} {c : Code} (h1 : s.methodNamed? y = some m) (h2 : s.vm.method? m = some meth) (h3 : meth.code = some c) (h4 : c.code = bytes)
    (h5 : (c.maxLocals == mx && c.exceptionTable.isEmpty && decide (c.maxStack ≤ mostOperands) && decide (meth.sig.returnType = rt) && !meth.locks && decide (parseMethodDescriptor y.desc = some meth.sig)) = true) : (Jvm.Cond.code y bytes mx rt).before a s = true := by
  simp only [Bool.and_eq_true, beq_iff_eq, Bool.not_eq_true', decide_eq_true_eq] at h5
  obtain ⟨⟨⟨⟨⟨g1, g2⟩, g3⟩, g4⟩, g5⟩, g6⟩ := h5
  simp [Cond.before, Cond.holds, Cond.value, h1, h2, h3, h4, g1, g2, g3, g4, g5, g6]
def isCode : Jvm.Cond → Bool
  | .code _ _ _ _ => true
  | _ => false
theorem all_split {L : List Jvm.Cond} {P : Jvm.Cond → Bool} (h1 : L.all (fun c => isCode c || P c) = true) (h2 : ∀ c ∈ L.filter isCode, P c = true) : L.all P = true := by
  refine List.all_eq_true.mpr fun c hc => ?_
  have h := List.all_eq_true.mp h1 c hc
  rcases Bool.eq_false_or_eq_true (isCode c) with hi | hi
  · exact h2 c (List.mem_filter.mpr ⟨hc, hi⟩)
  · simpa [hi] using h
set_option maxRecDepth 65536 in
theorem w_c0 : (Jvm.Cond.code x code maxLocals ret).before args0 about1 = true := code_word (m := ⟨1, 1⟩) (meth := k1m1) (c := k1c1) (by decide +kernel) rfl rfl rfl (by decide +kernel)
set_option maxRecDepth 65536 in
theorem w_c1 : (Jvm.Cond.code ({ cls := "com/example/cascade/cascade/model/DatetimeType", name := "unit", desc := "(I)I" } : Jvm.MethodName) prog_82_method_19_code (3 : Nat) (Option.some Jvm.ClassFile.FieldType.int)).before args0 about1 = true := code_word (m := ⟨3, 0⟩) (meth := k3m0) (c := k3c0) (by decide +kernel) rfl rfl rfl (by decide +kernel)
set_option maxRecDepth 65536 in
theorem w_c2 : (Jvm.Cond.code ({ cls := "com/example/cascade/cascade/model/DatetimeTypeUnitPinLaw", name := "expected", desc := "(I)I" } : Jvm.MethodName) method_3_code (2 : Nat) (Option.some Jvm.ClassFile.FieldType.int)).before args0 about1 = true := code_word (m := ⟨1, 2⟩) (meth := k1m2) (c := k1c2) (by decide +kernel) rfl rfl rfl (by decide +kernel)
def codes1 : List Jvm.Cond := [Jvm.Cond.code x code maxLocals ret, Jvm.Cond.code ({ cls := "com/example/cascade/cascade/model/DatetimeType", name := "unit", desc := "(I)I" } : Jvm.MethodName) prog_82_method_19_code (3 : Nat) (Option.some Jvm.ClassFile.FieldType.int), Jvm.Cond.code ({ cls := "com/example/cascade/cascade/model/DatetimeTypeUnitPinLaw", name := "expected", desc := "(I)I" } : Jvm.MethodName) method_3_code (2 : Nat) (Option.some Jvm.ClassFile.FieldType.int)]
set_option maxRecDepth 65536 in
theorem codes_eq : words1.filter isCode = codes1 := rfl
theorem w_codes : ∀ c ∈ words1.filter isCode, c.before args0 about1 = true := by
  rw [codes_eq]
  intro c hc
  simp only [codes1, List.mem_cons, List.not_mem_nil, or_false] at hc
  rcases hc with rfl | rfl | rfl
  · exact w_c0
  · exact w_c1
  · exact w_c2
set_option maxRecDepth 65536 in
theorem w_t1 : words1.all (fun c => isCode c || c.before args0 about1) = true := by decide +kernel
theorem w_tables : (allAtoms (Jvm.Cond.code x code maxLocals ret :: tables_1)).before args0 about1 = true := by
  rw [allAtoms_all]
  show words1.all (fun c => c.before args0 about1) = true
  refine all_split ?_ w_codes
  rw [w_t1]
set_option maxRecDepth 65536 in
theorem w_case : (Jvm.Cond.and given_1 narrow_1).before args0 about1 = true := by decide +kernel
theorem w_applies : (headSpec (Jvm.Cond.code x code maxLocals ret :: tables_1) room_1).applies x e0.platform about1 = true :=
  (Spec.applies_iff w_frames).mpr ⟨w_running, w_runnable, w_alone, w_named, w_hears, w_ripe, w_room, w_tables⟩
theorem atStart : AtStart classFile x code maxLocals ret World_1 tables_1 room_1 Calls_1 rest_1 Pre_1 launch0 p0 e0 about1 theMethod args0 below0 :=
  ⟨lists_1, trivial, launch0.admits_env _ _ _, launch0.least_env, fairChoices_fair.cas, fairChoices_fair.clock, w_frames, w_args, w_heap, w_applies, trivial, trivial, w_case⟩
end start1
theorem witness_1 : WitnessClaimed_1 := ⟨start1.p0, start1.e0, start1.about1, start1.theMethod, start1.args0, start1.below0, start1.atStart⟩
end Jvm.Pilot.@@N@@
