import JvmDerived
import JvmDerived.Pilot.@@N@@Statement
import JvmDerived.Pilot.@@N@@Code
set_option linter.unusedVariables false
set_option linter.unusedSimpArgs false

namespace Jvm.RoadKit
open Sem ClassFile Op Lib Jvm.Stand Jvm.Free Jvm.LawKit
section New
variable {p : Program} {l : Launch} {e : Env} {R : Room} {s : State} {m : MethodId} {args : Array Value} {below : List Frame} {meth : Method} {c : Code} {T : State} {locs : List Loc} {cells slots : Nat}
theorem retI (X : Stand p l e R s m args below meth c T locs cells slots) (hx : p.tables.exec = Jvm.exec) {pc : Nat} {Ls : Array Slot} {z : Int32} {rest : List Value} (hret : meth.sig.returnType = some .int) (hd : decode c.code pc = .ok (.ireturn, 1)) {fs : List Frame}
    (hl : ∀ (f : JFrame) (acts : List Action), f.method = m → f.locked = none → f.entered = [] → (doReturn e (T.setTop f) acts (some (.int z))).1 = T.setFrames fs) : Steps p.tables e below (T.setTop (mkF m pc Ls (.int z :: rest))) (T.setFrames fs) := by
  have hm' : T.vm.method? m = some meth := X.method'
  have hn : narrow .int (.int z) = .int z := rfl
  show Steps p.tables e below (T.setTop { method := m, pc := pc, locals := Ls, stack := _ :: rest, locked := none }) _
  jvm_step X.here [X.here.top, hx, hd, hm', hret, hn]
  first | (intro acts; rw [hl _ acts rfl rfl rfl]) | rw [hl _ _ rfl rfl rfl]
  exact Steps.refl _
end New
end Jvm.RoadKit
namespace Jvm.Pilot.@@N@@
open Jvm Jvm.ClassFile Sem Op Lib Jvm.Free Jvm.Stand Jvm.LawKit Jvm.RoadKit Bundle Jvm.Pilot.@@N@@.Jvm.D
/-- from A the run comes to B -/
abbrev Wy (tb : Tables) (e : Env) (below : List Frame) (A B : State) : Prop := ∀ t, Steps tb e below B t → Steps tb e below A t
theorem own_nat {c : Int32} (h : 0 ≤ c.toInt) : c = Int32.ofNat c.toInt.toNat := by
  apply Int32.toInt_inj.mp
  have h1 := c.toInt_lt
  rw [Int32.toInt_ofNat_of_lt (by omega)]
  omega
theorem own_lt {a b : Int32} : a < b ↔ a.toInt < b.toInt := Int32.lt_iff_toInt_lt
theorem own_ltF (k : Nat) (c : Int32) (h0 : 0 ≤ c.toInt) (h1 : c.toInt < k) : ∃ n : Fin k, c = Int32.ofNat n.val :=
  ⟨⟨c.toInt.toNat, by omega⟩, own_nat h0⟩
theorem own_rem (x y : Int32) (hx : 0 ≤ x.toInt) (hy : 0 < y.toInt) : (x - (x / y) * y).toInt = x.toInt % y.toInt := by
  have h1 := (c_idiv x y y.toInt rfl (by intro h; rw [h] at hy; exact absurd hy (by decide))).1 hx
  have h2 := c_imul (x / y) y
  have h3 := c_isub x ((x / y) * y)
  have r1 := rng32 ((x / y) * y)
  have r2 := rng32 (x - (x / y) * y)
  have r3 := rng32 x
  have r4 := rng32 y
  have e : x.toInt / y.toInt * y.toInt = x.toInt - x.toInt % y.toInt := by
    have := Int.emod_def x.toInt y.toInt
    rw [Int.mul_comm] at this
    omega
  rw [h1, e] at h2
  have b1 := Int.emod_nonneg x.toInt (show y.toInt ≠ 0 by omega)
  have b2 := Int.emod_lt_of_pos x.toInt hy
  have b3 : x.toInt % y.toInt ≤ x.toInt := by
    by_cases q : x.toInt < y.toInt
    · rw [Int.emod_eq_of_lt hx q]; omega
    · omega
  omega
theorem own_nm {a b : Addr} (h : a ≠ b) : a ∉ [b] := by simpa using h
theorem own_nm2 {a b c : Addr} (h : a ≠ b) (h2 : a ≠ c) : a ∉ [b, c] := by simp [h, h2]

theorem own_getD (l : List Int32) (k : Nat) : (l.map Value.int).getD k (.int 0) = .int (l.getD k 0) := by
  induction l generalizing k with
  | nil => simp
  | cons a r ih => cases k with
    | zero => simp
    | succ k => simpa using ih k
theorem own_in {cl : Cell} {j : Int32} (h : ¬ (j < 0 ∨ cl.slots.size ≤ j.toNatClampNeg)) : j.toNatClampNeg < cl.slots.size := Nat.lt_of_not_le fun q => h (Or.inr q)
theorem own_b8 (x : Int32) : x.toInt8.toInt32.toInt8.toInt32 = x.toInt8.toInt32 := by simp
/-- the array at ad is a byte[] of these values -/
def own_By (Z : State) (h : Heap) (ad : Addr) (vs : List Int32) : Prop := ∃ cl : Cell, Arr Z h ad cl .byte ∧ cl.slots.size = vs.length ∧ ∀ k, k < vs.length → cl.slots[k]? = some (.int (vs.getD k 0))
theorem own_by_of {Z : State} {h : Heap} {ad : Addr} {k : ClassId} {z : Int32} {ws : List Value} {vs : List Int32} (V : Arv Z h ad k .byte z ws (.int 0)) (hw : ws = vs.map Value.int) (hz : z.toNatClampNeg = vs.length) : own_By Z h ad vs := by
  obtain ⟨cl, A, -, S, -, H, -⟩ := V
  exact ⟨cl, A, by rw [S, hz], fun k hk => by rw [H k (by rw [S, hz]; exact hk), hw, own_getD]⟩
theorem own_at {cl : Cell} {vs : List Int32} {j : Int32} (Sz : cl.slots.size = vs.length) (Ha : ∀ k, k < vs.length → cl.slots[k]? = some (.int (vs.getD k 0))) (h0 : 0 ≤ j.toInt) (h1 : j.toInt < vs.length) :
    (¬ (j < 0 ∨ cl.slots.size ≤ j.toNatClampNeg)) ∧ cl.slots[j.toNatClampNeg]? = some (.int (vs.getD j.toNatClampNeg 0)) := by
  have e : j.toNatClampNeg = j.toInt.toNat := rfl
  have z : (0 : Int32).toInt = 0 := rfl
  refine ⟨?_, Ha _ (by omega)⟩
  rw [Int32.lt_iff_toInt_lt, Sz]
  omega
theorem own_ofN {n : Nat} (h : n < 2147483648) : (Int32.ofNat n).toInt = n := Int32.toInt_ofNat_of_lt h
theorem own_ofC {n : Nat} (h : n < 2147483648) : (Int32.ofNat n).toNatClampNeg = n := Int32.toNatClampNeg_ofNat_of_lt h
theorem own_one (i : Nat) : Int32.ofNat i + (1 : Int32) = Int32.ofNat (i + 1) := (Int32.ofNat_add i 1).symm
theorem own_ltN {i t : Nat} (hi : i < 2147483648) (ht : t < 2147483648) : Int32.ofNat i < Int32.ofNat t ↔ i < t := by
  rw [Int32.lt_iff_toInt_lt, own_ofN hi, own_ofN ht]; omega

def own_R (vs : List Int32) (b : Int32) (t : Nat) : Nat → Nat → Nat
  | 0, _ => t
  | k + 1, i => if vs.getD i 0 = b then i else own_R vs b t k (i + 1)
def own_hit (vs : List Int32) (b f t i : Int32) : Int32 := if i < f then (0 : Int32) else (if i < t then (if (vs.getD i.toNatClampNeg 0) = b then (1 : Int32) else (0 : Int32)) else (0 : Int32))
def own_ref (vs : List Int32) (b f t : Int32) : Int32 := if (own_hit vs b f t (0 : Int32)) = (0 : Int32) then (if (own_hit vs b f t (1 : Int32)) = (0 : Int32) then (if (own_hit vs b f t (2 : Int32)) = (0 : Int32) then (if (own_hit vs b f t (3 : Int32)) = (0 : Int32) then t else (3 : Int32)) else (2 : Int32)) else (1 : Int32)) else (0 : Int32)

theorem d1_3 : decode prog_11_method_12_code 3 = .ok (.iload 4, 2) := by decide +kernel
theorem d1_5 : decode prog_11_method_12_code 5 = .ok (.iload_n 3, 1) := by decide +kernel
theorem d1_6 : decode prog_11_method_12_code 6 = .ok (.if_icmp .ge 20, 3) := by decide +kernel
theorem d1_9 : decode prog_11_method_12_code 9 = .ok (.aload_n 0, 1) := by decide +kernel
theorem d1_10 : decode prog_11_method_12_code 10 = .ok (.iload 4, 2) := by decide +kernel
theorem d1_12 : decode prog_11_method_12_code 12 = .ok (.baload, 1) := by decide +kernel
theorem d1_13 : decode prog_11_method_12_code 13 = .ok (.iload_n 1, 1) := by decide +kernel
theorem d1_14 : decode prog_11_method_12_code 14 = .ok (.if_icmp .ne 6, 3) := by decide +kernel
set_option maxRecDepth 65536 in
set_option maxHeartbeats 40000000 in
theorem sg_hit {p : Program} {l : Launch} {e : Env} {R : Room} {s : State} {m : MethodId} {args : Array Value} {below : List Frame} {meth : Method} {c : Code} {T0 : State} {locs : List Loc} {cells slots : Nat} {Z : State} {a0 : Array Value} {h0 : Heap} (ad : Addr) (bx fx tx ii : Int32) (cl : Cell) (ww : Int32) (X0 : Stand p l e R s m args below meth c T0 locs cells slots) (hx : p.tables.exec = Jvm.exec) (hZ : Z.Warmed39 s.vm) (hw : ∀ d ∈ tables_1, d.before a0 Z = true) (hby : c.code = prog_11_method_12_code) (hml : c.maxLocals = 5) (hown : s.vm.findClass "com/example/zbirka/zbirka/Iso2709Reader" = some m.cls) (e0 : T0.heap = h0) (Ar : Arr Z h0 ad cl .byte) (hi : ¬ (ii < 0 ∨ cl.slots.size ≤ ii.toNatClampNeg)) (ha : cl.slots[ii.toNatClampNeg]? = some (.int ww)) (hc : ii < tx) (he : ww = bx) :
    Wy p.tables e below (T0.setTop (mkF m 3 #[.val (.ref ad), .val (.int bx), .val (.int fx), .val (.int tx), .val (.int ii)] [])) (T0.setTop (mkF m 17 #[.val (.ref ad), .val (.int bx), .val (.int fx), .val (.int tx), .val (.int ii)] [])) := by
  have P0 : Wy p.tables e below (T0.setTop (mkF m 3 #[.val (.ref ad), .val (.int bx), .val (.int fx), .val (.int tx), .val (.int ii)] [])) (T0.setTop (mkF m 3 #[.val (.ref ad), .val (.int bx), .val (.int fx), .val (.int tx), .val (.int ii)] [])) := fun t k => k
  have P1 : Wy p.tables e below (T0.setTop (mkF m 3 #[.val (.ref ad), .val (.int bx), .val (.int fx), .val (.int tx), .val (.int ii)] [])) (T0.setTop (mkF m 12 #[.val (.ref ad), .val (.int bx), .val (.int fx), .val (.int tx), .val (.int ii)] [(.int ii), (.ref ad)])) := fun t k => P0 t (by
    show Steps p.tables e below (T0.setTop (mkF m 3 #[.val (.ref ad), .val (.int bx), .val (.int fx), .val (.int tx), .val (.int ii)] [])) _
    refine XS.iload X0.here hx rfl (hb hby d1_3) rfl  ?_
    show Steps p.tables e below (T0.setTop (mkF m 5 #[.val (.ref ad), .val (.int bx), .val (.int fx), .val (.int tx), .val (.int ii)] [(.int ii)])) _
    refine XS.iloadN X0.here hx rfl (hb hby d1_5) rfl  ?_
    show Steps p.tables e below (T0.setTop (mkF m 6 #[.val (.ref ad), .val (.int bx), .val (.int fx), .val (.int tx), .val (.int ii)] [(.int tx), (.int ii)])) _
    refine XS.icmpNo X0.here hx rfl (hb hby d1_6) rfl (tlt (hc : ii < tx)).2.1 ?_
    show Steps p.tables e below (T0.setTop (mkF m 9 #[.val (.ref ad), .val (.int bx), .val (.int fx), .val (.int tx), .val (.int ii)] [])) _
    refine XS.aloadN X0.here hx rfl (hb hby d1_9) rfl rfl  ?_
    show Steps p.tables e below (T0.setTop (mkF m 10 #[.val (.ref ad), .val (.int bx), .val (.int fx), .val (.int tx), .val (.int ii)] [(.ref ad)])) _
    refine XS.iload X0.here hx rfl (hb hby d1_10) rfl  ?_
    exact k)
  have P2 : Wy p.tables e below (T0.setTop (mkF m 3 #[.val (.ref ad), .val (.int bx), .val (.int fx), .val (.int tx), .val (.int ii)] [])) (T0.setTop (mkF m 13 #[.val (.ref ad), .val (.int bx), .val (.int fx), .val (.int tx), .val (.int ii)] [(.int ww)])) := fun t k => P1 t (X0.baloadBytes hx (j := ii) (v := (.int ww)) (by rw [e0]; exact Ar.1) (State.isArrayOf_alike hZ.alike Ar.2.1) Ar.2.2 hi ha (g := (mkF m 12 #[.val (.ref ad), .val (.int bx), .val (.int fx), .val (.int tx), .val (.int ii)] [(.int ii), (.ref ad)])) rfl rfl (hb hby d1_12) _ k)
  have P3 : Wy p.tables e below (T0.setTop (mkF m 3 #[.val (.ref ad), .val (.int bx), .val (.int fx), .val (.int tx), .val (.int ii)] [])) (T0.setTop (mkF m 17 #[.val (.ref ad), .val (.int bx), .val (.int fx), .val (.int tx), .val (.int ii)] [])) := fun t k => P2 t (by
    show Steps p.tables e below (T0.setTop (mkF m 13 #[.val (.ref ad), .val (.int bx), .val (.int fx), .val (.int tx), .val (.int ii)] [(.int ww)])) _
    refine XS.iloadN X0.here hx rfl (hb hby d1_13) rfl  ?_
    show Steps p.tables e below (T0.setTop (mkF m 14 #[.val (.ref ad), .val (.int bx), .val (.int fx), .val (.int tx), .val (.int ii)] [(.int bx), (.int ww)])) _
    refine XS.icmpNo X0.here hx rfl (hb hby d1_14) rfl (teq (he : ww = bx)).2 ?_
    exact k)
  exact P3
theorem d1_20 : decode prog_11_method_12_code 20 = .ok (.iinc 4 1, 3) := by decide +kernel
theorem d1_23 : decode prog_11_method_12_code 23 = .ok (.goto (-20), 3) := by decide +kernel
set_option maxRecDepth 65536 in
set_option maxHeartbeats 40000000 in
theorem sg_next {p : Program} {l : Launch} {e : Env} {R : Room} {s : State} {m : MethodId} {args : Array Value} {below : List Frame} {meth : Method} {c : Code} {T0 : State} {locs : List Loc} {cells slots : Nat} {Z : State} {a0 : Array Value} {h0 : Heap} (ad : Addr) (bx fx tx ii : Int32) (cl : Cell) (ww : Int32) (X0 : Stand p l e R s m args below meth c T0 locs cells slots) (hx : p.tables.exec = Jvm.exec) (hZ : Z.Warmed39 s.vm) (hw : ∀ d ∈ tables_1, d.before a0 Z = true) (hby : c.code = prog_11_method_12_code) (hml : c.maxLocals = 5) (hown : s.vm.findClass "com/example/zbirka/zbirka/Iso2709Reader" = some m.cls) (e0 : T0.heap = h0) (Ar : Arr Z h0 ad cl .byte) (hi : ¬ (ii < 0 ∨ cl.slots.size ≤ ii.toNatClampNeg)) (ha : cl.slots[ii.toNatClampNeg]? = some (.int ww)) (hc : ii < tx) (he : ¬ ww = bx) :
    Wy p.tables e below (T0.setTop (mkF m 3 #[.val (.ref ad), .val (.int bx), .val (.int fx), .val (.int tx), .val (.int ii)] [])) (T0.setTop (mkF m 3 #[.val (.ref ad), .val (.int bx), .val (.int fx), .val (.int tx), .val (.int (ii + (1 : Int32)))] [])) := by
  have P0 : Wy p.tables e below (T0.setTop (mkF m 3 #[.val (.ref ad), .val (.int bx), .val (.int fx), .val (.int tx), .val (.int ii)] [])) (T0.setTop (mkF m 3 #[.val (.ref ad), .val (.int bx), .val (.int fx), .val (.int tx), .val (.int ii)] [])) := fun t k => k
  have P1 : Wy p.tables e below (T0.setTop (mkF m 3 #[.val (.ref ad), .val (.int bx), .val (.int fx), .val (.int tx), .val (.int ii)] [])) (T0.setTop (mkF m 12 #[.val (.ref ad), .val (.int bx), .val (.int fx), .val (.int tx), .val (.int ii)] [(.int ii), (.ref ad)])) := fun t k => P0 t (by
    show Steps p.tables e below (T0.setTop (mkF m 3 #[.val (.ref ad), .val (.int bx), .val (.int fx), .val (.int tx), .val (.int ii)] [])) _
    refine XS.iload X0.here hx rfl (hb hby d1_3) rfl  ?_
    show Steps p.tables e below (T0.setTop (mkF m 5 #[.val (.ref ad), .val (.int bx), .val (.int fx), .val (.int tx), .val (.int ii)] [(.int ii)])) _
    refine XS.iloadN X0.here hx rfl (hb hby d1_5) rfl  ?_
    show Steps p.tables e below (T0.setTop (mkF m 6 #[.val (.ref ad), .val (.int bx), .val (.int fx), .val (.int tx), .val (.int ii)] [(.int tx), (.int ii)])) _
    refine XS.icmpNo X0.here hx rfl (hb hby d1_6) rfl (tlt (hc : ii < tx)).2.1 ?_
    show Steps p.tables e below (T0.setTop (mkF m 9 #[.val (.ref ad), .val (.int bx), .val (.int fx), .val (.int tx), .val (.int ii)] [])) _
    refine XS.aloadN X0.here hx rfl (hb hby d1_9) rfl rfl  ?_
    show Steps p.tables e below (T0.setTop (mkF m 10 #[.val (.ref ad), .val (.int bx), .val (.int fx), .val (.int tx), .val (.int ii)] [(.ref ad)])) _
    refine XS.iload X0.here hx rfl (hb hby d1_10) rfl  ?_
    exact k)
  have P2 : Wy p.tables e below (T0.setTop (mkF m 3 #[.val (.ref ad), .val (.int bx), .val (.int fx), .val (.int tx), .val (.int ii)] [])) (T0.setTop (mkF m 13 #[.val (.ref ad), .val (.int bx), .val (.int fx), .val (.int tx), .val (.int ii)] [(.int ww)])) := fun t k => P1 t (X0.baloadBytes hx (j := ii) (v := (.int ww)) (by rw [e0]; exact Ar.1) (State.isArrayOf_alike hZ.alike Ar.2.1) Ar.2.2 hi ha (g := (mkF m 12 #[.val (.ref ad), .val (.int bx), .val (.int fx), .val (.int tx), .val (.int ii)] [(.int ii), (.ref ad)])) rfl rfl (hb hby d1_12) _ k)
  have P3 : Wy p.tables e below (T0.setTop (mkF m 3 #[.val (.ref ad), .val (.int bx), .val (.int fx), .val (.int tx), .val (.int ii)] [])) (T0.setTop (mkF m 3 #[.val (.ref ad), .val (.int bx), .val (.int fx), .val (.int tx), .val (.int (ii + (1 : Int32)))] [])) := fun t k => P2 t (by
    show Steps p.tables e below (T0.setTop (mkF m 13 #[.val (.ref ad), .val (.int bx), .val (.int fx), .val (.int tx), .val (.int ii)] [(.int ww)])) _
    refine XS.iloadN X0.here hx rfl (hb hby d1_13) rfl  ?_
    show Steps p.tables e below (T0.setTop (mkF m 14 #[.val (.ref ad), .val (.int bx), .val (.int fx), .val (.int tx), .val (.int ii)] [(.int bx), (.int ww)])) _
    refine XS.icmpYes X0.here hx rfl (pc0 := 14) (pc' := 20) rfl (hb hby d1_14) rfl (feq (he : ¬ (ww = bx))).2 (by decide) (by decide) ?_
    show Steps p.tables e below (T0.setTop (mkF m 20 #[.val (.ref ad), .val (.int bx), .val (.int fx), .val (.int tx), .val (.int ii)] [])) _
    refine XS.iinc X0.here hx rfl (hb hby d1_20) rfl (l' := #[.val (.ref ad), .val (.int bx), .val (.int fx), .val (.int tx), .val (.int (ii + (1 : Int32)))]) rfl ?_
    show Steps p.tables e below (T0.setTop (mkF m 23 #[.val (.ref ad), .val (.int bx), .val (.int fx), .val (.int tx), .val (.int (ii + (1 : Int32)))] [])) _
    refine XS.goto X0.here hx rfl (pc0 := 23) (pc' := 3) rfl (hb hby d1_23) (by decide) (by decide) ?_
    exact k)
  exact P3
set_option maxRecDepth 65536 in
set_option maxHeartbeats 40000000 in
theorem sg_out {p : Program} {l : Launch} {e : Env} {R : Room} {s : State} {m : MethodId} {args : Array Value} {below : List Frame} {meth : Method} {c : Code} {T0 : State} {locs : List Loc} {cells slots : Nat} {Z : State} {a0 : Array Value} {h0 : Heap} (ad : Addr) (bx fx tx ii : Int32) (X0 : Stand p l e R s m args below meth c T0 locs cells slots) (hx : p.tables.exec = Jvm.exec) (hZ : Z.Warmed39 s.vm) (hw : ∀ d ∈ tables_1, d.before a0 Z = true) (hby : c.code = prog_11_method_12_code) (hml : c.maxLocals = 5) (hown : s.vm.findClass "com/example/zbirka/zbirka/Iso2709Reader" = some m.cls) (e0 : T0.heap = h0) (hc : ¬ (ii < tx)) :
    Wy p.tables e below (T0.setTop (mkF m 3 #[.val (.ref ad), .val (.int bx), .val (.int fx), .val (.int tx), .val (.int ii)] [])) (T0.setTop (mkF m 26 #[.val (.ref ad), .val (.int bx), .val (.int fx), .val (.int tx), .val (.int ii)] [])) := by
  have P0 : Wy p.tables e below (T0.setTop (mkF m 3 #[.val (.ref ad), .val (.int bx), .val (.int fx), .val (.int tx), .val (.int ii)] [])) (T0.setTop (mkF m 3 #[.val (.ref ad), .val (.int bx), .val (.int fx), .val (.int tx), .val (.int ii)] [])) := fun t k => k
  have P1 : Wy p.tables e below (T0.setTop (mkF m 3 #[.val (.ref ad), .val (.int bx), .val (.int fx), .val (.int tx), .val (.int ii)] [])) (T0.setTop (mkF m 26 #[.val (.ref ad), .val (.int bx), .val (.int fx), .val (.int tx), .val (.int ii)] [])) := fun t k => P0 t (by
    show Steps p.tables e below (T0.setTop (mkF m 3 #[.val (.ref ad), .val (.int bx), .val (.int fx), .val (.int tx), .val (.int ii)] [])) _
    refine XS.iload X0.here hx rfl (hb hby d1_3) rfl  ?_
    show Steps p.tables e below (T0.setTop (mkF m 5 #[.val (.ref ad), .val (.int bx), .val (.int fx), .val (.int tx), .val (.int ii)] [(.int ii)])) _
    refine XS.iloadN X0.here hx rfl (hb hby d1_5) rfl  ?_
    show Steps p.tables e below (T0.setTop (mkF m 6 #[.val (.ref ad), .val (.int bx), .val (.int fx), .val (.int tx), .val (.int ii)] [(.int tx), (.int ii)])) _
    refine XS.icmpYes X0.here hx rfl (pc0 := 6) (pc' := 26) rfl (hb hby d1_6) rfl (flt (hc : ¬ (ii < tx))).2.1 (by decide) (by decide) ?_
    exact k)
  exact P1
theorem own_loop {p : Program} {l : Launch} {e : Env} {R : Room} {s : State} {m : MethodId} {args : Array Value} {below : List Frame} {meth : Method} {c : Code} {T0 : State} {locs : List Loc} {cells slots : Nat} {Z : State} {a0 : Array Value} {h0 : Heap} (ad : Addr) (bx fx tx : Int32) (vs : List Int32) (tn : Nat) (X0 : Stand p l e R s m args below meth c T0 locs cells slots) (hx : p.tables.exec = Jvm.exec) (hZ : Z.Warmed39 s.vm) (hw : ∀ d ∈ tables_1, d.before a0 Z = true) (hby : c.code = prog_11_method_12_code) (hml : c.maxLocals = 5) (hown : s.vm.findClass "com/example/zbirka/zbirka/Iso2709Reader" = some m.cls) (e0 : T0.heap = h0) (B : own_By Z h0 ad vs) (ht : tx = Int32.ofNat tn) (hl : tn ≤ vs.length) (h4 : vs.length ≤ 1000) :
    ∀ (k i : Nat), (i + k = tn ∨ (k = 0 ∧ tn ≤ i)) → i ≤ 1000 →
      (∃ j, own_R vs bx tn k i = j ∧ Wy p.tables e below (T0.setTop (mkF m 3 #[.val (.ref ad), .val (.int bx), .val (.int fx), .val (.int tx), .val (.int (Int32.ofNat i))] [])) (T0.setTop (mkF m 17 #[.val (.ref ad), .val (.int bx), .val (.int fx), .val (.int tx), .val (.int (Int32.ofNat j))] []))) ∨ (∃ j, own_R vs bx tn k i = tn ∧ Wy p.tables e below (T0.setTop (mkF m 3 #[.val (.ref ad), .val (.int bx), .val (.int fx), .val (.int tx), .val (.int (Int32.ofNat i))] [])) (T0.setTop (mkF m 26 #[.val (.ref ad), .val (.int bx), .val (.int fx), .val (.int tx), .val (.int (Int32.ofNat j))] []))) := by
  obtain ⟨cl, Ar, Sz, Ha⟩ := B
  intro k
  induction k with
  | zero =>
    intro i hi h9
    refine Or.inr ⟨i, rfl, sg_out ad bx fx tx (Int32.ofNat i) X0 hx hZ hw hby hml hown e0 ?_⟩
    rw [ht, own_ltN (by omega) (by omega)]
    omega
  | succ k ih =>
    intro i hi h9
    have hc : Int32.ofNat i < tx := by rw [ht, own_ltN (by omega) (by omega)]; omega
    have a := own_at (j := Int32.ofNat i) Sz Ha (by rw [own_ofN (by omega)]; omega) (by rw [own_ofN (by omega)]; omega)
    by_cases he : vs.getD (Int32.ofNat i).toNatClampNeg 0 = bx
    · refine Or.inl ⟨i, ?_, sg_hit ad bx fx tx (Int32.ofNat i) cl _ X0 hx hZ hw hby hml hown e0 Ar a.1 a.2 hc he⟩
      rw [own_ofC (by omega)] at he
      simp only [own_R, if_pos he]
    · have st := sg_next ad bx fx tx (Int32.ofNat i) cl _ X0 hx hZ hw hby hml hown e0 Ar a.1 a.2 hc he
      rw [own_one] at st
      rw [own_ofC (by omega)] at he
      simp only [own_R, if_neg he]
      rcases ih (i + 1) (by omega) (by omega) with ⟨j, hj, W⟩ | ⟨j, hj, W⟩
      · exact Or.inl ⟨j, hj, fun t h => st t (W t h)⟩
      · exact Or.inr ⟨j, hj, fun t h => st t (W t h)⟩
theorem d1_0 : decode prog_11_method_12_code 0 = .ok (.iload_n 2, 1) := by decide +kernel
theorem d1_1 : decode prog_11_method_12_code 1 = .ok (.istore 4, 2) := by decide +kernel
theorem d1_17 : decode prog_11_method_12_code 17 = .ok (.iload 4, 2) := by decide +kernel
theorem d1_19 : decode prog_11_method_12_code 19 = .ok (.ireturn, 1) := by decide +kernel
theorem d1_26 : decode prog_11_method_12_code 26 = .ok (.iload_n 3, 1) := by decide +kernel
theorem d1_27 : decode prog_11_method_12_code 27 = .ok (.ireturn, 1) := by decide +kernel
theorem pn_com_example_zbirka_zbirka_Iso2709Reader : plainName "com/example/zbirka/zbirka/Iso2709Reader" = true := by first | (simp [plainName, overriddenIn]; done) | decide +kernel
theorem ef_rm1 (m : MethodId) (ad : Addr) (bx : Int32) (fx : Int32) (tx : Int32)  : entryFrame m #[(.ref ad), (.int bx), (.int fx), (.int tx)] 5 = (mkF m 0 #[.val (.ref ad), .val (.int bx), .val (.int fx), .val (.int tx), .unset] []) := by first | (simp [entryFrame, mkF, argsToLocals, Value.category]; done) | rfl
def Q1 (Z : State) (ad : Addr) (bx fx tx : Int32) (vs : List Int32) (fn tn : Nat) (h0 : Heap) (n0 : Nat) (v : Option Value) (h : Heap) (L : List Loc) : Prop := v = some (.int (Int32.ofNat (own_R vs bx tn (tn - fn) fn))) ∧ Fr n0 L ∧ h = h0
set_option maxRecDepth 65536 in
set_option maxHeartbeats 40000000 in
theorem rm1 (l : Launch) (Z : State) (a0 : Array Value) (hw : ∀ d ∈ tables_1, d.before a0 Z = true) (ws : List Jvm.Cond) (ad : Addr) (bx fx tx : Int32) (vs : List Int32) (fn tn : Nat) (h0 : Heap) (n0 : Nat) (Z0 : n0 ≤ h0.size) (B : own_By Z h0 ad vs) (hf : fx = Int32.ofNat fn) (ht : tx = Int32.ofNat tn) (hl : tn ≤ vs.length) (h4 : vs.length ≤ 1000) (hf4 : fn ≤ 1000) :
    MetFree l (⟨"com/example/zbirka/zbirka/Iso2709Reader", "indexOf", "([BBII)I"⟩ : MethodName) (head1 (Jvm.Cond.code (⟨"com/example/zbirka/zbirka/Iso2709Reader", "indexOf", "([BBII)I"⟩ : MethodName) prog_11_method_12_code 5 (some .int) :: ws) ({ frames := 0, cells := 0, slots := 0, locals := 0 } : Room)) (fun a U => a = #[(.ref ad), (.int bx), (.int fx), (.int tx)] ∧ Z.Warmed39 U.vm ∧ U.heap = h0) (fun _ _ _ _ _ => True) (fun _ U o U' => ∃ v L, o = .returned v ∧ Q1 Z ad bx fx tx vs fn tn h0 n0 v U'.heap L ∧ FrameEnd U o U' L ({ frames := 0, cells := 0, slots := 0, locals := 0 } : Room).cells ({ frames := 0, cells := 0, slots := 0, locals := 0 } : Room).slots) := by
  refine MetFree.of_bodySF (plainFor_of_name pn_com_example_zbirka_zbirka_Iso2709Reader) hisR ?_
  intro p e s m args below meth c s₁ Bd hml0 hP hK
  obtain ⟨rfl, hZ, hh⟩ := hP
  have hx := Bd.exec
  have hby := Bd.bytes
  have hml : c.maxLocals = 5 := hml0
  have hown : s.vm.findClass "com/example/zbirka/zbirka/Iso2709Reader" = some m.cls := by have q := findClass_of_methodNamed Bd.named; exact q
  have hnm := (name_of_methodNamed Bd.named Bd.method).1
  have X0 : Stand p l e ({ frames := 0, cells := 0, slots := 0, locals := 0 } : Room) s m #[(.ref ad), (.int bx), (.int fx), (.int tx)] below meth c s₁ [] 0 0 := Stand.of_body Bd
  have e0 : s₁.heap = h0 := by rw [← hh, Bd.state]; rfl
  have N0 := Fr.nil n0
  have P0 : Wy p.tables e below (s₁.setTop (entryFrame m #[(.ref ad), (.int bx), (.int fx), (.int tx)] 5)) (s₁.setTop (mkF m 0 #[.val (.ref ad), .val (.int bx), .val (.int fx), .val (.int tx), .unset] [])) := fun t k => castTop (ef_rm1 m ad bx fx tx) k
  have P1 : Wy p.tables e below (s₁.setTop (entryFrame m #[(.ref ad), (.int bx), (.int fx), (.int tx)] 5)) (s₁.setTop (mkF m 3 #[.val (.ref ad), .val (.int bx), .val (.int fx), .val (.int tx), .val (.int fx)] [])) := fun t k => P0 t (by
    show Steps p.tables e below (s₁.setTop (mkF m 0 #[.val (.ref ad), .val (.int bx), .val (.int fx), .val (.int tx), .unset] [])) _
    refine XS.iloadN X0.here hx rfl (hb hby d1_0) rfl  ?_
    show Steps p.tables e below (s₁.setTop (mkF m 1 #[.val (.ref ad), .val (.int bx), .val (.int fx), .val (.int tx), .unset] [(.int fx)])) _
    refine XS.istore X0.here hx rfl (hb hby d1_1) rfl (l' := #[.val (.ref ad), .val (.int bx), .val (.int fx), .val (.int tx), .val (.int fx)]) rfl ?_
    exact k)
  have hlp := own_loop ad bx fx tx vs tn X0 hx hZ hw hby hml hown e0 B ht hl h4 (tn - fn) fn (by omega) hf4
  rw [← hf] at hlp
  rcases hlp with ⟨j, hj, Wj⟩ | ⟨j, hj, Wj⟩
  · have P2 : Wy p.tables e below (s₁.setTop (entryFrame m #[(.ref ad), (.int bx), (.int fx), (.int tx)] 5)) (s₁.setTop (mkF m 17 #[.val (.ref ad), .val (.int bx), .val (.int fx), .val (.int tx), .val (.int (Int32.ofNat j))] [])) := fun t k => P1 t (Wj t k)
    have P3 : Wy p.tables e below (s₁.setTop (entryFrame m #[(.ref ad), (.int bx), (.int fx), (.int tx)] 5)) (s₁.setTop (mkF m 19 #[.val (.ref ad), .val (.int bx), .val (.int fx), .val (.int tx), .val (.int (Int32.ofNat j))] [(.int (Int32.ofNat j))])) := fun t k => P2 t (by
      show Steps p.tables e below (s₁.setTop (mkF m 17 #[.val (.ref ad), .val (.int bx), .val (.int fx), .val (.int tx), .val (.int (Int32.ofNat j))] [])) _
      refine XS.iload X0.here hx rfl (hb hby d1_17) rfl  ?_
      exact k)
    obtain ⟨fs, hr, hrun, hended, hW, hsame⟩ := X0.leave (v := some (.int (Int32.ofNat j))) (fun h => by rw [Bd.returns] at h; cases h)
    refine ⟨_, _, P3 _ ?_, hrun, hended, _, _, rfl, ?_, ⟨_, rfl⟩, hW, hsame.mono (by decide) (by decide)⟩
    · show Steps p.tables e below (s₁.setTop (mkF m 19 #[.val (.ref ad), .val (.int bx), .val (.int fx), .val (.int tx), .val (.int (Int32.ofNat j))] [(.int (Int32.ofNat j))])) _
      exact retI X0 hx Bd.returns (hb hby d1_19) hr
    · show Q1 Z ad bx fx tx vs fn tn h0 n0 _ s₁.heap _
      rw [e0]
      exact ⟨congrArg (fun z => some (Value.int (Int32.ofNat z))) hj.symm, N0, rfl⟩
  · have P4 : Wy p.tables e below (s₁.setTop (entryFrame m #[(.ref ad), (.int bx), (.int fx), (.int tx)] 5)) (s₁.setTop (mkF m 26 #[.val (.ref ad), .val (.int bx), .val (.int fx), .val (.int tx), .val (.int (Int32.ofNat j))] [])) := fun t k => P1 t (Wj t k)
    have P5 : Wy p.tables e below (s₁.setTop (entryFrame m #[(.ref ad), (.int bx), (.int fx), (.int tx)] 5)) (s₁.setTop (mkF m 27 #[.val (.ref ad), .val (.int bx), .val (.int fx), .val (.int tx), .val (.int (Int32.ofNat j))] [(.int tx)])) := fun t k => P4 t (by
      show Steps p.tables e below (s₁.setTop (mkF m 26 #[.val (.ref ad), .val (.int bx), .val (.int fx), .val (.int tx), .val (.int (Int32.ofNat j))] [])) _
      refine XS.iloadN X0.here hx rfl (hb hby d1_26) rfl  ?_
      exact k)
    obtain ⟨fs, hr, hrun, hended, hW, hsame⟩ := X0.leave (v := some (.int tx)) (fun h => by rw [Bd.returns] at h; cases h)
    refine ⟨_, _, P5 _ ?_, hrun, hended, _, _, rfl, ?_, ⟨_, rfl⟩, hW, hsame.mono (by decide) (by decide)⟩
    · show Steps p.tables e below (s₁.setTop (mkF m 27 #[.val (.ref ad), .val (.int bx), .val (.int fx), .val (.int tx), .val (.int (Int32.ofNat j))] [(.int tx)])) _
      exact retI X0 hx Bd.returns (hb hby d1_27) hr
    · show Q1 Z ad bx fx tx vs fn tn h0 n0 _ s₁.heap _
      rw [e0]
      exact ⟨by rw [hj, ht], N0, rfl⟩
theorem d3_0 : decode method_3_code 0 = .ok (.iload_n 2, 1) := by decide +kernel
theorem d3_1 : decode method_3_code 1 = .ok (.iload 4, 2) := by decide +kernel
theorem d3_3 : decode method_3_code 3 = .ok (.if_icmp .gt 21, 3) := by decide +kernel
theorem d3_6 : decode method_3_code 6 = .ok (.iload 4, 2) := by decide +kernel
theorem d3_8 : decode method_3_code 8 = .ok (.iload_n 3, 1) := by decide +kernel
theorem d3_9 : decode method_3_code 9 = .ok (.if_icmp .ge 15, 3) := by decide +kernel
theorem d3_12 : decode method_3_code 12 = .ok (.aload_n 0, 1) := by decide +kernel
theorem d3_13 : decode method_3_code 13 = .ok (.iload 4, 2) := by decide +kernel
theorem d3_15 : decode method_3_code 15 = .ok (.baload, 1) := by decide +kernel
theorem d3_16 : decode method_3_code 16 = .ok (.iload_n 1, 1) := by decide +kernel
theorem d3_17 : decode method_3_code 17 = .ok (.if_icmp .ne 7, 3) := by decide +kernel
theorem d3_20 : decode method_3_code 20 = .ok (.iconst 1, 1) := by decide +kernel
theorem d3_21 : decode method_3_code 21 = .ok (.goto 4, 3) := by decide +kernel
theorem d3_24 : decode method_3_code 24 = .ok (.iconst 0, 1) := by decide +kernel
theorem d3_25 : decode method_3_code 25 = .ok (.ireturn, 1) := by decide +kernel
theorem pn_com_example_zbirka_zbirka_Iso2709ReaderIndexOfPinLaw : plainName "com/example/zbirka/zbirka/Iso2709ReaderIndexOfPinLaw" = true := by first | (simp [plainName, overriddenIn]; done) | decide +kernel
theorem ef_rm3 (m : MethodId) (ad : Addr) (bx : Int32) (fx : Int32) (tx : Int32) (ix : Int32)  : entryFrame m #[(.ref ad), (.int bx), (.int fx), (.int tx), (.int ix)] 5 = (mkF m 0 #[.val (.ref ad), .val (.int bx), .val (.int fx), .val (.int tx), .val (.int ix)] []) := by first | (simp [entryFrame, mkF, argsToLocals, Value.category]; done) | rfl
def Q3 (Z : State) (ad : Addr) (bx fx tx ix : Int32) (vs : List Int32) (h0 : Heap) (n0 : Nat) (v : Option Value) (h : Heap) (L : List Loc) : Prop := v = some (.int (own_hit vs bx fx tx ix)) ∧ Fr n0 L ∧ h = h0
set_option maxRecDepth 65536 in
set_option maxHeartbeats 40000000 in
theorem rm3 (l : Launch) (Z : State) (a0 : Array Value) (hw : ∀ d ∈ tables_1, d.before a0 Z = true) (ws : List Jvm.Cond) (ad : Addr) (bx fx tx ix : Int32) (vs : List Int32) (h0 : Heap) (n0 : Nat) (Z0 : n0 ≤ h0.size) (B : own_By Z h0 ad vs) (hi0 : 0 ≤ ix.toInt) (hi1 : ix.toInt < vs.length) :
    MetFree l (⟨"com/example/zbirka/zbirka/Iso2709ReaderIndexOfPinLaw", "hit", "([BBIII)Z"⟩ : MethodName) (head1 (Jvm.Cond.code (⟨"com/example/zbirka/zbirka/Iso2709ReaderIndexOfPinLaw", "hit", "([BBIII)Z"⟩ : MethodName) method_3_code 5 (some .boolean) :: ws) ({ frames := 0, cells := 0, slots := 0, locals := 0 } : Room)) (fun a U => a = #[(.ref ad), (.int bx), (.int fx), (.int tx), (.int ix)] ∧ Z.Warmed39 U.vm ∧ U.heap = h0) (fun _ _ _ _ _ => True) (fun _ U o U' => ∃ v L, o = .returned v ∧ Q3 Z ad bx fx tx ix vs h0 n0 v U'.heap L ∧ FrameEnd U o U' L ({ frames := 0, cells := 0, slots := 0, locals := 0 } : Room).cells ({ frames := 0, cells := 0, slots := 0, locals := 0 } : Room).slots) := by
  refine MetFree.of_bodySF (plainFor_of_name pn_com_example_zbirka_zbirka_Iso2709ReaderIndexOfPinLaw) hisR ?_
  intro p e s m args below meth c s₁ Bd hml0 hP hK
  obtain ⟨rfl, hZ, hh⟩ := hP
  have hx := Bd.exec
  have hby := Bd.bytes
  have hml : c.maxLocals = 5 := hml0
  have hown : s.vm.findClass "com/example/zbirka/zbirka/Iso2709ReaderIndexOfPinLaw" = some m.cls := by have q := findClass_of_methodNamed Bd.named; exact q
  have hnm := (name_of_methodNamed Bd.named Bd.method).1
  have X0 : Stand p l e ({ frames := 0, cells := 0, slots := 0, locals := 0 } : Room) s m #[(.ref ad), (.int bx), (.int fx), (.int tx), (.int ix)] below meth c s₁ [] 0 0 := Stand.of_body Bd
  have e0 : s₁.heap = h0 := by rw [← hh, Bd.state]; rfl
  have N0 := Fr.nil n0
  have P0 : Wy p.tables e below (s₁.setTop (entryFrame m #[(.ref ad), (.int bx), (.int fx), (.int tx), (.int ix)] 5)) (s₁.setTop (mkF m 0 #[.val (.ref ad), .val (.int bx), .val (.int fx), .val (.int tx), .val (.int ix)] [])) := fun t k => castTop (ef_rm3 m ad bx fx tx ix) k
  obtain ⟨cl, Ar, Sz, Ha⟩ := B
  have ha := own_at (j := ix) Sz Ha hi0 hi1
  have P1 : Wy p.tables e below (s₁.setTop (entryFrame m #[(.ref ad), (.int bx), (.int fx), (.int tx), (.int ix)] 5)) (s₁.setTop (mkF m 3 #[.val (.ref ad), .val (.int bx), .val (.int fx), .val (.int tx), .val (.int ix)] [(.int ix), (.int fx)])) := fun t k => P0 t (by
    show Steps p.tables e below (s₁.setTop (mkF m 0 #[.val (.ref ad), .val (.int bx), .val (.int fx), .val (.int tx), .val (.int ix)] [])) _
    refine XS.iloadN X0.here hx rfl (hb hby d3_0) rfl  ?_
    show Steps p.tables e below (s₁.setTop (mkF m 1 #[.val (.ref ad), .val (.int bx), .val (.int fx), .val (.int tx), .val (.int ix)] [(.int fx)])) _
    refine XS.iload X0.here hx rfl (hb hby d3_1) rfl  ?_
    exact k)
  by_cases hc3_2 : ix < fx
  · have P3 : Wy p.tables e below (s₁.setTop (entryFrame m #[(.ref ad), (.int bx), (.int fx), (.int tx), (.int ix)] 5)) (s₁.setTop (mkF m 25 #[.val (.ref ad), .val (.int bx), .val (.int fx), .val (.int tx), .val (.int ix)] [(.int (0 : Int32))])) := fun t k => P1 t (by
      show Steps p.tables e below (s₁.setTop (mkF m 3 #[.val (.ref ad), .val (.int bx), .val (.int fx), .val (.int tx), .val (.int ix)] [(.int ix), (.int fx)])) _
      refine XS.icmpYes X0.here hx rfl (pc0 := 3) (pc' := 24) rfl (hb hby d3_3) rfl (tlt hc3_2).2.2.1 (by decide) (by decide) ?_
      show Steps p.tables e below (s₁.setTop (mkF m 24 #[.val (.ref ad), .val (.int bx), .val (.int fx), .val (.int tx), .val (.int ix)] [])) _
      refine XS.iconst X0.here hx rfl (hb hby d3_24) ?_
      exact k)
    obtain ⟨fs, hr, hrun, hended, hW, hsame⟩ := X0.leave (v := some (.int (nar .boolean (0 : Int32)))) (fun h => by rw [Bd.returns] at h; cases h)
    refine ⟨_, _, P3 _ ?_, hrun, hended, _, _, rfl, ?_, ⟨_, rfl⟩, hW, hsame.mono (by decide) (by decide)⟩
    · show Steps p.tables e below (s₁.setTop (mkF m 25 #[.val (.ref ad), .val (.int bx), .val (.int fx), .val (.int tx), .val (.int ix)] [(.int (0 : Int32))])) _
      exact retN X0 hx (t := .boolean) Bd.returns (by simp) (hb hby d3_25) hr
    · show Q3 Z ad bx fx tx ix vs h0 n0 _ s₁.heap _
      rw [e0]
      exact ⟨congrArg (fun z => some (Value.int z)) (show _ = own_hit vs bx fx tx ix from by simp only [own_hit, if_pos hc3_2]; try rfl), N0, rfl⟩
  · have P4 : Wy p.tables e below (s₁.setTop (entryFrame m #[(.ref ad), (.int bx), (.int fx), (.int tx), (.int ix)] 5)) (s₁.setTop (mkF m 9 #[.val (.ref ad), .val (.int bx), .val (.int fx), .val (.int tx), .val (.int ix)] [(.int tx), (.int ix)])) := fun t k => P1 t (by
      show Steps p.tables e below (s₁.setTop (mkF m 3 #[.val (.ref ad), .val (.int bx), .val (.int fx), .val (.int tx), .val (.int ix)] [(.int ix), (.int fx)])) _
      refine XS.icmpNo X0.here hx rfl (hb hby d3_3) rfl (flt hc3_2).2.2.1 ?_
      show Steps p.tables e below (s₁.setTop (mkF m 6 #[.val (.ref ad), .val (.int bx), .val (.int fx), .val (.int tx), .val (.int ix)] [])) _
      refine XS.iload X0.here hx rfl (hb hby d3_6) rfl  ?_
      show Steps p.tables e below (s₁.setTop (mkF m 8 #[.val (.ref ad), .val (.int bx), .val (.int fx), .val (.int tx), .val (.int ix)] [(.int ix)])) _
      refine XS.iloadN X0.here hx rfl (hb hby d3_8) rfl  ?_
      exact k)
    by_cases hc9_5 : ix < tx
    · have P6 : Wy p.tables e below (s₁.setTop (entryFrame m #[(.ref ad), (.int bx), (.int fx), (.int tx), (.int ix)] 5)) (s₁.setTop (mkF m 15 #[.val (.ref ad), .val (.int bx), .val (.int fx), .val (.int tx), .val (.int ix)] [(.int ix), (.ref ad)])) := fun t k => P4 t (by
        show Steps p.tables e below (s₁.setTop (mkF m 9 #[.val (.ref ad), .val (.int bx), .val (.int fx), .val (.int tx), .val (.int ix)] [(.int tx), (.int ix)])) _
        refine XS.icmpNo X0.here hx rfl (hb hby d3_9) rfl (tlt hc9_5).2.1 ?_
        show Steps p.tables e below (s₁.setTop (mkF m 12 #[.val (.ref ad), .val (.int bx), .val (.int fx), .val (.int tx), .val (.int ix)] [])) _
        refine XS.aloadN X0.here hx rfl (hb hby d3_12) rfl rfl  ?_
        show Steps p.tables e below (s₁.setTop (mkF m 13 #[.val (.ref ad), .val (.int bx), .val (.int fx), .val (.int tx), .val (.int ix)] [(.ref ad)])) _
        refine XS.iload X0.here hx rfl (hb hby d3_13) rfl  ?_
        exact k)
      have P7 : Wy p.tables e below (s₁.setTop (entryFrame m #[(.ref ad), (.int bx), (.int fx), (.int tx), (.int ix)] 5)) (s₁.setTop (mkF m 16 #[.val (.ref ad), .val (.int bx), .val (.int fx), .val (.int tx), .val (.int ix)] [(.int (vs.getD ix.toNatClampNeg 0))])) := fun t k => P6 t (X0.baloadBytes hx (j := ix) (v := (.int (vs.getD ix.toNatClampNeg 0))) (by rw [e0]; exact Ar.1) (State.isArrayOf_alike hZ.alike Ar.2.1) Ar.2.2 ha.1 ha.2 (g := (mkF m 15 #[.val (.ref ad), .val (.int bx), .val (.int fx), .val (.int tx), .val (.int ix)] [(.int ix), (.ref ad)])) rfl rfl (hb hby d3_15) _ k)
      have P8 : Wy p.tables e below (s₁.setTop (entryFrame m #[(.ref ad), (.int bx), (.int fx), (.int tx), (.int ix)] 5)) (s₁.setTop (mkF m 17 #[.val (.ref ad), .val (.int bx), .val (.int fx), .val (.int tx), .val (.int ix)] [(.int bx), (.int (vs.getD ix.toNatClampNeg 0))])) := fun t k => P7 t (by
        show Steps p.tables e below (s₁.setTop (mkF m 16 #[.val (.ref ad), .val (.int bx), .val (.int fx), .val (.int tx), .val (.int ix)] [(.int (vs.getD ix.toNatClampNeg 0))])) _
        refine XS.iloadN X0.here hx rfl (hb hby d3_16) rfl  ?_
        exact k)
      by_cases hc17_9 : (vs.getD ix.toNatClampNeg 0) = bx
      · have P10 : Wy p.tables e below (s₁.setTop (entryFrame m #[(.ref ad), (.int bx), (.int fx), (.int tx), (.int ix)] 5)) (s₁.setTop (mkF m 25 #[.val (.ref ad), .val (.int bx), .val (.int fx), .val (.int tx), .val (.int ix)] [(.int (1 : Int32))])) := fun t k => P8 t (by
          show Steps p.tables e below (s₁.setTop (mkF m 17 #[.val (.ref ad), .val (.int bx), .val (.int fx), .val (.int tx), .val (.int ix)] [(.int bx), (.int (vs.getD ix.toNatClampNeg 0))])) _
          refine XS.icmpNo X0.here hx rfl (hb hby d3_17) rfl (teq hc17_9).2 ?_
          show Steps p.tables e below (s₁.setTop (mkF m 20 #[.val (.ref ad), .val (.int bx), .val (.int fx), .val (.int tx), .val (.int ix)] [])) _
          refine XS.iconst X0.here hx rfl (hb hby d3_20) ?_
          show Steps p.tables e below (s₁.setTop (mkF m 21 #[.val (.ref ad), .val (.int bx), .val (.int fx), .val (.int tx), .val (.int ix)] [(.int (1 : Int32))])) _
          refine XS.goto X0.here hx rfl (pc0 := 21) (pc' := 25) rfl (hb hby d3_21) (by decide) (by decide) ?_
          exact k)
        obtain ⟨fs, hr, hrun, hended, hW, hsame⟩ := X0.leave (v := some (.int (nar .boolean (1 : Int32)))) (fun h => by rw [Bd.returns] at h; cases h)
        refine ⟨_, _, P10 _ ?_, hrun, hended, _, _, rfl, ?_, ⟨_, rfl⟩, hW, hsame.mono (by decide) (by decide)⟩
        · show Steps p.tables e below (s₁.setTop (mkF m 25 #[.val (.ref ad), .val (.int bx), .val (.int fx), .val (.int tx), .val (.int ix)] [(.int (1 : Int32))])) _
          exact retN X0 hx (t := .boolean) Bd.returns (by simp) (hb hby d3_25) hr
        · show Q3 Z ad bx fx tx ix vs h0 n0 _ s₁.heap _
          rw [e0]
          exact ⟨congrArg (fun z => some (Value.int z)) (show _ = own_hit vs bx fx tx ix from by simp only [own_hit, if_neg hc3_2, if_pos hc9_5, if_pos hc17_9]; try rfl), N0, rfl⟩
      · have P11 : Wy p.tables e below (s₁.setTop (entryFrame m #[(.ref ad), (.int bx), (.int fx), (.int tx), (.int ix)] 5)) (s₁.setTop (mkF m 25 #[.val (.ref ad), .val (.int bx), .val (.int fx), .val (.int tx), .val (.int ix)] [(.int (0 : Int32))])) := fun t k => P8 t (by
          show Steps p.tables e below (s₁.setTop (mkF m 17 #[.val (.ref ad), .val (.int bx), .val (.int fx), .val (.int tx), .val (.int ix)] [(.int bx), (.int (vs.getD ix.toNatClampNeg 0))])) _
          refine XS.icmpYes X0.here hx rfl (pc0 := 17) (pc' := 24) rfl (hb hby d3_17) rfl (feq hc17_9).2 (by decide) (by decide) ?_
          show Steps p.tables e below (s₁.setTop (mkF m 24 #[.val (.ref ad), .val (.int bx), .val (.int fx), .val (.int tx), .val (.int ix)] [])) _
          refine XS.iconst X0.here hx rfl (hb hby d3_24) ?_
          exact k)
        obtain ⟨fs, hr, hrun, hended, hW, hsame⟩ := X0.leave (v := some (.int (nar .boolean (0 : Int32)))) (fun h => by rw [Bd.returns] at h; cases h)
        refine ⟨_, _, P11 _ ?_, hrun, hended, _, _, rfl, ?_, ⟨_, rfl⟩, hW, hsame.mono (by decide) (by decide)⟩
        · show Steps p.tables e below (s₁.setTop (mkF m 25 #[.val (.ref ad), .val (.int bx), .val (.int fx), .val (.int tx), .val (.int ix)] [(.int (0 : Int32))])) _
          exact retN X0 hx (t := .boolean) Bd.returns (by simp) (hb hby d3_25) hr
        · show Q3 Z ad bx fx tx ix vs h0 n0 _ s₁.heap _
          rw [e0]
          exact ⟨congrArg (fun z => some (Value.int z)) (show _ = own_hit vs bx fx tx ix from by simp only [own_hit, if_neg hc3_2, if_pos hc9_5, if_neg hc17_9]; try rfl), N0, rfl⟩
    · have P12 : Wy p.tables e below (s₁.setTop (entryFrame m #[(.ref ad), (.int bx), (.int fx), (.int tx), (.int ix)] 5)) (s₁.setTop (mkF m 25 #[.val (.ref ad), .val (.int bx), .val (.int fx), .val (.int tx), .val (.int ix)] [(.int (0 : Int32))])) := fun t k => P4 t (by
        show Steps p.tables e below (s₁.setTop (mkF m 9 #[.val (.ref ad), .val (.int bx), .val (.int fx), .val (.int tx), .val (.int ix)] [(.int tx), (.int ix)])) _
        refine XS.icmpYes X0.here hx rfl (pc0 := 9) (pc' := 24) rfl (hb hby d3_9) rfl (flt hc9_5).2.1 (by decide) (by decide) ?_
        show Steps p.tables e below (s₁.setTop (mkF m 24 #[.val (.ref ad), .val (.int bx), .val (.int fx), .val (.int tx), .val (.int ix)] [])) _
        refine XS.iconst X0.here hx rfl (hb hby d3_24) ?_
        exact k)
      obtain ⟨fs, hr, hrun, hended, hW, hsame⟩ := X0.leave (v := some (.int (nar .boolean (0 : Int32)))) (fun h => by rw [Bd.returns] at h; cases h)
      refine ⟨_, _, P12 _ ?_, hrun, hended, _, _, rfl, ?_, ⟨_, rfl⟩, hW, hsame.mono (by decide) (by decide)⟩
      · show Steps p.tables e below (s₁.setTop (mkF m 25 #[.val (.ref ad), .val (.int bx), .val (.int fx), .val (.int tx), .val (.int ix)] [(.int (0 : Int32))])) _
        exact retN X0 hx (t := .boolean) Bd.returns (by simp) (hb hby d3_25) hr
      · show Q3 Z ad bx fx tx ix vs h0 n0 _ s₁.heap _
        rw [e0]
        exact ⟨congrArg (fun z => some (Value.int z)) (show _ = own_hit vs bx fx tx ix from by simp only [own_hit, if_neg hc3_2, if_neg hc9_5]; try rfl), N0, rfl⟩
theorem d2_0 : decode method_4_code 0 = .ok (.aload_n 0, 1) := by decide +kernel
theorem d2_1 : decode method_4_code 1 = .ok (.iload_n 1, 1) := by decide +kernel
theorem d2_2 : decode method_4_code 2 = .ok (.iload_n 2, 1) := by decide +kernel
theorem d2_3 : decode method_4_code 3 = .ok (.iload_n 3, 1) := by decide +kernel
theorem d2_4 : decode method_4_code 4 = .ok (.iconst 0, 1) := by decide +kernel
theorem d2_5 : decode method_4_code 5 = .ok (.invokestatic 18, 3) := by decide +kernel
theorem d2_8 : decode method_4_code 8 = .ok (.ifCond .eq 5, 3) := by decide +kernel
theorem d2_11 : decode method_4_code 11 = .ok (.iconst 0, 1) := by decide +kernel
theorem d2_12 : decode method_4_code 12 = .ok (.ireturn, 1) := by decide +kernel
theorem d2_13 : decode method_4_code 13 = .ok (.aload_n 0, 1) := by decide +kernel
theorem d2_14 : decode method_4_code 14 = .ok (.iload_n 1, 1) := by decide +kernel
theorem d2_15 : decode method_4_code 15 = .ok (.iload_n 2, 1) := by decide +kernel
theorem d2_16 : decode method_4_code 16 = .ok (.iload_n 3, 1) := by decide +kernel
theorem d2_17 : decode method_4_code 17 = .ok (.iconst 1, 1) := by decide +kernel
theorem d2_18 : decode method_4_code 18 = .ok (.invokestatic 18, 3) := by decide +kernel
theorem d2_21 : decode method_4_code 21 = .ok (.ifCond .eq 5, 3) := by decide +kernel
theorem d2_24 : decode method_4_code 24 = .ok (.iconst 1, 1) := by decide +kernel
theorem d2_25 : decode method_4_code 25 = .ok (.ireturn, 1) := by decide +kernel
theorem d2_26 : decode method_4_code 26 = .ok (.aload_n 0, 1) := by decide +kernel
theorem d2_27 : decode method_4_code 27 = .ok (.iload_n 1, 1) := by decide +kernel
theorem d2_28 : decode method_4_code 28 = .ok (.iload_n 2, 1) := by decide +kernel
theorem d2_29 : decode method_4_code 29 = .ok (.iload_n 3, 1) := by decide +kernel
theorem d2_30 : decode method_4_code 30 = .ok (.iconst 2, 1) := by decide +kernel
theorem d2_31 : decode method_4_code 31 = .ok (.invokestatic 18, 3) := by decide +kernel
theorem d2_34 : decode method_4_code 34 = .ok (.ifCond .eq 5, 3) := by decide +kernel
theorem d2_37 : decode method_4_code 37 = .ok (.iconst 2, 1) := by decide +kernel
theorem d2_38 : decode method_4_code 38 = .ok (.ireturn, 1) := by decide +kernel
theorem d2_39 : decode method_4_code 39 = .ok (.aload_n 0, 1) := by decide +kernel
theorem d2_40 : decode method_4_code 40 = .ok (.iload_n 1, 1) := by decide +kernel
theorem d2_41 : decode method_4_code 41 = .ok (.iload_n 2, 1) := by decide +kernel
theorem d2_42 : decode method_4_code 42 = .ok (.iload_n 3, 1) := by decide +kernel
theorem d2_43 : decode method_4_code 43 = .ok (.iconst 3, 1) := by decide +kernel
theorem d2_44 : decode method_4_code 44 = .ok (.invokestatic 18, 3) := by decide +kernel
theorem d2_47 : decode method_4_code 47 = .ok (.ifCond .eq 5, 3) := by decide +kernel
theorem d2_50 : decode method_4_code 50 = .ok (.iconst 3, 1) := by decide +kernel
theorem d2_51 : decode method_4_code 51 = .ok (.ireturn, 1) := by decide +kernel
theorem d2_52 : decode method_4_code 52 = .ok (.iload_n 3, 1) := by decide +kernel
theorem d2_53 : decode method_4_code 53 = .ok (.ireturn, 1) := by decide +kernel
theorem pd_lABBIIIrZ : parseMethodDescriptor "([BBIII)Z" = some ⟨[(.array .byte), .byte, .int, .int, .int], some .boolean⟩ := by decide +kernel
theorem ef_rm2 (m : MethodId) (ad : Addr) (bx : Int32) (fx : Int32) (tx : Int32)  : entryFrame m #[(.ref ad), (.int bx), (.int fx), (.int tx)] 4 = (mkF m 0 #[.val (.ref ad), .val (.int bx), .val (.int fx), .val (.int tx)] []) := by first | (simp [entryFrame, mkF, argsToLocals, Value.category]; done) | rfl
def Q2 (Z : State) (ad : Addr) (bx fx tx : Int32) (vs : List Int32) (h0 : Heap) (n0 : Nat) (v : Option Value) (h : Heap) (L : List Loc) : Prop := v = some (.int (own_ref vs bx fx tx)) ∧ Fr n0 L ∧ h = h0
set_option maxRecDepth 65536 in
set_option maxHeartbeats 40000000 in
theorem rm2 (l : Launch) (Z : State) (a0 : Array Value) (hw : ∀ d ∈ tables_1, d.before a0 Z = true) (ws : List Jvm.Cond) (ad : Addr) (bx fx tx : Int32) (vs : List Int32) (h0 : Heap) (n0 : Nat) (Z0 : n0 ≤ h0.size) (B : own_By Z h0 ad vs) (h4 : vs.length = 4) :
    MetFree l (⟨"com/example/zbirka/zbirka/Iso2709ReaderIndexOfPinLaw", "reference", "([BBII)I"⟩ : MethodName) (head1 (Jvm.Cond.code (⟨"com/example/zbirka/zbirka/Iso2709ReaderIndexOfPinLaw", "reference", "([BBII)I"⟩ : MethodName) method_4_code 4 (some .int) :: ws) ({ frames := 1, cells := 0, slots := 0, locals := 16 } : Room)) (fun a U => a = #[(.ref ad), (.int bx), (.int fx), (.int tx)] ∧ Z.Warmed39 U.vm ∧ U.heap = h0) (fun _ _ _ _ _ => True) (fun _ U o U' => ∃ v L, o = .returned v ∧ Q2 Z ad bx fx tx vs h0 n0 v U'.heap L ∧ FrameEnd U o U' L ({ frames := 1, cells := 0, slots := 0, locals := 16 } : Room).cells ({ frames := 1, cells := 0, slots := 0, locals := 16 } : Room).slots) := by
  refine MetFree.of_bodySF (plainFor_of_name pn_com_example_zbirka_zbirka_Iso2709ReaderIndexOfPinLaw) hisR ?_
  intro p e s m args below meth c s₁ Bd hml0 hP hK
  obtain ⟨rfl, hZ, hh⟩ := hP
  have hx := Bd.exec
  have hby := Bd.bytes
  have hml : c.maxLocals = 4 := hml0
  have hown : s.vm.findClass "com/example/zbirka/zbirka/Iso2709ReaderIndexOfPinLaw" = some m.cls := by have q := findClass_of_methodNamed Bd.named; exact q
  have hnm := (name_of_methodNamed Bd.named Bd.method).1
  have X0 : Stand p l e ({ frames := 1, cells := 0, slots := 0, locals := 16 } : Room) s m #[(.ref ad), (.int bx), (.int fx), (.int tx)] below meth c s₁ [] 0 0 := Stand.of_body Bd
  have e0 : s₁.heap = h0 := by rw [← hh, Bd.state]; rfl
  have N0 := Fr.nil n0
  have P0 : Wy p.tables e below (s₁.setTop (entryFrame m #[(.ref ad), (.int bx), (.int fx), (.int tx)] 4)) (s₁.setTop (mkF m 0 #[.val (.ref ad), .val (.int bx), .val (.int fx), .val (.int tx)] [])) := fun t k => castTop (ef_rm2 m ad bx fx tx) k
  have P1 : Wy p.tables e below (s₁.setTop (entryFrame m #[(.ref ad), (.int bx), (.int fx), (.int tx)] 4)) (s₁.setTop (mkF m 5 #[.val (.ref ad), .val (.int bx), .val (.int fx), .val (.int tx)] [(.int (0 : Int32)), (.int tx), (.int fx), (.int bx), (.ref ad)])) := fun t k => P0 t (by
    show Steps p.tables e below (s₁.setTop (mkF m 0 #[.val (.ref ad), .val (.int bx), .val (.int fx), .val (.int tx)] [])) _
    refine XS.aloadN X0.here hx rfl (hb hby d2_0) rfl rfl  ?_
    show Steps p.tables e below (s₁.setTop (mkF m 1 #[.val (.ref ad), .val (.int bx), .val (.int fx), .val (.int tx)] [(.ref ad)])) _
    refine XS.iloadN X0.here hx rfl (hb hby d2_1) rfl  ?_
    show Steps p.tables e below (s₁.setTop (mkF m 2 #[.val (.ref ad), .val (.int bx), .val (.int fx), .val (.int tx)] [(.int bx), (.ref ad)])) _
    refine XS.iloadN X0.here hx rfl (hb hby d2_2) rfl  ?_
    show Steps p.tables e below (s₁.setTop (mkF m 3 #[.val (.ref ad), .val (.int bx), .val (.int fx), .val (.int tx)] [(.int fx), (.int bx), (.ref ad)])) _
    refine XS.iloadN X0.here hx rfl (hb hby d2_3) rfl  ?_
    show Steps p.tables e below (s₁.setTop (mkF m 4 #[.val (.ref ad), .val (.int bx), .val (.int fx), .val (.int tx)] [(.int tx), (.int fx), (.int bx), (.ref ad)])) _
    refine XS.iconst X0.here hx rfl (hb hby d2_4) ?_
    exact k)
  obtain ⟨_, _, ⟨T2, L2, k2, n2⟩, -, X2, ⟨Lc2, hQ2, l2, y2, z2⟩, st2⟩ := Jvm.LawKit.callS X0 hx (y := (⟨"com/example/zbirka/zbirka/Iso2709ReaderIndexOfPinLaw", "hit", "([BBIII)Z"⟩ : MethodName)) hown (mvT hZ (hw _ (List.mem_of_getElem? (i := 9) rfl))) (mvT hZ (hw _ (List.mem_of_getElem? (i := 10) rfl))) (mvT hZ (hw _ (List.mem_of_getElem? (i := 7) rfl))) (mvT hZ (hw _ (List.mem_of_getElem? (i := 11) rfl))) (by decide) (backOf (W := 0) (rm3 l Z a0 hw [] ad bx fx tx (0 : Int32) vs h0 n0 Z0 B (by decide) (by rw [h4]; decide)) hZ (hw _ (List.mem_of_getElem? (i := 11) rfl)) (hw _ (List.mem_of_getElem? (i := 7) rfl)) (by decide) (by decide)) (g := (mkF m 5 #[.val (.ref ad), .val (.int bx), .val (.int fx), .val (.int tx)] [(.int (0 : Int32)), (.int tx), (.int fx), (.int bx), (.ref ad)])) rfl (by rw [hml]; rfl) (argsL := [(.ref ad), (.int bx), (.int fx), (.int tx), (.int (0 : Int32))]) (rest := []) (lenOf pd_lABBIIIrZ rfl) rfl (by show 2 * 0 + _ ≤ _; exact Nat.le_of_eq rfl) (hb hby d2_5) (fun _ _ => ⟨rfl, e0, (by decide : 0 + 0 ≤ _), (by decide : 0 + 0 ≤ _)⟩)
  dsimp only [Pt.U, Pt.locs, Pt.cells, Pt.slots] at X2 l2 y2 z2 st2 hQ2
  subst l2 y2 z2
  obtain ⟨rfl, N2q, e2⟩ := hQ2
  have N2 := Fr.app N0 N2q
  have P3 : Wy p.tables e below (s₁.setTop (entryFrame m #[(.ref ad), (.int bx), (.int fx), (.int tx)] 4)) (T2.setTop (mkF m 8 #[.val (.ref ad), .val (.int bx), .val (.int fx), .val (.int tx)] [(.int (own_hit vs bx fx tx (0 : Int32)))])) := fun t k => P1 t (st2 _ k)
  by_cases hc8_4 : (own_hit vs bx fx tx (0 : Int32)) = (0 : Int32)
  · have P5 : Wy p.tables e below (s₁.setTop (entryFrame m #[(.ref ad), (.int bx), (.int fx), (.int tx)] 4)) (T2.setTop (mkF m 18 #[.val (.ref ad), .val (.int bx), .val (.int fx), .val (.int tx)] [(.int (1 : Int32)), (.int tx), (.int fx), (.int bx), (.ref ad)])) := fun t k => P3 t (by
      show Steps p.tables e below (T2.setTop (mkF m 8 #[.val (.ref ad), .val (.int bx), .val (.int fx), .val (.int tx)] [(.int (own_hit vs bx fx tx (0 : Int32)))])) _
      refine XS.ifYes X2.here hx rfl (pc0 := 8) (pc' := 13) rfl (hb hby d2_8) rfl ((if0 _ _).trans (teq hc8_4).1) (by decide) (by decide) ?_
      show Steps p.tables e below (T2.setTop (mkF m 13 #[.val (.ref ad), .val (.int bx), .val (.int fx), .val (.int tx)] [])) _
      refine XS.aloadN X2.here hx rfl (hb hby d2_13) rfl rfl  ?_
      show Steps p.tables e below (T2.setTop (mkF m 14 #[.val (.ref ad), .val (.int bx), .val (.int fx), .val (.int tx)] [(.ref ad)])) _
      refine XS.iloadN X2.here hx rfl (hb hby d2_14) rfl  ?_
      show Steps p.tables e below (T2.setTop (mkF m 15 #[.val (.ref ad), .val (.int bx), .val (.int fx), .val (.int tx)] [(.int bx), (.ref ad)])) _
      refine XS.iloadN X2.here hx rfl (hb hby d2_15) rfl  ?_
      show Steps p.tables e below (T2.setTop (mkF m 16 #[.val (.ref ad), .val (.int bx), .val (.int fx), .val (.int tx)] [(.int fx), (.int bx), (.ref ad)])) _
      refine XS.iloadN X2.here hx rfl (hb hby d2_16) rfl  ?_
      show Steps p.tables e below (T2.setTop (mkF m 17 #[.val (.ref ad), .val (.int bx), .val (.int fx), .val (.int tx)] [(.int tx), (.int fx), (.int bx), (.ref ad)])) _
      refine XS.iconst X2.here hx rfl (hb hby d2_17) ?_
      exact k)
    obtain ⟨_, _, ⟨T6, L6, k6, n6⟩, -, X6, ⟨Lc6, hQ6, l6, y6, z6⟩, st6⟩ := Jvm.LawKit.callS X2 hx (y := (⟨"com/example/zbirka/zbirka/Iso2709ReaderIndexOfPinLaw", "hit", "([BBIII)Z"⟩ : MethodName)) hown (mvT hZ (hw _ (List.mem_of_getElem? (i := 9) rfl))) (mvT hZ (hw _ (List.mem_of_getElem? (i := 10) rfl))) (mvT hZ (hw _ (List.mem_of_getElem? (i := 7) rfl))) (mvT hZ (hw _ (List.mem_of_getElem? (i := 11) rfl))) (by decide) (backOf (W := 0) (rm3 l Z a0 hw [] ad bx fx tx (1 : Int32) vs h0 n0 Z0 B (by decide) (by rw [h4]; decide)) hZ (hw _ (List.mem_of_getElem? (i := 11) rfl)) (hw _ (List.mem_of_getElem? (i := 7) rfl)) (by decide) (by decide)) (g := (mkF m 18 #[.val (.ref ad), .val (.int bx), .val (.int fx), .val (.int tx)] [(.int (1 : Int32)), (.int tx), (.int fx), (.int bx), (.ref ad)])) rfl (by rw [hml]; rfl) (argsL := [(.ref ad), (.int bx), (.int fx), (.int tx), (.int (1 : Int32))]) (rest := []) (lenOf pd_lABBIIIrZ rfl) rfl (by show 2 * 0 + _ ≤ _; exact Nat.le_of_eq rfl) (hb hby d2_18) (fun _ _ => ⟨rfl, e2, (by decide : 0 + 0 ≤ _), (by decide : 0 + 0 ≤ _)⟩)
    dsimp only [Pt.U, Pt.locs, Pt.cells, Pt.slots] at X6 l6 y6 z6 st6 hQ6
    subst l6 y6 z6
    obtain ⟨rfl, N6q, e6⟩ := hQ6
    have N6 := Fr.app N2 N6q
    have P7 : Wy p.tables e below (s₁.setTop (entryFrame m #[(.ref ad), (.int bx), (.int fx), (.int tx)] 4)) (T6.setTop (mkF m 21 #[.val (.ref ad), .val (.int bx), .val (.int fx), .val (.int tx)] [(.int (own_hit vs bx fx tx (1 : Int32)))])) := fun t k => P5 t (st6 _ k)
    by_cases hc21_8 : (own_hit vs bx fx tx (1 : Int32)) = (0 : Int32)
    · have P9 : Wy p.tables e below (s₁.setTop (entryFrame m #[(.ref ad), (.int bx), (.int fx), (.int tx)] 4)) (T6.setTop (mkF m 31 #[.val (.ref ad), .val (.int bx), .val (.int fx), .val (.int tx)] [(.int (2 : Int32)), (.int tx), (.int fx), (.int bx), (.ref ad)])) := fun t k => P7 t (by
        show Steps p.tables e below (T6.setTop (mkF m 21 #[.val (.ref ad), .val (.int bx), .val (.int fx), .val (.int tx)] [(.int (own_hit vs bx fx tx (1 : Int32)))])) _
        refine XS.ifYes X6.here hx rfl (pc0 := 21) (pc' := 26) rfl (hb hby d2_21) rfl ((if0 _ _).trans (teq hc21_8).1) (by decide) (by decide) ?_
        show Steps p.tables e below (T6.setTop (mkF m 26 #[.val (.ref ad), .val (.int bx), .val (.int fx), .val (.int tx)] [])) _
        refine XS.aloadN X6.here hx rfl (hb hby d2_26) rfl rfl  ?_
        show Steps p.tables e below (T6.setTop (mkF m 27 #[.val (.ref ad), .val (.int bx), .val (.int fx), .val (.int tx)] [(.ref ad)])) _
        refine XS.iloadN X6.here hx rfl (hb hby d2_27) rfl  ?_
        show Steps p.tables e below (T6.setTop (mkF m 28 #[.val (.ref ad), .val (.int bx), .val (.int fx), .val (.int tx)] [(.int bx), (.ref ad)])) _
        refine XS.iloadN X6.here hx rfl (hb hby d2_28) rfl  ?_
        show Steps p.tables e below (T6.setTop (mkF m 29 #[.val (.ref ad), .val (.int bx), .val (.int fx), .val (.int tx)] [(.int fx), (.int bx), (.ref ad)])) _
        refine XS.iloadN X6.here hx rfl (hb hby d2_29) rfl  ?_
        show Steps p.tables e below (T6.setTop (mkF m 30 #[.val (.ref ad), .val (.int bx), .val (.int fx), .val (.int tx)] [(.int tx), (.int fx), (.int bx), (.ref ad)])) _
        refine XS.iconst X6.here hx rfl (hb hby d2_30) ?_
        exact k)
      obtain ⟨_, _, ⟨T10, L10, k10, n10⟩, -, X10, ⟨Lc10, hQ10, l10, y10, z10⟩, st10⟩ := Jvm.LawKit.callS X6 hx (y := (⟨"com/example/zbirka/zbirka/Iso2709ReaderIndexOfPinLaw", "hit", "([BBIII)Z"⟩ : MethodName)) hown (mvT hZ (hw _ (List.mem_of_getElem? (i := 9) rfl))) (mvT hZ (hw _ (List.mem_of_getElem? (i := 10) rfl))) (mvT hZ (hw _ (List.mem_of_getElem? (i := 7) rfl))) (mvT hZ (hw _ (List.mem_of_getElem? (i := 11) rfl))) (by decide) (backOf (W := 0) (rm3 l Z a0 hw [] ad bx fx tx (2 : Int32) vs h0 n0 Z0 B (by decide) (by rw [h4]; decide)) hZ (hw _ (List.mem_of_getElem? (i := 11) rfl)) (hw _ (List.mem_of_getElem? (i := 7) rfl)) (by decide) (by decide)) (g := (mkF m 31 #[.val (.ref ad), .val (.int bx), .val (.int fx), .val (.int tx)] [(.int (2 : Int32)), (.int tx), (.int fx), (.int bx), (.ref ad)])) rfl (by rw [hml]; rfl) (argsL := [(.ref ad), (.int bx), (.int fx), (.int tx), (.int (2 : Int32))]) (rest := []) (lenOf pd_lABBIIIrZ rfl) rfl (by show 2 * 0 + _ ≤ _; exact Nat.le_of_eq rfl) (hb hby d2_31) (fun _ _ => ⟨rfl, e6, (by decide : 0 + 0 ≤ _), (by decide : 0 + 0 ≤ _)⟩)
      dsimp only [Pt.U, Pt.locs, Pt.cells, Pt.slots] at X10 l10 y10 z10 st10 hQ10
      subst l10 y10 z10
      obtain ⟨rfl, N10q, e10⟩ := hQ10
      have N10 := Fr.app N6 N10q
      have P11 : Wy p.tables e below (s₁.setTop (entryFrame m #[(.ref ad), (.int bx), (.int fx), (.int tx)] 4)) (T10.setTop (mkF m 34 #[.val (.ref ad), .val (.int bx), .val (.int fx), .val (.int tx)] [(.int (own_hit vs bx fx tx (2 : Int32)))])) := fun t k => P9 t (st10 _ k)
      by_cases hc34_12 : (own_hit vs bx fx tx (2 : Int32)) = (0 : Int32)
      · have P13 : Wy p.tables e below (s₁.setTop (entryFrame m #[(.ref ad), (.int bx), (.int fx), (.int tx)] 4)) (T10.setTop (mkF m 44 #[.val (.ref ad), .val (.int bx), .val (.int fx), .val (.int tx)] [(.int (3 : Int32)), (.int tx), (.int fx), (.int bx), (.ref ad)])) := fun t k => P11 t (by
          show Steps p.tables e below (T10.setTop (mkF m 34 #[.val (.ref ad), .val (.int bx), .val (.int fx), .val (.int tx)] [(.int (own_hit vs bx fx tx (2 : Int32)))])) _
          refine XS.ifYes X10.here hx rfl (pc0 := 34) (pc' := 39) rfl (hb hby d2_34) rfl ((if0 _ _).trans (teq hc34_12).1) (by decide) (by decide) ?_
          show Steps p.tables e below (T10.setTop (mkF m 39 #[.val (.ref ad), .val (.int bx), .val (.int fx), .val (.int tx)] [])) _
          refine XS.aloadN X10.here hx rfl (hb hby d2_39) rfl rfl  ?_
          show Steps p.tables e below (T10.setTop (mkF m 40 #[.val (.ref ad), .val (.int bx), .val (.int fx), .val (.int tx)] [(.ref ad)])) _
          refine XS.iloadN X10.here hx rfl (hb hby d2_40) rfl  ?_
          show Steps p.tables e below (T10.setTop (mkF m 41 #[.val (.ref ad), .val (.int bx), .val (.int fx), .val (.int tx)] [(.int bx), (.ref ad)])) _
          refine XS.iloadN X10.here hx rfl (hb hby d2_41) rfl  ?_
          show Steps p.tables e below (T10.setTop (mkF m 42 #[.val (.ref ad), .val (.int bx), .val (.int fx), .val (.int tx)] [(.int fx), (.int bx), (.ref ad)])) _
          refine XS.iloadN X10.here hx rfl (hb hby d2_42) rfl  ?_
          show Steps p.tables e below (T10.setTop (mkF m 43 #[.val (.ref ad), .val (.int bx), .val (.int fx), .val (.int tx)] [(.int tx), (.int fx), (.int bx), (.ref ad)])) _
          refine XS.iconst X10.here hx rfl (hb hby d2_43) ?_
          exact k)
        obtain ⟨_, _, ⟨T14, L14, k14, n14⟩, -, X14, ⟨Lc14, hQ14, l14, y14, z14⟩, st14⟩ := Jvm.LawKit.callS X10 hx (y := (⟨"com/example/zbirka/zbirka/Iso2709ReaderIndexOfPinLaw", "hit", "([BBIII)Z"⟩ : MethodName)) hown (mvT hZ (hw _ (List.mem_of_getElem? (i := 9) rfl))) (mvT hZ (hw _ (List.mem_of_getElem? (i := 10) rfl))) (mvT hZ (hw _ (List.mem_of_getElem? (i := 7) rfl))) (mvT hZ (hw _ (List.mem_of_getElem? (i := 11) rfl))) (by decide) (backOf (W := 0) (rm3 l Z a0 hw [] ad bx fx tx (3 : Int32) vs h0 n0 Z0 B (by decide) (by rw [h4]; decide)) hZ (hw _ (List.mem_of_getElem? (i := 11) rfl)) (hw _ (List.mem_of_getElem? (i := 7) rfl)) (by decide) (by decide)) (g := (mkF m 44 #[.val (.ref ad), .val (.int bx), .val (.int fx), .val (.int tx)] [(.int (3 : Int32)), (.int tx), (.int fx), (.int bx), (.ref ad)])) rfl (by rw [hml]; rfl) (argsL := [(.ref ad), (.int bx), (.int fx), (.int tx), (.int (3 : Int32))]) (rest := []) (lenOf pd_lABBIIIrZ rfl) rfl (by show 2 * 0 + _ ≤ _; exact Nat.le_of_eq rfl) (hb hby d2_44) (fun _ _ => ⟨rfl, e10, (by decide : 0 + 0 ≤ _), (by decide : 0 + 0 ≤ _)⟩)
        dsimp only [Pt.U, Pt.locs, Pt.cells, Pt.slots] at X14 l14 y14 z14 st14 hQ14
        subst l14 y14 z14
        obtain ⟨rfl, N14q, e14⟩ := hQ14
        have N14 := Fr.app N10 N14q
        have P15 : Wy p.tables e below (s₁.setTop (entryFrame m #[(.ref ad), (.int bx), (.int fx), (.int tx)] 4)) (T14.setTop (mkF m 47 #[.val (.ref ad), .val (.int bx), .val (.int fx), .val (.int tx)] [(.int (own_hit vs bx fx tx (3 : Int32)))])) := fun t k => P13 t (st14 _ k)
        by_cases hc47_16 : (own_hit vs bx fx tx (3 : Int32)) = (0 : Int32)
        · have P17 : Wy p.tables e below (s₁.setTop (entryFrame m #[(.ref ad), (.int bx), (.int fx), (.int tx)] 4)) (T14.setTop (mkF m 53 #[.val (.ref ad), .val (.int bx), .val (.int fx), .val (.int tx)] [(.int tx)])) := fun t k => P15 t (by
            show Steps p.tables e below (T14.setTop (mkF m 47 #[.val (.ref ad), .val (.int bx), .val (.int fx), .val (.int tx)] [(.int (own_hit vs bx fx tx (3 : Int32)))])) _
            refine XS.ifYes X14.here hx rfl (pc0 := 47) (pc' := 52) rfl (hb hby d2_47) rfl ((if0 _ _).trans (teq hc47_16).1) (by decide) (by decide) ?_
            show Steps p.tables e below (T14.setTop (mkF m 52 #[.val (.ref ad), .val (.int bx), .val (.int fx), .val (.int tx)] [])) _
            refine XS.iloadN X14.here hx rfl (hb hby d2_52) rfl  ?_
            exact k)
          obtain ⟨fs, hr, hrun, hended, hW, hsame⟩ := X14.leave (v := some (.int tx)) (fun h => by rw [Bd.returns] at h; cases h)
          refine ⟨_, _, P17 _ ?_, hrun, hended, _, _, rfl, ?_, ⟨_, rfl⟩, hW, hsame.mono (by decide) (by decide)⟩
          · show Steps p.tables e below (T14.setTop (mkF m 53 #[.val (.ref ad), .val (.int bx), .val (.int fx), .val (.int tx)] [(.int tx)])) _
            exact retI X14 hx Bd.returns (hb hby d2_53) hr
          · show Q2 Z ad bx fx tx vs h0 n0 _ T14.heap _
            rw [e14]
            exact ⟨congrArg (fun z => some (Value.int z)) (show _ = own_ref vs bx fx tx from by simp only [own_ref, if_pos hc8_4, if_pos hc21_8, if_pos hc34_12, if_pos hc47_16]; try rfl), N14, rfl⟩
        · have P18 : Wy p.tables e below (s₁.setTop (entryFrame m #[(.ref ad), (.int bx), (.int fx), (.int tx)] 4)) (T14.setTop (mkF m 51 #[.val (.ref ad), .val (.int bx), .val (.int fx), .val (.int tx)] [(.int (3 : Int32))])) := fun t k => P15 t (by
            show Steps p.tables e below (T14.setTop (mkF m 47 #[.val (.ref ad), .val (.int bx), .val (.int fx), .val (.int tx)] [(.int (own_hit vs bx fx tx (3 : Int32)))])) _
            refine XS.ifNo X14.here hx rfl (hb hby d2_47) rfl ((if0 _ _).trans (feq hc47_16).1) ?_
            show Steps p.tables e below (T14.setTop (mkF m 50 #[.val (.ref ad), .val (.int bx), .val (.int fx), .val (.int tx)] [])) _
            refine XS.iconst X14.here hx rfl (hb hby d2_50) ?_
            exact k)
          obtain ⟨fs, hr, hrun, hended, hW, hsame⟩ := X14.leave (v := some (.int (3 : Int32))) (fun h => by rw [Bd.returns] at h; cases h)
          refine ⟨_, _, P18 _ ?_, hrun, hended, _, _, rfl, ?_, ⟨_, rfl⟩, hW, hsame.mono (by decide) (by decide)⟩
          · show Steps p.tables e below (T14.setTop (mkF m 51 #[.val (.ref ad), .val (.int bx), .val (.int fx), .val (.int tx)] [(.int (3 : Int32))])) _
            exact retI X14 hx Bd.returns (hb hby d2_51) hr
          · show Q2 Z ad bx fx tx vs h0 n0 _ T14.heap _
            rw [e14]
            exact ⟨congrArg (fun z => some (Value.int z)) (show _ = own_ref vs bx fx tx from by simp only [own_ref, if_pos hc8_4, if_pos hc21_8, if_pos hc34_12, if_neg hc47_16]; try rfl), N14, rfl⟩
      · have P19 : Wy p.tables e below (s₁.setTop (entryFrame m #[(.ref ad), (.int bx), (.int fx), (.int tx)] 4)) (T10.setTop (mkF m 38 #[.val (.ref ad), .val (.int bx), .val (.int fx), .val (.int tx)] [(.int (2 : Int32))])) := fun t k => P11 t (by
          show Steps p.tables e below (T10.setTop (mkF m 34 #[.val (.ref ad), .val (.int bx), .val (.int fx), .val (.int tx)] [(.int (own_hit vs bx fx tx (2 : Int32)))])) _
          refine XS.ifNo X10.here hx rfl (hb hby d2_34) rfl ((if0 _ _).trans (feq hc34_12).1) ?_
          show Steps p.tables e below (T10.setTop (mkF m 37 #[.val (.ref ad), .val (.int bx), .val (.int fx), .val (.int tx)] [])) _
          refine XS.iconst X10.here hx rfl (hb hby d2_37) ?_
          exact k)
        obtain ⟨fs, hr, hrun, hended, hW, hsame⟩ := X10.leave (v := some (.int (2 : Int32))) (fun h => by rw [Bd.returns] at h; cases h)
        refine ⟨_, _, P19 _ ?_, hrun, hended, _, _, rfl, ?_, ⟨_, rfl⟩, hW, hsame.mono (by decide) (by decide)⟩
        · show Steps p.tables e below (T10.setTop (mkF m 38 #[.val (.ref ad), .val (.int bx), .val (.int fx), .val (.int tx)] [(.int (2 : Int32))])) _
          exact retI X10 hx Bd.returns (hb hby d2_38) hr
        · show Q2 Z ad bx fx tx vs h0 n0 _ T10.heap _
          rw [e10]
          exact ⟨congrArg (fun z => some (Value.int z)) (show _ = own_ref vs bx fx tx from by simp only [own_ref, if_pos hc8_4, if_pos hc21_8, if_neg hc34_12]; try rfl), N10, rfl⟩
    · have P20 : Wy p.tables e below (s₁.setTop (entryFrame m #[(.ref ad), (.int bx), (.int fx), (.int tx)] 4)) (T6.setTop (mkF m 25 #[.val (.ref ad), .val (.int bx), .val (.int fx), .val (.int tx)] [(.int (1 : Int32))])) := fun t k => P7 t (by
        show Steps p.tables e below (T6.setTop (mkF m 21 #[.val (.ref ad), .val (.int bx), .val (.int fx), .val (.int tx)] [(.int (own_hit vs bx fx tx (1 : Int32)))])) _
        refine XS.ifNo X6.here hx rfl (hb hby d2_21) rfl ((if0 _ _).trans (feq hc21_8).1) ?_
        show Steps p.tables e below (T6.setTop (mkF m 24 #[.val (.ref ad), .val (.int bx), .val (.int fx), .val (.int tx)] [])) _
        refine XS.iconst X6.here hx rfl (hb hby d2_24) ?_
        exact k)
      obtain ⟨fs, hr, hrun, hended, hW, hsame⟩ := X6.leave (v := some (.int (1 : Int32))) (fun h => by rw [Bd.returns] at h; cases h)
      refine ⟨_, _, P20 _ ?_, hrun, hended, _, _, rfl, ?_, ⟨_, rfl⟩, hW, hsame.mono (by decide) (by decide)⟩
      · show Steps p.tables e below (T6.setTop (mkF m 25 #[.val (.ref ad), .val (.int bx), .val (.int fx), .val (.int tx)] [(.int (1 : Int32))])) _
        exact retI X6 hx Bd.returns (hb hby d2_25) hr
      · show Q2 Z ad bx fx tx vs h0 n0 _ T6.heap _
        rw [e6]
        exact ⟨congrArg (fun z => some (Value.int z)) (show _ = own_ref vs bx fx tx from by simp only [own_ref, if_pos hc8_4, if_neg hc21_8]; try rfl), N6, rfl⟩
  · have P21 : Wy p.tables e below (s₁.setTop (entryFrame m #[(.ref ad), (.int bx), (.int fx), (.int tx)] 4)) (T2.setTop (mkF m 12 #[.val (.ref ad), .val (.int bx), .val (.int fx), .val (.int tx)] [(.int (0 : Int32))])) := fun t k => P3 t (by
      show Steps p.tables e below (T2.setTop (mkF m 8 #[.val (.ref ad), .val (.int bx), .val (.int fx), .val (.int tx)] [(.int (own_hit vs bx fx tx (0 : Int32)))])) _
      refine XS.ifNo X2.here hx rfl (hb hby d2_8) rfl ((if0 _ _).trans (feq hc8_4).1) ?_
      show Steps p.tables e below (T2.setTop (mkF m 11 #[.val (.ref ad), .val (.int bx), .val (.int fx), .val (.int tx)] [])) _
      refine XS.iconst X2.here hx rfl (hb hby d2_11) ?_
      exact k)
    obtain ⟨fs, hr, hrun, hended, hW, hsame⟩ := X2.leave (v := some (.int (0 : Int32))) (fun h => by rw [Bd.returns] at h; cases h)
    refine ⟨_, _, P21 _ ?_, hrun, hended, _, _, rfl, ?_, ⟨_, rfl⟩, hW, hsame.mono (by decide) (by decide)⟩
    · show Steps p.tables e below (T2.setTop (mkF m 12 #[.val (.ref ad), .val (.int bx), .val (.int fx), .val (.int tx)] [(.int (0 : Int32))])) _
      exact retI X2 hx Bd.returns (hb hby d2_12) hr
    · show Q2 Z ad bx fx tx vs h0 n0 _ T2.heap _
      rw [e2]
      exact ⟨congrArg (fun z => some (Value.int z)) (show _ = own_ref vs bx fx tx from by simp only [own_ref, if_neg hc8_4]; try rfl), N2, rfl⟩
def own_Rb (e : Nat → Bool) (t : Nat) : Nat → Nat → Nat
  | 0, _ => t
  | k + 1, i => if e i = true then i else own_Rb e t k (i + 1)
theorem own_R_b (vs : List Int32) (b : Int32) (t k i : Nat) : own_R vs b t k i = own_Rb (fun i => decide (vs.getD i 0 = b)) t k i := by
  induction k generalizing i with
  | zero => rfl
  | succ k ih => simp only [own_R, own_Rb, ih, decide_eq_true_eq]
def own_hb (e : Nat → Bool) (f t i : Nat) : Bool := decide (f ≤ i) && (decide (i < t) && e i)
theorem own_hit_b (vs : List Int32) (b : Int32) (f t i : Nat) (hf : f ≤ 4) (ht : t ≤ 4) (hi : i < 4) :
    own_hit vs b (Int32.ofNat f) (Int32.ofNat t) (Int32.ofNat i) = 0 ↔ own_hb (fun i => decide (vs.getD i 0 = b)) f t i = false := by
  unfold own_hit own_hb
  simp only [own_ltN (i := i) (t := f) (by omega) (by omega), own_ltN (i := i) (t := t) (by omega) (by omega), own_ofC (n := i) (by omega)]
  by_cases h1 : i < f
  · simp [h1, show ¬ f ≤ i by omega]
  · by_cases h2 : i < t
    · by_cases h3 : vs.getD i 0 = b
      · simp only [if_neg h1, if_pos h2, if_pos h3, h3, h2, show f ≤ i by omega, decide_true, Bool.and_true]
        decide
      · simp only [if_neg h1, if_pos h2, if_neg h3, h3, decide_false, Bool.and_false, if_false]
    · simp [h1, h2]
def own_fb (e : Nat → Bool) (f t : Nat) : Nat := if own_hb e f t 0 = false then (if own_hb e f t 1 = false then (if own_hb e f t 2 = false then (if own_hb e f t 3 = false then t else 3) else 2) else 1) else 0
theorem own_ref_b (vs : List Int32) (b : Int32) (f t : Nat) (hf : f ≤ 4) (ht : t ≤ 4) : own_ref vs b (Int32.ofNat f) (Int32.ofNat t) = Int32.ofNat (own_fb (fun i => decide (vs.getD i 0 = b)) f t) := by
  have h (i : Nat) (hi : i < 4) := own_hit_b vs b f t i hf ht hi
  unfold own_ref own_fb
  have h0 : own_hit vs b (Int32.ofNat f) (Int32.ofNat t) (0 : Int32) = 0 ↔ _ := h 0 (by decide)
  have h1 : own_hit vs b (Int32.ofNat f) (Int32.ofNat t) (1 : Int32) = 0 ↔ _ := h 1 (by decide)
  have h2 : own_hit vs b (Int32.ofNat f) (Int32.ofNat t) (2 : Int32) = 0 ↔ _ := h 2 (by decide)
  have h3 : own_hit vs b (Int32.ofNat f) (Int32.ofNat t) (3 : Int32) = 0 ↔ _ := h 3 (by decide)
  simp only [h0, h1, h2, h3]
  split
  · split
    · split
      · split <;> rfl
      · rfl
    · rfl
  · rfl
def own_e4 (a b c d : Bool) : Nat → Bool
  | 0 => a
  | 1 => b
  | 2 => c
  | 3 => d
  | _ => false
theorem own_key : ∀ (a b c d : Bool) (f t : Fin 5), own_Rb (own_e4 a b c d) t.val (t.val - f.val) f.val = own_fb (own_e4 a b c d) f.val t.val := by decide +kernel
theorem own_Rb_c (e e' : Nat → Bool) (t k i : Nat) (h : ∀ j, j < i + k → e j = e' j) : own_Rb e t k i = own_Rb e' t k i := by
  induction k generalizing i with
  | zero => rfl
  | succ k ih => simp only [own_Rb, h i (by omega)]; rw [ih (i + 1) (fun j hj => h j (by omega))]
theorem own_law {lv : List Int32} {f t : Nat} {fx tx : Int32} (b : Int32) (hl : lv.length = 4) (hf : f ≤ 4) (ht : t ≤ 4) (hfx : fx = Int32.ofNat f) (htx : tx = Int32.ofNat t) :
    Int32.ofNat (own_R lv b t (t - f) f) = own_ref lv b fx tx := by
  subst hfx htx
  rw [own_ref_b lv b f t hf ht, own_R_b]
  congr 1
  have q := own_key (decide (lv.getD 0 0 = b)) (decide (lv.getD 1 0 = b)) (decide (lv.getD 2 0 = b)) (decide (lv.getD 3 0 = b)) ⟨f, by omega⟩ ⟨t, by omega⟩
  simp only at q
  by_cases h : t ≤ f
  · rw [show t - f = 0 by omega] at q ⊢
    exact q
  · rw [own_Rb_c _ (own_e4 (decide (lv.getD 0 0 = b)) (decide (lv.getD 1 0 = b)) (decide (lv.getD 2 0 = b)) (decide (lv.getD 3 0 = b))) t (t - f) f (fun j hj => ?_), q]
    · rfl
    · match j, (show j < 4 by omega) with
      | 0, _ => rfl
      | 1, _ => rfl
      | 2, _ => rfl
      | 3, _ => rfl
theorem own_rng {x v : Int32} (hv : v = ((x &&& (255 : Int32)) - ((x &&& (255 : Int32)) / (5 : Int32)) * (5 : Int32))) : ∃ n : Nat, n ≤ 4 ∧ v = Int32.ofNat n := by
  have h1 := c_and x 255 (by decide)
  have h2 := own_rem (x &&& 255) 5 h1.1 (by decide)
  rw [← hv, show (5 : Int32).toInt = 5 from rfl] at h2
  exact ⟨v.toInt.toNat, by omega, own_nat (by omega)⟩
theorem own_rng2 {x v : Int32} (hv : v = (((x.toUInt32 >>> ((8 : Int32) &&& 31).toUInt32).toInt32 &&& (255 : Int32)) - (((x.toUInt32 >>> ((8 : Int32) &&& 31).toUInt32).toInt32 &&& (255 : Int32)) / (5 : Int32)) * (5 : Int32))) : ∃ n : Nat, n ≤ 4 ∧ v = Int32.ofNat n := own_rng hv

theorem pd_lABBIIrI : parseMethodDescriptor "([BBII)I" = some ⟨[(.array .byte), .byte, .int, .int], some .int⟩ := by decide +kernel
theorem ef_rm0 (m : MethodId) (ax : Int32) (bx : Int32) (cx : Int32) (dx : Int32)  : entryFrame m #[(.int ax), (.int bx), (.int cx), (.int dx)] maxLocals = (mkF m 0 #[.val (.int ax), .val (.int bx), .val (.int cx), .val (.int dx), .unset, .unset, .unset, .unset, .unset] []) := by first | (simp [entryFrame, mkF, argsToLocals, Value.category, maxLocals]; done) | rfl
def Q0 (Z : State) (ax bx cx dx : Int32) (h0 : Heap) (n0 : Nat) (v : Option Value) (h : Heap) (L : List Loc) : Prop := v = some (.int 1) ∧ Fr n0 L
set_option maxRecDepth 65536 in
set_option maxHeartbeats 40000000 in
theorem rm0 (l : Launch) (Z : State) (a0 : Array Value) (hw : ∀ d ∈ tables_1, d.before a0 Z = true) (ws : List Jvm.Cond) (ax bx cx dx : Int32) (h0 : Heap) (n0 : Nat) (Z0 : n0 ≤ h0.size)  :
    MetFree l x (head1 (Jvm.Cond.code x code maxLocals ret :: ws) room_1) (fun a U => a = #[(.int ax), (.int bx), (.int cx), (.int dx)] ∧ Z.Warmed39 U.vm ∧ U.heap = h0) (fun _ _ _ _ _ => True) (fun _ U o U' => ∃ v L, o = .returned v ∧ Q0 Z ax bx cx dx h0 n0 v U'.heap L ∧ FrameEnd U o U' L room_1.cells room_1.slots) := by
  refine MetFree.of_bodySF (plainFor_of_name pn_com_example_zbirka_zbirka_Iso2709ReaderIndexOfPinLaw) hisR ?_
  intro p e s m args below meth c s₁ Bd hml0 hP hK
  obtain ⟨rfl, hZ, hh⟩ := hP
  have hx := Bd.exec
  have hby := Bd.bytes
  have hml : c.maxLocals = 9 := hml0
  have hown : s.vm.findClass "com/example/zbirka/zbirka/Iso2709ReaderIndexOfPinLaw" = some m.cls := by have q := findClass_of_methodNamed Bd.named; exact q
  have hnm := (name_of_methodNamed Bd.named Bd.method).1
  have X0 : Stand p l e room_1 s m #[(.int ax), (.int bx), (.int cx), (.int dx)] below meth c s₁ [] 0 0 := Stand.of_body Bd
  have e0 : s₁.heap = h0 := by rw [← hh, Bd.state]; rfl
  have N0 := Fr.nil n0
  have P0 : Wy p.tables e below (s₁.setTop (entryFrame m #[(.int ax), (.int bx), (.int cx), (.int dx)] maxLocals)) (s₁.setTop (mkF m 0 #[.val (.int ax), .val (.int bx), .val (.int cx), .val (.int dx), .unset, .unset, .unset, .unset, .unset] [])) := fun t k => castTop (ef_rm0 m ax bx cx dx) k
  have P1 : Wy p.tables e below (s₁.setTop (entryFrame m #[(.int ax), (.int bx), (.int cx), (.int dx)] maxLocals)) (s₁.setTop (mkF m 4 #[.val (.int ax), .val (.int bx), .val (.int cx), .val (.int dx), .val (.int (bx.toInt8.toInt32)), .unset, .unset, .unset, .unset] [])) := fun t k => P0 t (by
    show Steps p.tables e below (s₁.setTop (mkF m 0 #[.val (.int ax), .val (.int bx), .val (.int cx), .val (.int dx), .unset, .unset, .unset, .unset, .unset] [])) _
    refine XS.iloadN X0.here hx rfl (hb hby at_0) rfl  ?_
    show Steps p.tables e below (s₁.setTop (mkF m 1 #[.val (.int ax), .val (.int bx), .val (.int cx), .val (.int dx), .unset, .unset, .unset, .unset, .unset] [(.int bx)])) _
    refine XS.i2b X0.here hx rfl (hb hby at_1) rfl ?_
    show Steps p.tables e below (s₁.setTop (mkF m 2 #[.val (.int ax), .val (.int bx), .val (.int cx), .val (.int dx), .unset, .unset, .unset, .unset, .unset] [(.int (bx.toInt8.toInt32))])) _
    refine XS.istore X0.here hx rfl (hb hby at_2) rfl (l' := #[.val (.int ax), .val (.int bx), .val (.int cx), .val (.int dx), .val (.int (bx.toInt8.toInt32)), .unset, .unset, .unset, .unset]) rfl ?_
    exact k)
  obtain ⟨v2, hv2⟩ : ∃ z : Int32, z = (bx.toInt8.toInt32) := ⟨_, rfl⟩
  have P3 : Wy p.tables e below (s₁.setTop (entryFrame m #[(.int ax), (.int bx), (.int cx), (.int dx)] maxLocals)) (s₁.setTop (mkF m 4 #[.val (.int ax), .val (.int bx), .val (.int cx), .val (.int dx), .val (.int v2), .unset, .unset, .unset, .unset] [])) := fun t k => by subst hv2; exact P1 t k
  have P4 : Wy p.tables e below (s₁.setTop (entryFrame m #[(.int ax), (.int bx), (.int cx), (.int dx)] maxLocals)) (s₁.setTop (mkF m 5 #[.val (.int ax), .val (.int bx), .val (.int cx), .val (.int dx), .val (.int v2), .unset, .unset, .unset, .unset] [(.int (4 : Int32))])) := fun t k => P3 t (by
    show Steps p.tables e below (s₁.setTop (mkF m 4 #[.val (.int ax), .val (.int bx), .val (.int cx), .val (.int dx), .val (.int v2), .unset, .unset, .unset, .unset] [])) _
    refine XS.iconst X0.here hx rfl (hb hby at_4) ?_
    exact k)
  obtain ⟨T5, h5, k5, X5, e5, E5, A5, st5⟩ := newP X0 hx hZ (hw _ (List.mem_of_getElem? (i := 0) rfl)) e0 (g := (mkF m 5 #[.val (.int ax), .val (.int bx), .val (.int cx), .val (.int dx), .val (.int v2), .unset, .unset, .unset, .unset] [(.int (4 : Int32))])) rfl (hb hby at_5) rfl (by decide) (cap := 4) (by decide) (by decide) (by decide) (by decide)
  obtain ⟨b5, g5⟩ : ∃ z, z = h0.size := ⟨_, rfl⟩
  rw [← g5] at A5 st5
  have g_b5 : n0 ≤ b5 := Nat.le_trans Z0 (Nat.le_of_eq g5.symm)
  have z5 : n0 ≤ h5.size := Nat.le_trans Z0 E5.1
  have V5 : Arv Z h5 b5 k5 .byte (4 : Int32) [(.int (0 : Int32)), (.int (0 : Int32)), (.int (0 : Int32)), (.int (0 : Int32))] (.int (0 : Int32)) := (Arv.new A5 (by decide)).pad (pad_rep [] (.int (0 : Int32)) 4)
  have P6 : Wy p.tables e below (s₁.setTop (entryFrame m #[(.int ax), (.int bx), (.int cx), (.int dx)] maxLocals)) (T5.setTop (mkF m 7 #[.val (.int ax), .val (.int bx), .val (.int cx), .val (.int dx), .val (.int v2), .unset, .unset, .unset, .unset] [(.ref b5)])) := fun t k => P4 t (st5 _ k)
  have P7 : Wy p.tables e below (s₁.setTop (entryFrame m #[(.int ax), (.int bx), (.int cx), (.int dx)] maxLocals)) (T5.setTop (mkF m 12 #[.val (.int ax), .val (.int bx), .val (.int cx), .val (.int dx), .val (.int v2), .val (.ref b5), .unset, .unset, .unset] [(.int (0 : Int32)), (.ref b5)])) := fun t k => P6 t (by
    show Steps p.tables e below (T5.setTop (mkF m 7 #[.val (.int ax), .val (.int bx), .val (.int cx), .val (.int dx), .val (.int v2), .unset, .unset, .unset, .unset] [(.ref b5)])) _
    refine XS.astore X5.here hx rfl (hb hby at_7) rfl rfl (l' := #[.val (.int ax), .val (.int bx), .val (.int cx), .val (.int dx), .val (.int v2), .val (.ref b5), .unset, .unset, .unset]) rfl ?_
    show Steps p.tables e below (T5.setTop (mkF m 9 #[.val (.int ax), .val (.int bx), .val (.int cx), .val (.int dx), .val (.int v2), .val (.ref b5), .unset, .unset, .unset] [])) _
    refine XS.aload X5.here hx rfl (hb hby at_9) rfl rfl  ?_
    show Steps p.tables e below (T5.setTop (mkF m 11 #[.val (.int ax), .val (.int bx), .val (.int cx), .val (.int dx), .val (.int v2), .val (.ref b5), .unset, .unset, .unset] [(.ref b5)])) _
    refine XS.iconst X5.here hx rfl (hb hby at_11) ?_
    exact k)
  obtain ⟨r12, hr12, P13⟩ : ∃ r12 : Int32, r12 = (if (cx &&& (1 : Int32)) = (0 : Int32) then (ax.toInt8.toInt32) else v2) ∧ Wy p.tables e below (s₁.setTop (entryFrame m #[(.int ax), (.int bx), (.int cx), (.int dx)] maxLocals)) (T5.setTop (mkF m 25 #[.val (.int ax), .val (.int bx), .val (.int cx), .val (.int dx), .val (.int v2), .val (.ref b5), .unset, .unset, .unset] [(.int r12), (.int (0 : Int32)), (.ref b5)])) := by
    have P14 : Wy p.tables e below (s₁.setTop (entryFrame m #[(.int ax), (.int bx), (.int cx), (.int dx)] maxLocals)) (T5.setTop (mkF m 15 #[.val (.int ax), .val (.int bx), .val (.int cx), .val (.int dx), .val (.int v2), .val (.ref b5), .unset, .unset, .unset] [(.int (cx &&& (1 : Int32))), (.int (0 : Int32)), (.ref b5)])) := fun t k => P7 t (by
      show Steps p.tables e below (T5.setTop (mkF m 12 #[.val (.int ax), .val (.int bx), .val (.int cx), .val (.int dx), .val (.int v2), .val (.ref b5), .unset, .unset, .unset] [(.int (0 : Int32)), (.ref b5)])) _
      refine XS.iloadN X5.here hx rfl (hb hby at_12) rfl  ?_
      show Steps p.tables e below (T5.setTop (mkF m 13 #[.val (.int ax), .val (.int bx), .val (.int cx), .val (.int dx), .val (.int v2), .val (.ref b5), .unset, .unset, .unset] [(.int cx), (.int (0 : Int32)), (.ref b5)])) _
      refine XS.iconst X5.here hx rfl (hb hby at_13) ?_
      show Steps p.tables e below (T5.setTop (mkF m 14 #[.val (.int ax), .val (.int bx), .val (.int cx), .val (.int dx), .val (.int v2), .val (.ref b5), .unset, .unset, .unset] [(.int (1 : Int32)), (.int cx), (.int (0 : Int32)), (.ref b5)])) _
      refine XS.iand X5.here hx rfl (hb hby at_14) rfl ?_
      exact k)
    by_cases hc15_15 : (cx &&& (1 : Int32)) = (0 : Int32)
    · have P16 : Wy p.tables e below (s₁.setTop (entryFrame m #[(.int ax), (.int bx), (.int cx), (.int dx)] maxLocals)) (T5.setTop (mkF m 25 #[.val (.int ax), .val (.int bx), .val (.int cx), .val (.int dx), .val (.int v2), .val (.ref b5), .unset, .unset, .unset] [(.int (ax.toInt8.toInt32)), (.int (0 : Int32)), (.ref b5)])) := fun t k => P14 t (by
        show Steps p.tables e below (T5.setTop (mkF m 15 #[.val (.int ax), .val (.int bx), .val (.int cx), .val (.int dx), .val (.int v2), .val (.ref b5), .unset, .unset, .unset] [(.int (cx &&& (1 : Int32))), (.int (0 : Int32)), (.ref b5)])) _
        refine XS.ifYes X5.here hx rfl (pc0 := 15) (pc' := 23) rfl (hb hby at_15) rfl ((if0 _ _).trans (teq hc15_15).1) (by decide) (by decide) ?_
        show Steps p.tables e below (T5.setTop (mkF m 23 #[.val (.int ax), .val (.int bx), .val (.int cx), .val (.int dx), .val (.int v2), .val (.ref b5), .unset, .unset, .unset] [(.int (0 : Int32)), (.ref b5)])) _
        refine XS.iloadN X5.here hx rfl (hb hby at_23) rfl  ?_
        show Steps p.tables e below (T5.setTop (mkF m 24 #[.val (.int ax), .val (.int bx), .val (.int cx), .val (.int dx), .val (.int v2), .val (.ref b5), .unset, .unset, .unset] [(.int ax), (.int (0 : Int32)), (.ref b5)])) _
        refine XS.i2b X5.here hx rfl (hb hby at_24) rfl ?_
        exact k)
      exact ⟨(ax.toInt8.toInt32), (by simp only [if_pos hc15_15]), P16⟩
    · have P17 : Wy p.tables e below (s₁.setTop (entryFrame m #[(.int ax), (.int bx), (.int cx), (.int dx)] maxLocals)) (T5.setTop (mkF m 25 #[.val (.int ax), .val (.int bx), .val (.int cx), .val (.int dx), .val (.int v2), .val (.ref b5), .unset, .unset, .unset] [(.int v2), (.int (0 : Int32)), (.ref b5)])) := fun t k => P14 t (by
        show Steps p.tables e below (T5.setTop (mkF m 15 #[.val (.int ax), .val (.int bx), .val (.int cx), .val (.int dx), .val (.int v2), .val (.ref b5), .unset, .unset, .unset] [(.int (cx &&& (1 : Int32))), (.int (0 : Int32)), (.ref b5)])) _
        refine XS.ifNo X5.here hx rfl (hb hby at_15) rfl ((if0 _ _).trans (feq hc15_15).1) ?_
        show Steps p.tables e below (T5.setTop (mkF m 18 #[.val (.int ax), .val (.int bx), .val (.int cx), .val (.int dx), .val (.int v2), .val (.ref b5), .unset, .unset, .unset] [(.int (0 : Int32)), (.ref b5)])) _
        refine XS.iload X5.here hx rfl (hb hby at_18) rfl  ?_
        show Steps p.tables e below (T5.setTop (mkF m 20 #[.val (.int ax), .val (.int bx), .val (.int cx), .val (.int dx), .val (.int v2), .val (.ref b5), .unset, .unset, .unset] [(.int v2), (.int (0 : Int32)), (.ref b5)])) _
        refine XS.goto X5.here hx rfl (pc0 := 20) (pc' := 25) rfl (hb hby at_20) (by decide) (by decide) ?_
        exact k)
      exact ⟨v2, (by simp only [if_neg hc15_15]), P17⟩
  obtain ⟨cl18, Ar18, q18, S18, M18, H18, G18⟩ := id V5
  obtain ⟨T18, h18, X18, e18, W18, st18⟩ := stB X5 hx hZ e5 Ar18 (j := (0 : Int32)) (inb_of S18 ⟨by decide, by decide⟩) (g := (mkF m 25 #[.val (.int ax), .val (.int bx), .val (.int cx), .val (.int dx), .val (.int v2), .val (.ref b5), .unset, .unset, .unset] [(.int r12), (.int (0 : Int32)), (.ref b5)])) rfl rfl (hb hby at_25)
  have V18 : Arv Z h18 b5 k5 .byte (4 : Int32) [(.int (r12.toInt8.toInt32)), (.int (0 : Int32)), (.int (0 : Int32)), (.int (0 : Int32))] (.int (0 : Int32)) := Arv.set Ar18 q18 S18 M18 H18 G18 (fits_nar_byte _) W18 0 rfl (Nat.le_of_ble_eq_true rfl)
  have N18 := Fr.snoc X18 N0 g_b5
  have z18 : n0 ≤ h18.size := Nat.le_trans z5 (Keep.of_wr W18).1
  have P19 : Wy p.tables e below (s₁.setTop (entryFrame m #[(.int ax), (.int bx), (.int cx), (.int dx)] maxLocals)) (T18.setTop (mkF m 26 #[.val (.int ax), .val (.int bx), .val (.int cx), .val (.int dx), .val (.int v2), .val (.ref b5), .unset, .unset, .unset] [])) := fun t k => P13 t (st18 _ k)
  have P20 : Wy p.tables e below (s₁.setTop (entryFrame m #[(.int ax), (.int bx), (.int cx), (.int dx)] maxLocals)) (T18.setTop (mkF m 29 #[.val (.int ax), .val (.int bx), .val (.int cx), .val (.int dx), .val (.int v2), .val (.ref b5), .unset, .unset, .unset] [(.int (1 : Int32)), (.ref b5)])) := fun t k => P19 t (by
    show Steps p.tables e below (T18.setTop (mkF m 26 #[.val (.int ax), .val (.int bx), .val (.int cx), .val (.int dx), .val (.int v2), .val (.ref b5), .unset, .unset, .unset] [])) _
    refine XS.aload X18.here hx rfl (hb hby at_26) rfl rfl  ?_
    show Steps p.tables e below (T18.setTop (mkF m 28 #[.val (.int ax), .val (.int bx), .val (.int cx), .val (.int dx), .val (.int v2), .val (.ref b5), .unset, .unset, .unset] [(.ref b5)])) _
    refine XS.iconst X18.here hx rfl (hb hby at_28) ?_
    exact k)
  obtain ⟨r25, hr25, P26⟩ : ∃ r25 : Int32, r25 = (if (cx &&& (2 : Int32)) = (0 : Int32) then ((ax >>> ((8 : Int32) &&& 31)).toInt8.toInt32) else v2) ∧ Wy p.tables e below (s₁.setTop (entryFrame m #[(.int ax), (.int bx), (.int cx), (.int dx)] maxLocals)) (T18.setTop (mkF m 45 #[.val (.int ax), .val (.int bx), .val (.int cx), .val (.int dx), .val (.int v2), .val (.ref b5), .unset, .unset, .unset] [(.int r25), (.int (1 : Int32)), (.ref b5)])) := by
    have P27 : Wy p.tables e below (s₁.setTop (entryFrame m #[(.int ax), (.int bx), (.int cx), (.int dx)] maxLocals)) (T18.setTop (mkF m 32 #[.val (.int ax), .val (.int bx), .val (.int cx), .val (.int dx), .val (.int v2), .val (.ref b5), .unset, .unset, .unset] [(.int (cx &&& (2 : Int32))), (.int (1 : Int32)), (.ref b5)])) := fun t k => P20 t (by
      show Steps p.tables e below (T18.setTop (mkF m 29 #[.val (.int ax), .val (.int bx), .val (.int cx), .val (.int dx), .val (.int v2), .val (.ref b5), .unset, .unset, .unset] [(.int (1 : Int32)), (.ref b5)])) _
      refine XS.iloadN X18.here hx rfl (hb hby at_29) rfl  ?_
      show Steps p.tables e below (T18.setTop (mkF m 30 #[.val (.int ax), .val (.int bx), .val (.int cx), .val (.int dx), .val (.int v2), .val (.ref b5), .unset, .unset, .unset] [(.int cx), (.int (1 : Int32)), (.ref b5)])) _
      refine XS.iconst X18.here hx rfl (hb hby at_30) ?_
      show Steps p.tables e below (T18.setTop (mkF m 31 #[.val (.int ax), .val (.int bx), .val (.int cx), .val (.int dx), .val (.int v2), .val (.ref b5), .unset, .unset, .unset] [(.int (2 : Int32)), (.int cx), (.int (1 : Int32)), (.ref b5)])) _
      refine XS.iand X18.here hx rfl (hb hby at_31) rfl ?_
      exact k)
    by_cases hc32_28 : (cx &&& (2 : Int32)) = (0 : Int32)
    · have P29 : Wy p.tables e below (s₁.setTop (entryFrame m #[(.int ax), (.int bx), (.int cx), (.int dx)] maxLocals)) (T18.setTop (mkF m 45 #[.val (.int ax), .val (.int bx), .val (.int cx), .val (.int dx), .val (.int v2), .val (.ref b5), .unset, .unset, .unset] [(.int ((ax >>> ((8 : Int32) &&& 31)).toInt8.toInt32)), (.int (1 : Int32)), (.ref b5)])) := fun t k => P27 t (by
        show Steps p.tables e below (T18.setTop (mkF m 32 #[.val (.int ax), .val (.int bx), .val (.int cx), .val (.int dx), .val (.int v2), .val (.ref b5), .unset, .unset, .unset] [(.int (cx &&& (2 : Int32))), (.int (1 : Int32)), (.ref b5)])) _
        refine XS.ifYes X18.here hx rfl (pc0 := 32) (pc' := 40) rfl (hb hby at_32) rfl ((if0 _ _).trans (teq hc32_28).1) (by decide) (by decide) ?_
        show Steps p.tables e below (T18.setTop (mkF m 40 #[.val (.int ax), .val (.int bx), .val (.int cx), .val (.int dx), .val (.int v2), .val (.ref b5), .unset, .unset, .unset] [(.int (1 : Int32)), (.ref b5)])) _
        refine XS.iloadN X18.here hx rfl (hb hby at_40) rfl  ?_
        show Steps p.tables e below (T18.setTop (mkF m 41 #[.val (.int ax), .val (.int bx), .val (.int cx), .val (.int dx), .val (.int v2), .val (.ref b5), .unset, .unset, .unset] [(.int ax), (.int (1 : Int32)), (.ref b5)])) _
        refine XS.bipush X18.here hx rfl (hb hby at_41) ?_
        show Steps p.tables e below (T18.setTop (mkF m 43 #[.val (.int ax), .val (.int bx), .val (.int cx), .val (.int dx), .val (.int v2), .val (.ref b5), .unset, .unset, .unset] [(.int (8 : Int32)), (.int ax), (.int (1 : Int32)), (.ref b5)])) _
        refine XS.ishr X18.here hx rfl (hb hby at_43) rfl ?_
        show Steps p.tables e below (T18.setTop (mkF m 44 #[.val (.int ax), .val (.int bx), .val (.int cx), .val (.int dx), .val (.int v2), .val (.ref b5), .unset, .unset, .unset] [(.int (ax >>> ((8 : Int32) &&& 31))), (.int (1 : Int32)), (.ref b5)])) _
        refine XS.i2b X18.here hx rfl (hb hby at_44) rfl ?_
        exact k)
      exact ⟨((ax >>> ((8 : Int32) &&& 31)).toInt8.toInt32), (by simp only [if_pos hc32_28]), P29⟩
    · have P30 : Wy p.tables e below (s₁.setTop (entryFrame m #[(.int ax), (.int bx), (.int cx), (.int dx)] maxLocals)) (T18.setTop (mkF m 45 #[.val (.int ax), .val (.int bx), .val (.int cx), .val (.int dx), .val (.int v2), .val (.ref b5), .unset, .unset, .unset] [(.int v2), (.int (1 : Int32)), (.ref b5)])) := fun t k => P27 t (by
        show Steps p.tables e below (T18.setTop (mkF m 32 #[.val (.int ax), .val (.int bx), .val (.int cx), .val (.int dx), .val (.int v2), .val (.ref b5), .unset, .unset, .unset] [(.int (cx &&& (2 : Int32))), (.int (1 : Int32)), (.ref b5)])) _
        refine XS.ifNo X18.here hx rfl (hb hby at_32) rfl ((if0 _ _).trans (feq hc32_28).1) ?_
        show Steps p.tables e below (T18.setTop (mkF m 35 #[.val (.int ax), .val (.int bx), .val (.int cx), .val (.int dx), .val (.int v2), .val (.ref b5), .unset, .unset, .unset] [(.int (1 : Int32)), (.ref b5)])) _
        refine XS.iload X18.here hx rfl (hb hby at_35) rfl  ?_
        show Steps p.tables e below (T18.setTop (mkF m 37 #[.val (.int ax), .val (.int bx), .val (.int cx), .val (.int dx), .val (.int v2), .val (.ref b5), .unset, .unset, .unset] [(.int v2), (.int (1 : Int32)), (.ref b5)])) _
        refine XS.goto X18.here hx rfl (pc0 := 37) (pc' := 45) rfl (hb hby at_37) (by decide) (by decide) ?_
        exact k)
      exact ⟨v2, (by simp only [if_neg hc32_28]), P30⟩
  obtain ⟨cl31, Ar31, q31, S31, M31, H31, G31⟩ := id V18
  obtain ⟨T31, h31, X31, e31, W31, st31⟩ := stB X18 hx hZ e18 Ar31 (j := (1 : Int32)) (inb_of S31 ⟨by decide, by decide⟩) (g := (mkF m 45 #[.val (.int ax), .val (.int bx), .val (.int cx), .val (.int dx), .val (.int v2), .val (.ref b5), .unset, .unset, .unset] [(.int r25), (.int (1 : Int32)), (.ref b5)])) rfl rfl (hb hby at_45)
  have V31 : Arv Z h31 b5 k5 .byte (4 : Int32) [(.int (r12.toInt8.toInt32)), (.int (r25.toInt8.toInt32)), (.int (0 : Int32)), (.int (0 : Int32))] (.int (0 : Int32)) := Arv.set Ar31 q31 S31 M31 H31 G31 (fits_nar_byte _) W31 1 rfl (Nat.le_of_ble_eq_true rfl)
  have N31 := Fr.snoc X31 N18 g_b5
  have z31 : n0 ≤ h31.size := Nat.le_trans z18 (Keep.of_wr W31).1
  have P32 : Wy p.tables e below (s₁.setTop (entryFrame m #[(.int ax), (.int bx), (.int cx), (.int dx)] maxLocals)) (T31.setTop (mkF m 46 #[.val (.int ax), .val (.int bx), .val (.int cx), .val (.int dx), .val (.int v2), .val (.ref b5), .unset, .unset, .unset] [])) := fun t k => P26 t (st31 _ k)
  have P33 : Wy p.tables e below (s₁.setTop (entryFrame m #[(.int ax), (.int bx), (.int cx), (.int dx)] maxLocals)) (T31.setTop (mkF m 49 #[.val (.int ax), .val (.int bx), .val (.int cx), .val (.int dx), .val (.int v2), .val (.ref b5), .unset, .unset, .unset] [(.int (2 : Int32)), (.ref b5)])) := fun t k => P32 t (by
    show Steps p.tables e below (T31.setTop (mkF m 46 #[.val (.int ax), .val (.int bx), .val (.int cx), .val (.int dx), .val (.int v2), .val (.ref b5), .unset, .unset, .unset] [])) _
    refine XS.aload X31.here hx rfl (hb hby at_46) rfl rfl  ?_
    show Steps p.tables e below (T31.setTop (mkF m 48 #[.val (.int ax), .val (.int bx), .val (.int cx), .val (.int dx), .val (.int v2), .val (.ref b5), .unset, .unset, .unset] [(.ref b5)])) _
    refine XS.iconst X31.here hx rfl (hb hby at_48) ?_
    exact k)
  obtain ⟨r38, hr38, P39⟩ : ∃ r38 : Int32, r38 = (if (cx &&& (4 : Int32)) = (0 : Int32) then ((ax >>> ((16 : Int32) &&& 31)).toInt8.toInt32) else v2) ∧ Wy p.tables e below (s₁.setTop (entryFrame m #[(.int ax), (.int bx), (.int cx), (.int dx)] maxLocals)) (T31.setTop (mkF m 65 #[.val (.int ax), .val (.int bx), .val (.int cx), .val (.int dx), .val (.int v2), .val (.ref b5), .unset, .unset, .unset] [(.int r38), (.int (2 : Int32)), (.ref b5)])) := by
    have P40 : Wy p.tables e below (s₁.setTop (entryFrame m #[(.int ax), (.int bx), (.int cx), (.int dx)] maxLocals)) (T31.setTop (mkF m 52 #[.val (.int ax), .val (.int bx), .val (.int cx), .val (.int dx), .val (.int v2), .val (.ref b5), .unset, .unset, .unset] [(.int (cx &&& (4 : Int32))), (.int (2 : Int32)), (.ref b5)])) := fun t k => P33 t (by
      show Steps p.tables e below (T31.setTop (mkF m 49 #[.val (.int ax), .val (.int bx), .val (.int cx), .val (.int dx), .val (.int v2), .val (.ref b5), .unset, .unset, .unset] [(.int (2 : Int32)), (.ref b5)])) _
      refine XS.iloadN X31.here hx rfl (hb hby at_49) rfl  ?_
      show Steps p.tables e below (T31.setTop (mkF m 50 #[.val (.int ax), .val (.int bx), .val (.int cx), .val (.int dx), .val (.int v2), .val (.ref b5), .unset, .unset, .unset] [(.int cx), (.int (2 : Int32)), (.ref b5)])) _
      refine XS.iconst X31.here hx rfl (hb hby at_50) ?_
      show Steps p.tables e below (T31.setTop (mkF m 51 #[.val (.int ax), .val (.int bx), .val (.int cx), .val (.int dx), .val (.int v2), .val (.ref b5), .unset, .unset, .unset] [(.int (4 : Int32)), (.int cx), (.int (2 : Int32)), (.ref b5)])) _
      refine XS.iand X31.here hx rfl (hb hby at_51) rfl ?_
      exact k)
    by_cases hc52_41 : (cx &&& (4 : Int32)) = (0 : Int32)
    · have P42 : Wy p.tables e below (s₁.setTop (entryFrame m #[(.int ax), (.int bx), (.int cx), (.int dx)] maxLocals)) (T31.setTop (mkF m 65 #[.val (.int ax), .val (.int bx), .val (.int cx), .val (.int dx), .val (.int v2), .val (.ref b5), .unset, .unset, .unset] [(.int ((ax >>> ((16 : Int32) &&& 31)).toInt8.toInt32)), (.int (2 : Int32)), (.ref b5)])) := fun t k => P40 t (by
        show Steps p.tables e below (T31.setTop (mkF m 52 #[.val (.int ax), .val (.int bx), .val (.int cx), .val (.int dx), .val (.int v2), .val (.ref b5), .unset, .unset, .unset] [(.int (cx &&& (4 : Int32))), (.int (2 : Int32)), (.ref b5)])) _
        refine XS.ifYes X31.here hx rfl (pc0 := 52) (pc' := 60) rfl (hb hby at_52) rfl ((if0 _ _).trans (teq hc52_41).1) (by decide) (by decide) ?_
        show Steps p.tables e below (T31.setTop (mkF m 60 #[.val (.int ax), .val (.int bx), .val (.int cx), .val (.int dx), .val (.int v2), .val (.ref b5), .unset, .unset, .unset] [(.int (2 : Int32)), (.ref b5)])) _
        refine XS.iloadN X31.here hx rfl (hb hby at_60) rfl  ?_
        show Steps p.tables e below (T31.setTop (mkF m 61 #[.val (.int ax), .val (.int bx), .val (.int cx), .val (.int dx), .val (.int v2), .val (.ref b5), .unset, .unset, .unset] [(.int ax), (.int (2 : Int32)), (.ref b5)])) _
        refine XS.bipush X31.here hx rfl (hb hby at_61) ?_
        show Steps p.tables e below (T31.setTop (mkF m 63 #[.val (.int ax), .val (.int bx), .val (.int cx), .val (.int dx), .val (.int v2), .val (.ref b5), .unset, .unset, .unset] [(.int (16 : Int32)), (.int ax), (.int (2 : Int32)), (.ref b5)])) _
        refine XS.ishr X31.here hx rfl (hb hby at_63) rfl ?_
        show Steps p.tables e below (T31.setTop (mkF m 64 #[.val (.int ax), .val (.int bx), .val (.int cx), .val (.int dx), .val (.int v2), .val (.ref b5), .unset, .unset, .unset] [(.int (ax >>> ((16 : Int32) &&& 31))), (.int (2 : Int32)), (.ref b5)])) _
        refine XS.i2b X31.here hx rfl (hb hby at_64) rfl ?_
        exact k)
      exact ⟨((ax >>> ((16 : Int32) &&& 31)).toInt8.toInt32), (by simp only [if_pos hc52_41]), P42⟩
    · have P43 : Wy p.tables e below (s₁.setTop (entryFrame m #[(.int ax), (.int bx), (.int cx), (.int dx)] maxLocals)) (T31.setTop (mkF m 65 #[.val (.int ax), .val (.int bx), .val (.int cx), .val (.int dx), .val (.int v2), .val (.ref b5), .unset, .unset, .unset] [(.int v2), (.int (2 : Int32)), (.ref b5)])) := fun t k => P40 t (by
        show Steps p.tables e below (T31.setTop (mkF m 52 #[.val (.int ax), .val (.int bx), .val (.int cx), .val (.int dx), .val (.int v2), .val (.ref b5), .unset, .unset, .unset] [(.int (cx &&& (4 : Int32))), (.int (2 : Int32)), (.ref b5)])) _
        refine XS.ifNo X31.here hx rfl (hb hby at_52) rfl ((if0 _ _).trans (feq hc52_41).1) ?_
        show Steps p.tables e below (T31.setTop (mkF m 55 #[.val (.int ax), .val (.int bx), .val (.int cx), .val (.int dx), .val (.int v2), .val (.ref b5), .unset, .unset, .unset] [(.int (2 : Int32)), (.ref b5)])) _
        refine XS.iload X31.here hx rfl (hb hby at_55) rfl  ?_
        show Steps p.tables e below (T31.setTop (mkF m 57 #[.val (.int ax), .val (.int bx), .val (.int cx), .val (.int dx), .val (.int v2), .val (.ref b5), .unset, .unset, .unset] [(.int v2), (.int (2 : Int32)), (.ref b5)])) _
        refine XS.goto X31.here hx rfl (pc0 := 57) (pc' := 65) rfl (hb hby at_57) (by decide) (by decide) ?_
        exact k)
      exact ⟨v2, (by simp only [if_neg hc52_41]), P43⟩
  obtain ⟨cl44, Ar44, q44, S44, M44, H44, G44⟩ := id V31
  obtain ⟨T44, h44, X44, e44, W44, st44⟩ := stB X31 hx hZ e31 Ar44 (j := (2 : Int32)) (inb_of S44 ⟨by decide, by decide⟩) (g := (mkF m 65 #[.val (.int ax), .val (.int bx), .val (.int cx), .val (.int dx), .val (.int v2), .val (.ref b5), .unset, .unset, .unset] [(.int r38), (.int (2 : Int32)), (.ref b5)])) rfl rfl (hb hby at_65)
  have V44 : Arv Z h44 b5 k5 .byte (4 : Int32) [(.int (r12.toInt8.toInt32)), (.int (r25.toInt8.toInt32)), (.int (r38.toInt8.toInt32)), (.int (0 : Int32))] (.int (0 : Int32)) := Arv.set Ar44 q44 S44 M44 H44 G44 (fits_nar_byte _) W44 2 rfl (Nat.le_of_ble_eq_true rfl)
  have N44 := Fr.snoc X44 N31 g_b5
  have z44 : n0 ≤ h44.size := Nat.le_trans z31 (Keep.of_wr W44).1
  have P45 : Wy p.tables e below (s₁.setTop (entryFrame m #[(.int ax), (.int bx), (.int cx), (.int dx)] maxLocals)) (T44.setTop (mkF m 66 #[.val (.int ax), .val (.int bx), .val (.int cx), .val (.int dx), .val (.int v2), .val (.ref b5), .unset, .unset, .unset] [])) := fun t k => P39 t (st44 _ k)
  have P46 : Wy p.tables e below (s₁.setTop (entryFrame m #[(.int ax), (.int bx), (.int cx), (.int dx)] maxLocals)) (T44.setTop (mkF m 69 #[.val (.int ax), .val (.int bx), .val (.int cx), .val (.int dx), .val (.int v2), .val (.ref b5), .unset, .unset, .unset] [(.int (3 : Int32)), (.ref b5)])) := fun t k => P45 t (by
    show Steps p.tables e below (T44.setTop (mkF m 66 #[.val (.int ax), .val (.int bx), .val (.int cx), .val (.int dx), .val (.int v2), .val (.ref b5), .unset, .unset, .unset] [])) _
    refine XS.aload X44.here hx rfl (hb hby at_66) rfl rfl  ?_
    show Steps p.tables e below (T44.setTop (mkF m 68 #[.val (.int ax), .val (.int bx), .val (.int cx), .val (.int dx), .val (.int v2), .val (.ref b5), .unset, .unset, .unset] [(.ref b5)])) _
    refine XS.iconst X44.here hx rfl (hb hby at_68) ?_
    exact k)
  obtain ⟨r51, hr51, P52⟩ : ∃ r51 : Int32, r51 = (if (cx &&& (8 : Int32)) = (0 : Int32) then ((ax >>> ((24 : Int32) &&& 31)).toInt8.toInt32) else v2) ∧ Wy p.tables e below (s₁.setTop (entryFrame m #[(.int ax), (.int bx), (.int cx), (.int dx)] maxLocals)) (T44.setTop (mkF m 86 #[.val (.int ax), .val (.int bx), .val (.int cx), .val (.int dx), .val (.int v2), .val (.ref b5), .unset, .unset, .unset] [(.int r51), (.int (3 : Int32)), (.ref b5)])) := by
    have P53 : Wy p.tables e below (s₁.setTop (entryFrame m #[(.int ax), (.int bx), (.int cx), (.int dx)] maxLocals)) (T44.setTop (mkF m 73 #[.val (.int ax), .val (.int bx), .val (.int cx), .val (.int dx), .val (.int v2), .val (.ref b5), .unset, .unset, .unset] [(.int (cx &&& (8 : Int32))), (.int (3 : Int32)), (.ref b5)])) := fun t k => P46 t (by
      show Steps p.tables e below (T44.setTop (mkF m 69 #[.val (.int ax), .val (.int bx), .val (.int cx), .val (.int dx), .val (.int v2), .val (.ref b5), .unset, .unset, .unset] [(.int (3 : Int32)), (.ref b5)])) _
      refine XS.iloadN X44.here hx rfl (hb hby at_69) rfl  ?_
      show Steps p.tables e below (T44.setTop (mkF m 70 #[.val (.int ax), .val (.int bx), .val (.int cx), .val (.int dx), .val (.int v2), .val (.ref b5), .unset, .unset, .unset] [(.int cx), (.int (3 : Int32)), (.ref b5)])) _
      refine XS.bipush X44.here hx rfl (hb hby at_70) ?_
      show Steps p.tables e below (T44.setTop (mkF m 72 #[.val (.int ax), .val (.int bx), .val (.int cx), .val (.int dx), .val (.int v2), .val (.ref b5), .unset, .unset, .unset] [(.int (8 : Int32)), (.int cx), (.int (3 : Int32)), (.ref b5)])) _
      refine XS.iand X44.here hx rfl (hb hby at_72) rfl ?_
      exact k)
    by_cases hc73_54 : (cx &&& (8 : Int32)) = (0 : Int32)
    · have P55 : Wy p.tables e below (s₁.setTop (entryFrame m #[(.int ax), (.int bx), (.int cx), (.int dx)] maxLocals)) (T44.setTop (mkF m 86 #[.val (.int ax), .val (.int bx), .val (.int cx), .val (.int dx), .val (.int v2), .val (.ref b5), .unset, .unset, .unset] [(.int ((ax >>> ((24 : Int32) &&& 31)).toInt8.toInt32)), (.int (3 : Int32)), (.ref b5)])) := fun t k => P53 t (by
        show Steps p.tables e below (T44.setTop (mkF m 73 #[.val (.int ax), .val (.int bx), .val (.int cx), .val (.int dx), .val (.int v2), .val (.ref b5), .unset, .unset, .unset] [(.int (cx &&& (8 : Int32))), (.int (3 : Int32)), (.ref b5)])) _
        refine XS.ifYes X44.here hx rfl (pc0 := 73) (pc' := 81) rfl (hb hby at_73) rfl ((if0 _ _).trans (teq hc73_54).1) (by decide) (by decide) ?_
        show Steps p.tables e below (T44.setTop (mkF m 81 #[.val (.int ax), .val (.int bx), .val (.int cx), .val (.int dx), .val (.int v2), .val (.ref b5), .unset, .unset, .unset] [(.int (3 : Int32)), (.ref b5)])) _
        refine XS.iloadN X44.here hx rfl (hb hby at_81) rfl  ?_
        show Steps p.tables e below (T44.setTop (mkF m 82 #[.val (.int ax), .val (.int bx), .val (.int cx), .val (.int dx), .val (.int v2), .val (.ref b5), .unset, .unset, .unset] [(.int ax), (.int (3 : Int32)), (.ref b5)])) _
        refine XS.bipush X44.here hx rfl (hb hby at_82) ?_
        show Steps p.tables e below (T44.setTop (mkF m 84 #[.val (.int ax), .val (.int bx), .val (.int cx), .val (.int dx), .val (.int v2), .val (.ref b5), .unset, .unset, .unset] [(.int (24 : Int32)), (.int ax), (.int (3 : Int32)), (.ref b5)])) _
        refine XS.ishr X44.here hx rfl (hb hby at_84) rfl ?_
        show Steps p.tables e below (T44.setTop (mkF m 85 #[.val (.int ax), .val (.int bx), .val (.int cx), .val (.int dx), .val (.int v2), .val (.ref b5), .unset, .unset, .unset] [(.int (ax >>> ((24 : Int32) &&& 31))), (.int (3 : Int32)), (.ref b5)])) _
        refine XS.i2b X44.here hx rfl (hb hby at_85) rfl ?_
        exact k)
      exact ⟨((ax >>> ((24 : Int32) &&& 31)).toInt8.toInt32), (by simp only [if_pos hc73_54]), P55⟩
    · have P56 : Wy p.tables e below (s₁.setTop (entryFrame m #[(.int ax), (.int bx), (.int cx), (.int dx)] maxLocals)) (T44.setTop (mkF m 86 #[.val (.int ax), .val (.int bx), .val (.int cx), .val (.int dx), .val (.int v2), .val (.ref b5), .unset, .unset, .unset] [(.int v2), (.int (3 : Int32)), (.ref b5)])) := fun t k => P53 t (by
        show Steps p.tables e below (T44.setTop (mkF m 73 #[.val (.int ax), .val (.int bx), .val (.int cx), .val (.int dx), .val (.int v2), .val (.ref b5), .unset, .unset, .unset] [(.int (cx &&& (8 : Int32))), (.int (3 : Int32)), (.ref b5)])) _
        refine XS.ifNo X44.here hx rfl (hb hby at_73) rfl ((if0 _ _).trans (feq hc73_54).1) ?_
        show Steps p.tables e below (T44.setTop (mkF m 76 #[.val (.int ax), .val (.int bx), .val (.int cx), .val (.int dx), .val (.int v2), .val (.ref b5), .unset, .unset, .unset] [(.int (3 : Int32)), (.ref b5)])) _
        refine XS.iload X44.here hx rfl (hb hby at_76) rfl  ?_
        show Steps p.tables e below (T44.setTop (mkF m 78 #[.val (.int ax), .val (.int bx), .val (.int cx), .val (.int dx), .val (.int v2), .val (.ref b5), .unset, .unset, .unset] [(.int v2), (.int (3 : Int32)), (.ref b5)])) _
        refine XS.goto X44.here hx rfl (pc0 := 78) (pc' := 86) rfl (hb hby at_78) (by decide) (by decide) ?_
        exact k)
      exact ⟨v2, (by simp only [if_neg hc73_54]), P56⟩
  obtain ⟨cl57, Ar57, q57, S57, M57, H57, G57⟩ := id V44
  obtain ⟨T57, h57, X57, e57, W57, st57⟩ := stB X44 hx hZ e44 Ar57 (j := (3 : Int32)) (inb_of S57 ⟨by decide, by decide⟩) (g := (mkF m 86 #[.val (.int ax), .val (.int bx), .val (.int cx), .val (.int dx), .val (.int v2), .val (.ref b5), .unset, .unset, .unset] [(.int r51), (.int (3 : Int32)), (.ref b5)])) rfl rfl (hb hby at_86)
  have V57 : Arv Z h57 b5 k5 .byte (4 : Int32) [(.int (r12.toInt8.toInt32)), (.int (r25.toInt8.toInt32)), (.int (r38.toInt8.toInt32)), (.int (r51.toInt8.toInt32))] (.int (0 : Int32)) := Arv.set Ar57 q57 S57 M57 H57 G57 (fits_nar_byte _) W57 3 rfl (Nat.le_of_ble_eq_true rfl)
  have N57 := Fr.snoc X57 N44 g_b5
  have z57 : n0 ≤ h57.size := Nat.le_trans z44 (Keep.of_wr W57).1
  have P58 : Wy p.tables e below (s₁.setTop (entryFrame m #[(.int ax), (.int bx), (.int cx), (.int dx)] maxLocals)) (T57.setTop (mkF m 87 #[.val (.int ax), .val (.int bx), .val (.int cx), .val (.int dx), .val (.int v2), .val (.ref b5), .unset, .unset, .unset] [])) := fun t k => P52 t (st57 _ k)
  have P59 : Wy p.tables e below (s₁.setTop (entryFrame m #[(.int ax), (.int bx), (.int cx), (.int dx)] maxLocals)) (T57.setTop (mkF m 96 #[.val (.int ax), .val (.int bx), .val (.int cx), .val (.int dx), .val (.int v2), .val (.ref b5), .val (.int ((dx &&& (255 : Int32)) - ((dx &&& (255 : Int32)) / (5 : Int32)) * (5 : Int32))), .unset, .unset] [])) := fun t k => P58 t (by
    show Steps p.tables e below (T57.setTop (mkF m 87 #[.val (.int ax), .val (.int bx), .val (.int cx), .val (.int dx), .val (.int v2), .val (.ref b5), .unset, .unset, .unset] [])) _
    refine XS.iloadN X57.here hx rfl (hb hby at_87) rfl  ?_
    show Steps p.tables e below (T57.setTop (mkF m 88 #[.val (.int ax), .val (.int bx), .val (.int cx), .val (.int dx), .val (.int v2), .val (.ref b5), .unset, .unset, .unset] [(.int dx)])) _
    refine XS.sipush X57.here hx rfl (hb hby at_88) ?_
    show Steps p.tables e below (T57.setTop (mkF m 91 #[.val (.int ax), .val (.int bx), .val (.int cx), .val (.int dx), .val (.int v2), .val (.ref b5), .unset, .unset, .unset] [(.int (255 : Int32)), (.int dx)])) _
    refine XS.iand X57.here hx rfl (hb hby at_91) rfl ?_
    show Steps p.tables e below (T57.setTop (mkF m 92 #[.val (.int ax), .val (.int bx), .val (.int cx), .val (.int dx), .val (.int v2), .val (.ref b5), .unset, .unset, .unset] [(.int (dx &&& (255 : Int32)))])) _
    refine XS.iconst X57.here hx rfl (hb hby at_92) ?_
    show Steps p.tables e below (T57.setTop (mkF m 93 #[.val (.int ax), .val (.int bx), .val (.int cx), .val (.int dx), .val (.int v2), .val (.ref b5), .unset, .unset, .unset] [(.int (5 : Int32)), (.int (dx &&& (255 : Int32)))])) _
    refine XS.irem X57.here hx rfl (hb hby at_93) rfl (by decide) ?_
    show Steps p.tables e below (T57.setTop (mkF m 94 #[.val (.int ax), .val (.int bx), .val (.int cx), .val (.int dx), .val (.int v2), .val (.ref b5), .unset, .unset, .unset] [(.int ((dx &&& (255 : Int32)) - ((dx &&& (255 : Int32)) / (5 : Int32)) * (5 : Int32)))])) _
    refine XS.istore X57.here hx rfl (hb hby at_94) rfl (l' := #[.val (.int ax), .val (.int bx), .val (.int cx), .val (.int dx), .val (.int v2), .val (.ref b5), .val (.int ((dx &&& (255 : Int32)) - ((dx &&& (255 : Int32)) / (5 : Int32)) * (5 : Int32))), .unset, .unset]) rfl ?_
    exact k)
  obtain ⟨v60, hv60⟩ : ∃ z : Int32, z = ((dx &&& (255 : Int32)) - ((dx &&& (255 : Int32)) / (5 : Int32)) * (5 : Int32)) := ⟨_, rfl⟩
  have P61 : Wy p.tables e below (s₁.setTop (entryFrame m #[(.int ax), (.int bx), (.int cx), (.int dx)] maxLocals)) (T57.setTop (mkF m 96 #[.val (.int ax), .val (.int bx), .val (.int cx), .val (.int dx), .val (.int v2), .val (.ref b5), .val (.int v60), .unset, .unset] [])) := fun t k => by subst hv60; exact P59 t k
  have P62 : Wy p.tables e below (s₁.setTop (entryFrame m #[(.int ax), (.int bx), (.int cx), (.int dx)] maxLocals)) (T57.setTop (mkF m 108 #[.val (.int ax), .val (.int bx), .val (.int cx), .val (.int dx), .val (.int v2), .val (.ref b5), .val (.int v60), .val (.int ((((dx.toUInt32 >>> ((8 : Int32) &&& 31).toUInt32).toInt32) &&& (255 : Int32)) - ((((dx.toUInt32 >>> ((8 : Int32) &&& 31).toUInt32).toInt32) &&& (255 : Int32)) / (5 : Int32)) * (5 : Int32))), .unset] [])) := fun t k => P61 t (by
    show Steps p.tables e below (T57.setTop (mkF m 96 #[.val (.int ax), .val (.int bx), .val (.int cx), .val (.int dx), .val (.int v2), .val (.ref b5), .val (.int v60), .unset, .unset] [])) _
    refine XS.iloadN X57.here hx rfl (hb hby at_96) rfl  ?_
    show Steps p.tables e below (T57.setTop (mkF m 97 #[.val (.int ax), .val (.int bx), .val (.int cx), .val (.int dx), .val (.int v2), .val (.ref b5), .val (.int v60), .unset, .unset] [(.int dx)])) _
    refine XS.bipush X57.here hx rfl (hb hby at_97) ?_
    show Steps p.tables e below (T57.setTop (mkF m 99 #[.val (.int ax), .val (.int bx), .val (.int cx), .val (.int dx), .val (.int v2), .val (.ref b5), .val (.int v60), .unset, .unset] [(.int (8 : Int32)), (.int dx)])) _
    refine XS.iushr X57.here hx rfl (hb hby at_99) rfl ?_
    show Steps p.tables e below (T57.setTop (mkF m 100 #[.val (.int ax), .val (.int bx), .val (.int cx), .val (.int dx), .val (.int v2), .val (.ref b5), .val (.int v60), .unset, .unset] [(.int ((dx.toUInt32 >>> ((8 : Int32) &&& 31).toUInt32).toInt32))])) _
    refine XS.sipush X57.here hx rfl (hb hby at_100) ?_
    show Steps p.tables e below (T57.setTop (mkF m 103 #[.val (.int ax), .val (.int bx), .val (.int cx), .val (.int dx), .val (.int v2), .val (.ref b5), .val (.int v60), .unset, .unset] [(.int (255 : Int32)), (.int ((dx.toUInt32 >>> ((8 : Int32) &&& 31).toUInt32).toInt32))])) _
    refine XS.iand X57.here hx rfl (hb hby at_103) rfl ?_
    show Steps p.tables e below (T57.setTop (mkF m 104 #[.val (.int ax), .val (.int bx), .val (.int cx), .val (.int dx), .val (.int v2), .val (.ref b5), .val (.int v60), .unset, .unset] [(.int (((dx.toUInt32 >>> ((8 : Int32) &&& 31).toUInt32).toInt32) &&& (255 : Int32)))])) _
    refine XS.iconst X57.here hx rfl (hb hby at_104) ?_
    show Steps p.tables e below (T57.setTop (mkF m 105 #[.val (.int ax), .val (.int bx), .val (.int cx), .val (.int dx), .val (.int v2), .val (.ref b5), .val (.int v60), .unset, .unset] [(.int (5 : Int32)), (.int (((dx.toUInt32 >>> ((8 : Int32) &&& 31).toUInt32).toInt32) &&& (255 : Int32)))])) _
    refine XS.irem X57.here hx rfl (hb hby at_105) rfl (by decide) ?_
    show Steps p.tables e below (T57.setTop (mkF m 106 #[.val (.int ax), .val (.int bx), .val (.int cx), .val (.int dx), .val (.int v2), .val (.ref b5), .val (.int v60), .unset, .unset] [(.int ((((dx.toUInt32 >>> ((8 : Int32) &&& 31).toUInt32).toInt32) &&& (255 : Int32)) - ((((dx.toUInt32 >>> ((8 : Int32) &&& 31).toUInt32).toInt32) &&& (255 : Int32)) / (5 : Int32)) * (5 : Int32)))])) _
    refine XS.istore X57.here hx rfl (hb hby at_106) rfl (l' := #[.val (.int ax), .val (.int bx), .val (.int cx), .val (.int dx), .val (.int v2), .val (.ref b5), .val (.int v60), .val (.int ((((dx.toUInt32 >>> ((8 : Int32) &&& 31).toUInt32).toInt32) &&& (255 : Int32)) - ((((dx.toUInt32 >>> ((8 : Int32) &&& 31).toUInt32).toInt32) &&& (255 : Int32)) / (5 : Int32)) * (5 : Int32))), .unset]) rfl ?_
    exact k)
  obtain ⟨v63, hv63⟩ : ∃ z : Int32, z = ((((dx.toUInt32 >>> ((8 : Int32) &&& 31).toUInt32).toInt32) &&& (255 : Int32)) - ((((dx.toUInt32 >>> ((8 : Int32) &&& 31).toUInt32).toInt32) &&& (255 : Int32)) / (5 : Int32)) * (5 : Int32)) := ⟨_, rfl⟩
  have P64 : Wy p.tables e below (s₁.setTop (entryFrame m #[(.int ax), (.int bx), (.int cx), (.int dx)] maxLocals)) (T57.setTop (mkF m 108 #[.val (.int ax), .val (.int bx), .val (.int cx), .val (.int dx), .val (.int v2), .val (.ref b5), .val (.int v60), .val (.int v63), .unset] [])) := fun t k => by subst hv63; exact P62 t k
  obtain ⟨lv, hlv⟩ : ∃ z : List Int32, z = [(r12.toInt8.toInt32), (r25.toInt8.toInt32), (r38.toInt8.toInt32), (r51.toInt8.toInt32)] := ⟨_, rfl⟩
  have Bv : own_By Z h57 b5 lv := own_by_of V57 (by rw [hlv]; rfl) (by rw [hlv]; rfl)
  obtain ⟨fn, hf4, hfn⟩ := own_rng hv60
  obtain ⟨tn, ht4, htn⟩ := own_rng2 hv63
  have hl4' : lv.length = 4 := by rw [hlv]; rfl
  have hlt : tn ≤ lv.length := by rw [hl4']; exact ht4
  have hl4 : lv.length ≤ 1000 := by rw [hl4']; decide
  have hfl : fn ≤ 1000 := Nat.le_trans hf4 (by decide)
  have P65 : Wy p.tables e below (s₁.setTop (entryFrame m #[(.int ax), (.int bx), (.int cx), (.int dx)] maxLocals)) (T57.setTop (mkF m 116 #[.val (.int ax), .val (.int bx), .val (.int cx), .val (.int dx), .val (.int v2), .val (.ref b5), .val (.int v60), .val (.int v63), .unset] [(.int v63), (.int v60), (.int v2), (.ref b5)])) := fun t k => P64 t (by
    show Steps p.tables e below (T57.setTop (mkF m 108 #[.val (.int ax), .val (.int bx), .val (.int cx), .val (.int dx), .val (.int v2), .val (.ref b5), .val (.int v60), .val (.int v63), .unset] [])) _
    refine XS.aload X57.here hx rfl (hb hby at_108) rfl rfl  ?_
    show Steps p.tables e below (T57.setTop (mkF m 110 #[.val (.int ax), .val (.int bx), .val (.int cx), .val (.int dx), .val (.int v2), .val (.ref b5), .val (.int v60), .val (.int v63), .unset] [(.ref b5)])) _
    refine XS.iload X57.here hx rfl (hb hby at_110) rfl  ?_
    show Steps p.tables e below (T57.setTop (mkF m 112 #[.val (.int ax), .val (.int bx), .val (.int cx), .val (.int dx), .val (.int v2), .val (.ref b5), .val (.int v60), .val (.int v63), .unset] [(.int v2), (.ref b5)])) _
    refine XS.iload X57.here hx rfl (hb hby at_112) rfl  ?_
    show Steps p.tables e below (T57.setTop (mkF m 114 #[.val (.int ax), .val (.int bx), .val (.int cx), .val (.int dx), .val (.int v2), .val (.ref b5), .val (.int v60), .val (.int v63), .unset] [(.int v60), (.int v2), (.ref b5)])) _
    refine XS.iload X57.here hx rfl (hb hby at_114) rfl  ?_
    exact k)
  obtain ⟨_, _, ⟨T66, L66, k66, n66⟩, -, X66, ⟨Lc66, hQ66, l66, y66, z66⟩, st66⟩ := Jvm.LawKit.callS X57 hx (y := (⟨"com/example/zbirka/zbirka/Iso2709Reader", "indexOf", "([BBII)I"⟩ : MethodName)) hown (mvT hZ (hw _ (List.mem_of_getElem? (i := 1) rfl))) (mvT hZ (hw _ (List.mem_of_getElem? (i := 2) rfl))) (mvT hZ (hw _ (List.mem_of_getElem? (i := 3) rfl))) (mvT hZ (hw _ (List.mem_of_getElem? (i := 4) rfl))) (by decide) (backOf (W := 0) (rm1 l Z a0 hw [] b5 v2 v60 v63 lv fn tn h57 n0 z57 Bv hfn htn hlt hl4 hfl) hZ (hw _ (List.mem_of_getElem? (i := 4) rfl)) (hw _ (List.mem_of_getElem? (i := 3) rfl)) (by decide) (by decide)) (g := (mkF m 116 #[.val (.int ax), .val (.int bx), .val (.int cx), .val (.int dx), .val (.int v2), .val (.ref b5), .val (.int v60), .val (.int v63), .unset] [(.int v63), (.int v60), (.int v2), (.ref b5)])) rfl (by rw [hml]; rfl) (argsL := [(.ref b5), (.int v2), (.int v60), (.int v63)]) (rest := []) (lenOf pd_lABBIIrI rfl) rfl (by show 2 * 0 + _ ≤ _; exact Nat.le_of_eq rfl) (hb hby at_116) (fun _ _ => ⟨rfl, e57, (by decide : 1 + 0 ≤ _), (by decide : 4 + 0 ≤ _)⟩)
  dsimp only [Pt.U, Pt.locs, Pt.cells, Pt.slots] at X66 l66 y66 z66 st66 hQ66
  subst l66 y66 z66
  obtain ⟨rfl, N66q, e66⟩ := hQ66
  have N66 := Fr.app N57 N66q
  have P67 : Wy p.tables e below (s₁.setTop (entryFrame m #[(.int ax), (.int bx), (.int cx), (.int dx)] maxLocals)) (T66.setTop (mkF m 119 #[.val (.int ax), .val (.int bx), .val (.int cx), .val (.int dx), .val (.int v2), .val (.ref b5), .val (.int v60), .val (.int v63), .unset] [(.int (Int32.ofNat (own_R lv v2 tn (tn - fn) fn)))])) := fun t k => P65 t (st66 _ k)
  have P68 : Wy p.tables e below (s₁.setTop (entryFrame m #[(.int ax), (.int bx), (.int cx), (.int dx)] maxLocals)) (T66.setTop (mkF m 121 #[.val (.int ax), .val (.int bx), .val (.int cx), .val (.int dx), .val (.int v2), .val (.ref b5), .val (.int v60), .val (.int v63), .val (.int (Int32.ofNat (own_R lv v2 tn (tn - fn) fn)))] [])) := fun t k => P67 t (by
    show Steps p.tables e below (T66.setTop (mkF m 119 #[.val (.int ax), .val (.int bx), .val (.int cx), .val (.int dx), .val (.int v2), .val (.ref b5), .val (.int v60), .val (.int v63), .unset] [(.int (Int32.ofNat (own_R lv v2 tn (tn - fn) fn)))])) _
    refine XS.istore X66.here hx rfl (hb hby at_119) rfl (l' := #[.val (.int ax), .val (.int bx), .val (.int cx), .val (.int dx), .val (.int v2), .val (.ref b5), .val (.int v60), .val (.int v63), .val (.int (Int32.ofNat (own_R lv v2 tn (tn - fn) fn)))]) rfl ?_
    exact k)
  obtain ⟨v69, hv69⟩ : ∃ z : Int32, z = (Int32.ofNat (own_R lv v2 tn (tn - fn) fn)) := ⟨_, rfl⟩
  have P70 : Wy p.tables e below (s₁.setTop (entryFrame m #[(.int ax), (.int bx), (.int cx), (.int dx)] maxLocals)) (T66.setTop (mkF m 121 #[.val (.int ax), .val (.int bx), .val (.int cx), .val (.int dx), .val (.int v2), .val (.ref b5), .val (.int v60), .val (.int v63), .val (.int v69)] [])) := fun t k => by subst hv69; exact P68 t k
  have P71 : Wy p.tables e below (s₁.setTop (entryFrame m #[(.int ax), (.int bx), (.int cx), (.int dx)] maxLocals)) (T66.setTop (mkF m 131 #[.val (.int ax), .val (.int bx), .val (.int cx), .val (.int dx), .val (.int v2), .val (.ref b5), .val (.int v60), .val (.int v63), .val (.int v69)] [(.int v63), (.int v60), (.int v2), (.ref b5), (.int v69)])) := fun t k => P70 t (by
    show Steps p.tables e below (T66.setTop (mkF m 121 #[.val (.int ax), .val (.int bx), .val (.int cx), .val (.int dx), .val (.int v2), .val (.ref b5), .val (.int v60), .val (.int v63), .val (.int v69)] [])) _
    refine XS.iload X66.here hx rfl (hb hby at_121) rfl  ?_
    show Steps p.tables e below (T66.setTop (mkF m 123 #[.val (.int ax), .val (.int bx), .val (.int cx), .val (.int dx), .val (.int v2), .val (.ref b5), .val (.int v60), .val (.int v63), .val (.int v69)] [(.int v69)])) _
    refine XS.aload X66.here hx rfl (hb hby at_123) rfl rfl  ?_
    show Steps p.tables e below (T66.setTop (mkF m 125 #[.val (.int ax), .val (.int bx), .val (.int cx), .val (.int dx), .val (.int v2), .val (.ref b5), .val (.int v60), .val (.int v63), .val (.int v69)] [(.ref b5), (.int v69)])) _
    refine XS.iload X66.here hx rfl (hb hby at_125) rfl  ?_
    show Steps p.tables e below (T66.setTop (mkF m 127 #[.val (.int ax), .val (.int bx), .val (.int cx), .val (.int dx), .val (.int v2), .val (.ref b5), .val (.int v60), .val (.int v63), .val (.int v69)] [(.int v2), (.ref b5), (.int v69)])) _
    refine XS.iload X66.here hx rfl (hb hby at_127) rfl  ?_
    show Steps p.tables e below (T66.setTop (mkF m 129 #[.val (.int ax), .val (.int bx), .val (.int cx), .val (.int dx), .val (.int v2), .val (.ref b5), .val (.int v60), .val (.int v63), .val (.int v69)] [(.int v60), (.int v2), (.ref b5), (.int v69)])) _
    refine XS.iload X66.here hx rfl (hb hby at_129) rfl  ?_
    exact k)
  obtain ⟨_, _, ⟨T72, L72, k72, n72⟩, -, X72, ⟨Lc72, hQ72, l72, y72, z72⟩, st72⟩ := Jvm.LawKit.callS X66 hx (y := (⟨"com/example/zbirka/zbirka/Iso2709ReaderIndexOfPinLaw", "reference", "([BBII)I"⟩ : MethodName)) hown (mvT hZ (hw _ (List.mem_of_getElem? (i := 5) rfl))) (mvT hZ (hw _ (List.mem_of_getElem? (i := 6) rfl))) (mvT hZ (hw _ (List.mem_of_getElem? (i := 7) rfl))) (mvT hZ (hw _ (List.mem_of_getElem? (i := 8) rfl))) (by decide) (backOf (W := 1) (rm2 l Z a0 hw [] b5 v2 v60 v63 lv h57 n0 z57 Bv hl4') hZ (hw _ (List.mem_of_getElem? (i := 8) rfl)) (hw _ (List.mem_of_getElem? (i := 7) rfl)) (by decide) (by decide)) (g := (mkF m 131 #[.val (.int ax), .val (.int bx), .val (.int cx), .val (.int dx), .val (.int v2), .val (.ref b5), .val (.int v60), .val (.int v63), .val (.int v69)] [(.int v63), (.int v60), (.int v2), (.ref b5), (.int v69)])) rfl (by rw [hml]; rfl) (argsL := [(.ref b5), (.int v2), (.int v60), (.int v63)]) (rest := [(.int v69)]) (lenOf pd_lABBIIrI rfl) rfl (by show 2 * 0 + _ ≤ _; exact Nat.le_of_eq rfl) (hb hby at_131) (fun _ _ => ⟨rfl, e66, (by decide : 1 + 0 ≤ _), (by decide : 4 + 0 ≤ _)⟩)
  dsimp only [Pt.U, Pt.locs, Pt.cells, Pt.slots] at X72 l72 y72 z72 st72 hQ72
  subst l72 y72 z72
  obtain ⟨rfl, N72q, e72⟩ := hQ72
  have N72 := Fr.app N66 N72q
  have P73 : Wy p.tables e below (s₁.setTop (entryFrame m #[(.int ax), (.int bx), (.int cx), (.int dx)] maxLocals)) (T72.setTop (mkF m 134 #[.val (.int ax), .val (.int bx), .val (.int cx), .val (.int dx), .val (.int v2), .val (.ref b5), .val (.int v60), .val (.int v63), .val (.int v69)] [(.int (own_ref lv v2 v60 v63)), (.int v69)])) := fun t k => P71 t (st72 _ k)
  have P74 : Wy p.tables e below (s₁.setTop (entryFrame m #[(.int ax), (.int bx), (.int cx), (.int dx)] maxLocals)) (T72.setTop (mkF m 142 #[.val (.int ax), .val (.int bx), .val (.int cx), .val (.int dx), .val (.int v2), .val (.ref b5), .val (.int v60), .val (.int v63), .val (.int v69)] [(.int (1 : Int32))])) := fun t k => P73 t (by
    show Steps p.tables e below (T72.setTop (mkF m 134 #[.val (.int ax), .val (.int bx), .val (.int cx), .val (.int dx), .val (.int v2), .val (.ref b5), .val (.int v60), .val (.int v63), .val (.int v69)] [(.int (own_ref lv v2 v60 v63)), (.int v69)])) _
    refine XS.icmpNo X72.here hx rfl (hb hby at_134) rfl (teq (by rw [hv69]; exact own_law _ hl4' hf4 ht4 hfn htn : v69 = (own_ref lv v2 v60 v63))).2 ?_
    show Steps p.tables e below (T72.setTop (mkF m 137 #[.val (.int ax), .val (.int bx), .val (.int cx), .val (.int dx), .val (.int v2), .val (.ref b5), .val (.int v60), .val (.int v63), .val (.int v69)] [])) _
    refine XS.iconst X72.here hx rfl (hb hby at_137) ?_
    show Steps p.tables e below (T72.setTop (mkF m 138 #[.val (.int ax), .val (.int bx), .val (.int cx), .val (.int dx), .val (.int v2), .val (.ref b5), .val (.int v60), .val (.int v63), .val (.int v69)] [(.int (1 : Int32))])) _
    refine XS.goto X72.here hx rfl (pc0 := 138) (pc' := 142) rfl (hb hby at_138) (by decide) (by decide) ?_
    exact k)
  obtain ⟨fs, hr, hrun, hended, hW, hsame⟩ := X72.leave (v := some (.int (nar .boolean (1 : Int32)))) (fun h => by rw [Bd.returns] at h; cases h)
  refine ⟨_, _, P74 _ ?_, hrun, hended, _, _, rfl, ?_, ⟨_, rfl⟩, hW, hsame.mono (by decide) (by decide)⟩
  · show Steps p.tables e below (T72.setTop (mkF m 142 #[.val (.int ax), .val (.int bx), .val (.int cx), .val (.int dx), .val (.int v2), .val (.ref b5), .val (.int v60), .val (.int v63), .val (.int v69)] [(.int (1 : Int32))])) _
    exact retN X72 hx (t := .boolean) Bd.returns (by simp) (hb hby at_142) hr
  · show Q0 Z ax bx cx dx h0 n0 _ T72.heap _
    rw [e72]
    exact ⟨rfl, N72⟩
set_option maxRecDepth 65536 in
set_option maxHeartbeats 40000000 in
theorem comes_1 {Post : Tables → Env → Array Value → State → Outcome → State → Prop} (hpost : ∀ tb e args s v u, (limb_1_1.after args s (.returned v) u = true ∧ limb_1_2.after args s (.returned v) u = true ∧ True) → FrameEnd s (.returned v) u (Jvm.fieldLocs frame_1_writes args s ++ Jvm.arrayLocs frame_1_arrays args s ++ Jvm.staticLocs frame_1_statics s) 16 128 → Post tb e args s (.returned v) u) :
    ArmFor flags0 classFile x code maxLocals ret World_1 tables_1 room_1 Calls_1 rest_1 Pre_1 Post := by
  intro l hfl _ _ p e ha hc hk s m args below hf hA hF happ hP
  obtain ⟨hcalls, hrest, hpre⟩ := hP
  obtain ⟨-, -, -, hnamed, -, -, -, hat⟩ := (Spec.applies_iff hf).mp happ
  obtain ⟨hg, hn⟩ := and_e (Cond.before_iff.mp (show (Jvm.Cond.and given_1 narrow_1).before args s = true from hpre))
  obtain ⟨g1, g2⟩ := and_e hg
  obtain ⟨g3, g4⟩ := and_e g2
  obtain ⟨g5, g6⟩ := and_e g4
  obtain ⟨g7, g8⟩ := and_e g6
  obtain ⟨w0, w1, w2, w3, rfl⟩ : ∃ w0 w1 w2 w3 : Value, args = #[w0, w1, w2, w3] := by
    have hs : args.size = 4 := by simpa [Cond.value, given_1] using g1
    obtain ⟨L⟩ := args
    match L, hs with
    | [w0, w1, w2, w3], _ => exact ⟨w0, w1, w2, w3, rfl⟩
  have hw := fun d (hd : d ∈ tables_1) => atoms_spec (ws := Jvm.Cond.code x code maxLocals ret :: tables_1) hat d (List.mem_cons_of_mem _ hd)
  have hfit : Fit s := fun {y c} hc i hi => by
    obtain ⟨ha, rfl⟩ := Array.getElem?_eq_some_iff.mp hc
    have q := List.all_eq_true.mp ((Array.all_eq_true_iff_forall_mem.mp hF) _ (Array.getElem_mem ha)) i (List.mem_range.mpr hi)
    simpa [Array.getElem?_eq_getElem hi] using q
  obtain ⟨i0, ei0⟩ := is_v g3
  obtain rfl : w0 = (.int i0) := Option.some.inj ei0
  obtain ⟨i1, ei1⟩ := is_v g5
  obtain rfl : w1 = (.int i1) := Option.some.inj ei1
  obtain ⟨i2, ei2⟩ := is_v g7
  obtain rfl : w2 = (.int i2) := Option.some.inj ei2
  obtain ⟨i3, ei3⟩ := is_v g8
  obtain rfl : w3 = (.int i3) := Option.some.inj ei3
  obtain ⟨n, o, h1, h2, h3, _, L, rfl, ⟨rfl, N⟩, hq⟩ := rm0 l s _ hw tables_1 i0 i1 i2 i3 s.heap s.heap.size (Nat.le_refl _)  p e ha hc hk s m _ below hf ((Spec.applies_iff_loose hf).mp happ).1 ⟨rfl, State.Warmed39.refl s, rfl⟩ trivial
  refine ⟨n, _, h1, h2, h3, hpost _ _ _ _ _ _ ⟨Cond.after_iff.mpr rfl, Cond.after_iff.mpr (eq_i res_at (Term.int_eval (1)) rfl), trivial⟩ ⟨hq.1, hq.2.1, (hq.2.2.sift fun y hy => Or.inr (N y hy)).mono (by decide) (by decide)⟩⟩
theorem main_1_1 : Claimed_1_1 := comes_1 fun _ _ _ _ _ _ h hF => ⟨h.1, hF⟩
theorem main_1_2 : Claimed_1_2 := comes_1 fun _ _ _ _ _ _ h hF => ⟨h.2.1, hF⟩
end Jvm.Pilot.@@N@@
namespace Jvm.Pilot.@@N@@
open Jvm Jvm.ClassFile Sem Op Lib Jvm.Free Jvm.Stand Jvm.Pilot.@@N@@.Jvm.D
/-! MADE BY PROGRAM (witnessworld.py) out of the Statement's table words and the real class files: 12 classes; the members and pool entries that the words name. The judged class is class 1, her method 1. -/
namespace start1
open Jvm.ClassFile
def u (s : String) : CpInfo := .utf8 (stringToUtf16 s)
/-- a pool by its gaps: so many unusable entries, then the entry; so many at the end -/
def gap : Nat → List CpInfo → List CpInfo
  | 0, r => r
  | n + 1, r => .unusable :: gap n r
def poolList (es : List (Nat × CpInfo)) (last : Nat) : List CpInfo := es.foldr (fun e r => gap e.1 (e.2 :: r)) (gap last [])
def pool (es : List (Nat × CpInfo)) (last : Nat) : Array CpInfo := ⟨poolList es last⟩
def fileOf (pool : Array CpInfo) (this : Nat) (attrs : Array Attribute := #[]) (ms : Array MethodInfo := #[]) (fl : Nat := 33) (sup : Nat := 0) (ifs : Array Nat := #[]) (fds : Array FieldInfo := #[]) : ClassFile where
  minorVersion := 0
  majorVersion := 65
  constantPool := pool
  accessFlags := fl
  thisClass := this
  superClass := sup
  interfaces := ifs
  fields := fds
  methods := ms
  attributes := attrs
def plain (name : String) (sup : Option ClassId) : Class where
  name := name
  kind := .ordinary
  loader := none
  accessFlags := 33
  super := sup
  interfaces := #[]
  cf := none
  fields := #[]
  methods := #[]
  instanceTypes := #[]
  staticTypes := #[]
  resolved := #[]
  callSites := []
  init := .initialized
  statics := none
  mirror := none

def pool0 : Array CpInfo := pool [(5, u "<init>"), (0, u "()V"), (1, .class_ 10), (1, u "java/lang/Object")] 113

def k0m0 : Method := { name := "<init>", desc := "()V", sig := { parameters := [], returnType := none }, accessFlags := 1, code := none }
/-- java/lang/Object -/
def k0 : Class := { plain "java/lang/Object" none with
  accessFlags := 33
  interfaces := #[]
  cf := some (fileOf pool0 8 #[] #[{ accessFlags := 1, nameIndex := 5, descriptorIndex := 6, attributes := #[] }] 33 0 #[] #[])
  fields := #[]
  methods := #[k0m0]
  instanceTypes := #[]
  staticTypes := #[]
  resolved := Array.replicate 124 none
  statics := none }

def pool1 : Array CpInfo := pool [(2, .class_ 4), (1, u "java/lang/Object"), (0, u "<init>"), (0, u "()V"), (0, .methodref 8 9), (0, .class_ 10), (0, .nameAndType 11 12), (0, u "com/example/zbirka/zbirka/Iso2709Reader"), (0, u "indexOf"), (0, u "([BBII)I"), (0, .methodref 14 15), (0, .class_ 16), (0, .nameAndType 17 12), (0, u "com/example/zbirka/zbirka/Iso2709ReaderIndexOfPinLaw"), (0, u "reference"), (0, .methodref 14 19), (0, .nameAndType 20 21), (0, u "hit"), (0, u "([BBIII)Z"), (2, u "law"), (0, u "(IIII)Z")] 5

def k1m0 : Method := { name := "<init>", desc := "()V", sig := { parameters := [], returnType := none }, accessFlags := 2, code := none }
def k1c1 : Code := { maxStack := 5, maxLocals := 9, code := code, exceptionTable := #[], attributes := #[] }
def k1m1 : Method := { name := "law", desc := "(IIII)Z", sig := { parameters := [.int, .int, .int, .int], returnType := some .boolean }, accessFlags := 9, code := some k1c1 }
def k1c2 : Code := { maxStack := 2, maxLocals := 5, code := method_3_code, exceptionTable := #[], attributes := #[] }
def k1m2 : Method := { name := "hit", desc := "([BBIII)Z", sig := { parameters := [(.array .byte), .byte, .int, .int, .int], returnType := some .boolean }, accessFlags := 10, code := some k1c2 }
def k1c3 : Code := { maxStack := 5, maxLocals := 4, code := method_4_code, exceptionTable := #[], attributes := #[] }
def k1m3 : Method := { name := "reference", desc := "([BBII)I", sig := { parameters := [(.array .byte), .byte, .int, .int], returnType := some .int }, accessFlags := 10, code := some k1c3 }
/-- com/example/zbirka/zbirka/Iso2709ReaderIndexOfPinLaw -/
def k1 : Class := { plain "com/example/zbirka/zbirka/Iso2709ReaderIndexOfPinLaw" (some 0) with
  accessFlags := 49
  interfaces := #[]
  cf := some (fileOf pool1 14 #[] #[{ accessFlags := 2, nameIndex := 5, descriptorIndex := 6, attributes := #[] }, { accessFlags := 9, nameIndex := 24, descriptorIndex := 25, attributes := #[] }, { accessFlags := 10, nameIndex := 20, descriptorIndex := 21, attributes := #[] }, { accessFlags := 10, nameIndex := 17, descriptorIndex := 12, attributes := #[] }] 49 2 #[] #[])
  fields := #[]
  methods := #[k1m0, k1m1, k1m2, k1m3]
  instanceTypes := #[]
  staticTypes := #[]
  resolved := Array.replicate 31 none
  statics := none }

def pool2 : Array CpInfo := pool [(1, .class_ 2), (0, u "java/lang/AutoCloseable"), (0, .class_ 4), (0, u "java/lang/Object")] 7

/-- java/lang/AutoCloseable -/
def k2 : Class := { plain "java/lang/AutoCloseable" (some 0) with
  accessFlags := 1537
  interfaces := #[]
  cf := some (fileOf pool2 1 #[] #[] 1537 3 #[] #[])
  fields := #[]
  methods := #[]
  instanceTypes := #[]
  staticTypes := #[]
  resolved := Array.replicate 12 none
  statics := none }

def pool3 : Array CpInfo := pool [(1, .class_ 2), (0, u "java/io/Closeable"), (0, .class_ 4), (0, u "java/lang/Object"), (0, .class_ 6), (0, u "java/lang/AutoCloseable")] 7

/-- java/io/Closeable -/
def k3 : Class := { plain "java/io/Closeable" (some 0) with
  accessFlags := 1537
  interfaces := #[2]
  cf := some (fileOf pool3 1 #[] #[] 1537 3 #[5] #[])
  fields := #[]
  methods := #[]
  instanceTypes := #[]
  staticTypes := #[]
  resolved := Array.replicate 14 none
  statics := none }

def pool4 : Array CpInfo := pool [(1, .class_ 2), (0, u "com/example/zbirka/zbirka/RecordReader"), (0, .class_ 4), (0, u "java/lang/Object"), (0, .class_ 6), (0, u "java/io/Closeable")] 13

/-- com/example/zbirka/zbirka/RecordReader -/
def k4 : Class := { plain "com/example/zbirka/zbirka/RecordReader" (some 0) with
  accessFlags := 1537
  interfaces := #[3]
  cf := some (fileOf pool4 1 #[] #[] 1537 3 #[5] #[])
  fields := #[]
  methods := #[]
  instanceTypes := #[]
  staticTypes := #[]
  resolved := Array.replicate 20 none
  statics := none }

def pool5 : Array CpInfo := pool [(6, u "Lcom/example/zbirka/zbirka/FieldShapes;"), (1, .class_ 10), (1, u "com/example/zbirka/zbirka/Iso2709Reader"), (3, .class_ 16), (1, u "java/lang/Object"), (9, u "in"), (0, u "Ljava/io/BufferedInputStream;"), (2, u "shapes"), (2, u "mended"), (0, u "Lcom/example/zbirka/zbirka/RecordFormatException;"), (2, u "offset"), (0, u "J"), (31, u "malformedAt"), (0, u "I"), (68, u "indexOf"), (0, u "([BBII)I"), (49, .class_ 192), (0, u "com/example/zbirka/zbirka/RecordReader"), (0, u "RECORD_END"), (0, u "B"), (2, u "FIELD_END"), (1, u "SUBFIELD_DELIMITER"), (1, u "MAX_RECORD_LENGTH"), (0, u "LEADER_LENGTH"), (1, u "ENTRY_LENGTH")] 41

def k5c0 : Code := { maxStack := 2, maxLocals := 5, code := prog_11_method_12_code, exceptionTable := #[], attributes := #[] }
def k5m0 : Method := { name := "indexOf", desc := "([BBII)I", sig := { parameters := [(.array .byte), .byte, .int, .int], returnType := some .int }, accessFlags := 8, code := some k5c0 }
/-- com/example/zbirka/zbirka/Iso2709Reader -/
def k5 : Class := { plain "com/example/zbirka/zbirka/Iso2709Reader" (some 0) with
  accessFlags := 49
  interfaces := #[4]
  cf := some (fileOf pool5 8 #[] #[{ accessFlags := 8, nameIndex := 140, descriptorIndex := 141, attributes := #[] }] 49 14 #[191] #[{ accessFlags := 24, nameIndex := 193, descriptorIndex := 194, attributes := #[] }, { accessFlags := 24, nameIndex := 197, descriptorIndex := 194, attributes := #[] }, { accessFlags := 24, nameIndex := 199, descriptorIndex := 194, attributes := #[] }, { accessFlags := 24, nameIndex := 201, descriptorIndex := 71, attributes := #[] }, { accessFlags := 24, nameIndex := 202, descriptorIndex := 71, attributes := #[] }, { accessFlags := 24, nameIndex := 204, descriptorIndex := 71, attributes := #[] }, { accessFlags := 18, nameIndex := 26, descriptorIndex := 27, attributes := #[] }, { accessFlags := 18, nameIndex := 30, descriptorIndex := 6, attributes := #[] }, { accessFlags := 2, nameIndex := 37, descriptorIndex := 38, attributes := #[] }, { accessFlags := 2, nameIndex := 70, descriptorIndex := 71, attributes := #[] }, { accessFlags := 2, nameIndex := 33, descriptorIndex := 34, attributes := #[] }])
  fields := #[{ name := "RECORD_END", type := .byte, accessFlags := 24, slot := 0, constantValue := 0 }, { name := "FIELD_END", type := .byte, accessFlags := 24, slot := 1, constantValue := 0 }, { name := "SUBFIELD_DELIMITER", type := .byte, accessFlags := 24, slot := 2, constantValue := 0 }, { name := "MAX_RECORD_LENGTH", type := .int, accessFlags := 24, slot := 3, constantValue := 0 }, { name := "LEADER_LENGTH", type := .int, accessFlags := 24, slot := 4, constantValue := 0 }, { name := "ENTRY_LENGTH", type := .int, accessFlags := 24, slot := 5, constantValue := 0 }, { name := "in", type := (.object "java/io/BufferedInputStream"), accessFlags := 18, slot := 0, constantValue := 0 }, { name := "shapes", type := (.object "com/example/zbirka/zbirka/FieldShapes"), accessFlags := 18, slot := 1, constantValue := 0 }, { name := "offset", type := .long, accessFlags := 2, slot := 2, constantValue := 0 }, { name := "malformedAt", type := .int, accessFlags := 2, slot := 3, constantValue := 0 }, { name := "mended", type := (.object "com/example/zbirka/zbirka/RecordFormatException"), accessFlags := 2, slot := 4, constantValue := 0 }]
  methods := #[k5m0]
  instanceTypes := #[(.object "java/io/BufferedInputStream"), (.object "com/example/zbirka/zbirka/FieldShapes"), .long, .int, (.object "com/example/zbirka/zbirka/RecordFormatException")]
  staticTypes := #[.byte, .byte, .byte, .int, .int, .int]
  resolved := Array.replicate 246 none
  statics := none }

def pool6 : Array CpInfo := pool [(1, u "java/lang/Cloneable"), (0, .class_ 1), (0, u "java/lang/Object"), (0, .class_ 3)] 3

/-- java/lang/Cloneable -/
def k6 : Class := { plain "java/lang/Cloneable" (some 0) with
  accessFlags := 1537
  interfaces := #[]
  cf := some (fileOf pool6 2 #[] #[] 1537 4 #[] #[])
  fields := #[]
  methods := #[]
  instanceTypes := #[]
  staticTypes := #[]
  resolved := Array.replicate 8 none
  statics := none }

def pool7 : Array CpInfo := pool [(1, u "java/io/Serializable"), (0, .class_ 1), (0, u "java/lang/Object"), (0, .class_ 3)] 3

/-- java/io/Serializable -/
def k7 : Class := { plain "java/io/Serializable" (some 0) with
  accessFlags := 1537
  interfaces := #[]
  cf := some (fileOf pool7 2 #[] #[] 1537 4 #[] #[])
  fields := #[]
  methods := #[]
  instanceTypes := #[]
  staticTypes := #[]
  resolved := Array.replicate 8 none
  statics := none }

/-- the primitive byte -/
def k8 : Class := { plain "byte" none with kind := .primitive 'B', accessFlags := 0x411 }
/-- [B -/
def k9 : Class := { plain "[B" (some 0) with kind := .array 8 .byte, interfaces := #[6, 7], accessFlags := 1041 }

/-- the primitive int -/
def k10 : Class := { plain "int" none with kind := .primitive 'I', accessFlags := 0x411 }
/-- [I -/
def k11 : Class := { plain "[I" (some 0) with kind := .array 10 .int, interfaces := #[6, 7], accessFlags := 1041 }

def heap : Heap := #[]
def classes : Array Class := #[k0, k1, k2, k3, k4, k5, k6, k7, k8, k9, k10, k11]
def interned : List (Array UInt16 × Addr) := []
def slotsUsed : Nat := 0
def theMethod : MethodId := ⟨1, 1⟩
def args0 : Array Value := #[.int 5, .int 7, .int 5, .int 7]
def aboutOver (below : List Frame) : State where
  vm := { classes := classes, interned := interned.toArray }
  heap := heap
  slotsUsed := slotsUsed
  threads := #[{ frames := .invoking theMethod args0 :: below }]
def below0 : List Frame := [.native { method := ⟨0, 0⟩, args := #[] }]
def about1 : State := aboutOver below0
def p0 : Program := .bare "" "" ""
def e0 : Env := launch0.env 0 0 0
theorem w_frames : about1.frames = Frame.invoking theMethod args0 :: below0 := rfl
set_option maxRecDepth 65536 in
theorem w_args : argsFit about1.vm theMethod args0 = true := by decide +kernel
set_option maxRecDepth 65536 in
theorem w_heap : heapFits about1 = true := by decide +kernel
set_option maxRecDepth 65536 in
theorem w_runnable : about1.curStatus? = some .runnable := by decide +kernel
set_option maxRecDepth 65536 in
theorem w_alone : about1.alone = true := by decide +kernel
set_option maxRecDepth 65536 in
theorem w_named : about1.methodNamed? x = some theMethod := by decide +kernel
set_option maxRecDepth 65536 in
theorem w_hears : about1.hears theMethod below0 = true := by decide +kernel
set_option maxRecDepth 65536 in
theorem w_ripe : about1.ripe theMethod args0 below0 = true := by decide +kernel
theorem w_running : about1.status = .running := rfl
set_option maxRecDepth 65536 in
theorem w_room : about1.hasRoom e0.platform room_1 = true :=
  launch0.hasRoom_least _ room_1 (by decide +kernel) (by decide +kernel) (by decide +kernel) (by decide +kernel) (by decide +kernel) (by decide +kernel)
theorem allAtoms_all (ts : List Jvm.Cond) (a : Array Jvm.Value) (st : Jvm.State) : (allAtoms ts).before a st = ts.all (fun c => c.before a st) := by
  induction ts with
  | nil => rfl
  | cons c t ih =>
    show (Jvm.Cond.and c (allAtoms t)).before a st = _
    rw [Jvm.Cond.before_and, ih, List.all_cons]
def words1 : List Jvm.Cond := Jvm.Cond.code x code maxLocals ret :: tables_1
/-- a 'code' word, met by the world's own term for the bytes: nothing is compared byte by byte -/
theorem code_word {y : MethodName} {bytes : ByteArray} {mx : Nat} {rt : Option FieldType} {a : Array Value} {s : State} {m : MethodId} {meth : Method} {c : Code} (h1 : s.methodNamed? y = some m) (h2 : s.vm.method? m = some meth) (h3 : meth.code = some c) (h4 : c.code = bytes)
    (h5 : (c.maxLocals == mx && c.exceptionTable.isEmpty && decide (c.maxStack ≤ mostOperands) && decide (meth.sig.returnType = rt) && !meth.locks && decide (parseMethodDescriptor y.desc = some meth.sig)) = true) : (Jvm.Cond.code y bytes mx rt).before a s = true := by
  simp only [Bool.and_eq_true, beq_iff_eq, Bool.not_eq_true', decide_eq_true_eq] at h5
  obtain ⟨⟨⟨⟨⟨g1, g2⟩, g3⟩, g4⟩, g5⟩, g6⟩ := h5
  simp [Cond.before, Cond.holds, Cond.value, h1, h2, h3, h4, g1, g2, g3, g4, g5, g6]
def isCode : Jvm.Cond → Bool
  | .code _ _ _ _ => true
  | _ => false
theorem all_split {L : List Jvm.Cond} {P : Jvm.Cond → Bool} (h1 : L.all (fun c => isCode c || P c) = true) (h2 : ∀ c ∈ L.filter isCode, P c = true) : L.all P = true := by
  refine List.all_eq_true.mpr fun c hc => ?_
  have h := List.all_eq_true.mp h1 c hc
  rcases Bool.eq_false_or_eq_true (isCode c) with hi | hi
  · exact h2 c (List.mem_filter.mpr ⟨hc, hi⟩)
  · simpa [hi] using h
set_option maxRecDepth 65536 in
theorem w_c0 : (Jvm.Cond.code x code maxLocals ret).before args0 about1 = true := code_word (m := ⟨1, 1⟩) (meth := k1m1) (c := k1c1) (by decide +kernel) rfl rfl rfl (by decide +kernel)
set_option maxRecDepth 65536 in
theorem w_c1 : (Jvm.Cond.code ({ cls := "com/example/zbirka/zbirka/Iso2709Reader", name := "indexOf", desc := "([BBII)I" } : Jvm.MethodName) prog_11_method_12_code (5 : Nat) (Option.some Jvm.ClassFile.FieldType.int)).before args0 about1 = true := code_word (m := ⟨5, 0⟩) (meth := k5m0) (c := k5c0) (by decide +kernel) rfl rfl rfl (by decide +kernel)
set_option maxRecDepth 65536 in
theorem w_c2 : (Jvm.Cond.code ({ cls := "com/example/zbirka/zbirka/Iso2709ReaderIndexOfPinLaw", name := "reference", desc := "([BBII)I" } : Jvm.MethodName) method_4_code (4 : Nat) (Option.some Jvm.ClassFile.FieldType.int)).before args0 about1 = true := code_word (m := ⟨1, 3⟩) (meth := k1m3) (c := k1c3) (by decide +kernel) rfl rfl rfl (by decide +kernel)
set_option maxRecDepth 65536 in
theorem w_c3 : (Jvm.Cond.code ({ cls := "com/example/zbirka/zbirka/Iso2709ReaderIndexOfPinLaw", name := "hit", desc := "([BBIII)Z" } : Jvm.MethodName) method_3_code (5 : Nat) (Option.some Jvm.ClassFile.FieldType.boolean)).before args0 about1 = true := code_word (m := ⟨1, 2⟩) (meth := k1m2) (c := k1c2) (by decide +kernel) rfl rfl rfl (by decide +kernel)
def codes1 : List Jvm.Cond := [Jvm.Cond.code x code maxLocals ret, Jvm.Cond.code ({ cls := "com/example/zbirka/zbirka/Iso2709Reader", name := "indexOf", desc := "([BBII)I" } : Jvm.MethodName) prog_11_method_12_code (5 : Nat) (Option.some Jvm.ClassFile.FieldType.int), Jvm.Cond.code ({ cls := "com/example/zbirka/zbirka/Iso2709ReaderIndexOfPinLaw", name := "reference", desc := "([BBII)I" } : Jvm.MethodName) method_4_code (4 : Nat) (Option.some Jvm.ClassFile.FieldType.int), Jvm.Cond.code ({ cls := "com/example/zbirka/zbirka/Iso2709ReaderIndexOfPinLaw", name := "hit", desc := "([BBIII)Z" } : Jvm.MethodName) method_3_code (5 : Nat) (Option.some Jvm.ClassFile.FieldType.boolean)]
set_option maxRecDepth 65536 in
theorem codes_eq : words1.filter isCode = codes1 := rfl
theorem w_codes : ∀ c ∈ words1.filter isCode, c.before args0 about1 = true := by
  rw [codes_eq]
  intro c hc
  simp only [codes1, List.mem_cons, List.not_mem_nil, or_false] at hc
  rcases hc with rfl | rfl | rfl | rfl
  · exact w_c0
  · exact w_c1
  · exact w_c2
  · exact w_c3
set_option maxRecDepth 65536 in
theorem w_t1 : words1.all (fun c => isCode c || c.before args0 about1) = true := by decide +kernel
theorem w_tables : (allAtoms (Jvm.Cond.code x code maxLocals ret :: tables_1)).before args0 about1 = true := by
  rw [allAtoms_all]
  show words1.all (fun c => c.before args0 about1) = true
  refine all_split ?_ w_codes
  rw [w_t1]
set_option maxRecDepth 65536 in
theorem w_case : (Jvm.Cond.and given_1 narrow_1).before args0 about1 = true := by decide +kernel
theorem w_applies : (headSpec (Jvm.Cond.code x code maxLocals ret :: tables_1) room_1).applies x e0.platform about1 = true :=
  (Spec.applies_iff w_frames).mpr ⟨w_running, w_runnable, w_alone, w_named, w_hears, w_ripe, w_room, w_tables⟩
theorem atStart : AtStart classFile x code maxLocals ret World_1 tables_1 room_1 Calls_1 rest_1 Pre_1 launch0 p0 e0 about1 theMethod args0 below0 :=
  ⟨lists_1, trivial, launch0.admits_env _ _ _, launch0.least_env, fairChoices_fair.cas, fairChoices_fair.clock, w_frames, w_args, w_heap, w_applies, trivial, trivial, w_case⟩
end start1
theorem witness_1 : WitnessClaimed_1 := ⟨start1.p0, start1.e0, start1.about1, start1.theMethod, start1.args0, start1.below0, start1.atStart⟩
end Jvm.Pilot.@@N@@
