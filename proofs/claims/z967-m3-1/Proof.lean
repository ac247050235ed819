import JvmDerived
import JvmDerived.Pilot.@@N@@Statement
import JvmDerived.Pilot.@@N@@Code
set_option linter.unusedVariables false
set_option linter.unusedSimpArgs false

namespace Jvm.RoadKit
open Sem ClassFile Op Lib Jvm.Stand Jvm.Free Jvm.LawKit
section New
variable {p : Program} {l : Launch} {e : Env} {R : Room} {s : State} {m : MethodId} {args : Array Value} {below : List Frame} {meth : Method} {c : Code} {T : State} {locs : List Loc} {cells slots : Nat}
theorem retI (X : Stand p l e R s m args below meth c T locs cells slots) (hx : p.tables.exec = Jvm.exec) {pc : Nat} {Ls : Array Slot} {z : Int32} {rest : List Value} (hret : meth.sig.returnType = some .int) (hd : decode c.code pc = .ok (.ireturn, 1)) {fs : List Frame}
    (hl : ∀ (f : JFrame) (acts : List Action), f.method = m → f.locked = none → f.entered = [] → (doReturn e (T.setTop f) acts (some (.int z))).1 = T.setFrames fs) : Steps p.tables e below (T.setTop (mkF m pc Ls (.int z :: rest))) (T.setFrames fs) := by
  have hm' : T.vm.method? m = some meth := X.method'
  have hn : narrow .int (.int z) = .int z := rfl
  show Steps p.tables e below (T.setTop { method := m, pc := pc, locals := Ls, stack := _ :: rest, locked := none }) _
  jvm_step X.here [X.here.top, hx, hd, hm', hret, hn]
  first | (intro acts; rw [hl _ acts rfl rfl rfl]) | rw [hl _ _ rfl rfl rfl]
  exact Steps.refl _
end New
end Jvm.RoadKit
namespace Jvm.Pilot.@@N@@
open Jvm Jvm.ClassFile Sem Op Lib Jvm.Free Jvm.Stand Jvm.LawKit Jvm.RoadKit Bundle Jvm.Pilot.@@N@@.Jvm.D
/-- from A the run comes to B -/
abbrev Wy (tb : Tables) (e : Env) (below : List Frame) (A B : State) : Prop := ∀ t, Steps tb e below B t → Steps tb e below A t
theorem own_nat {c : Int32} (h : 0 ≤ c.toInt) : c = Int32.ofNat c.toInt.toNat := by
  apply Int32.toInt_inj.mp
  have h1 := c.toInt_lt
  rw [Int32.toInt_ofNat_of_lt (by omega)]
  omega
theorem own_lt {a b : Int32} : a < b ↔ a.toInt < b.toInt := Int32.lt_iff_toInt_lt
theorem own_ltF (k : Nat) (c : Int32) (h0 : 0 ≤ c.toInt) (h1 : c.toInt < k) : ∃ n : Fin k, c = Int32.ofNat n.val :=
  ⟨⟨c.toInt.toNat, by omega⟩, own_nat h0⟩
theorem own_rem (x y : Int32) (hx : 0 ≤ x.toInt) (hy : 0 < y.toInt) : (x - (x / y) * y).toInt = x.toInt % y.toInt := by
  have h1 := (c_idiv x y y.toInt rfl (by intro h; rw [h] at hy; exact absurd hy (by decide))).1 hx
  have h2 := c_imul (x / y) y
  have h3 := c_isub x ((x / y) * y)
  have r1 := rng32 ((x / y) * y)
  have r2 := rng32 (x - (x / y) * y)
  have r3 := rng32 x
  have r4 := rng32 y
  have e : x.toInt / y.toInt * y.toInt = x.toInt - x.toInt % y.toInt := by
    have := Int.emod_def x.toInt y.toInt
    rw [Int.mul_comm] at this
    omega
  rw [h1, e] at h2
  have b1 := Int.emod_nonneg x.toInt (show y.toInt ≠ 0 by omega)
  have b2 := Int.emod_lt_of_pos x.toInt hy
  have b3 : x.toInt % y.toInt ≤ x.toInt := by
    by_cases q : x.toInt < y.toInt
    · rw [Int.emod_eq_of_lt hx q]; omega
    · omega
  omega
theorem own_nm {a b : Addr} (h : a ≠ b) : a ∉ [b] := by simpa using h
theorem own_nm2 {a b c : Addr} (h : a ≠ b) (h2 : a ≠ c) : a ∉ [b, c] := by simp [h, h2]

/-- a function turned at one place -/
def own_upd {α : Type} (f : Nat → α) (k : Nat) (v : α) : Nat → α := fun j => if j = k then v else f j
/-- the array at ad holds mk (f 0) .. mk (f (n - 1)) -/
def own_Ar {α : Type} (mk : α → Value) (ty : FieldType) (Z : State) (h : Heap) (ad : Addr) (n : Nat) (f : Nat → α) : Prop :=
  ∃ cl : Cell, Arr Z h ad cl ty ∧ cl.slots.size = n ∧ ∀ k, k < n → cl.slots[k]? = some (mk (f k))
theorem own_Ar.ext {α : Type} {mk : α → Value} {ty : FieldType} {Z : State} {h h' : Heap} {ad : Addr} {n : Nat} {f : Nat → α} (I : own_Ar mk ty Z h ad n f) (E : Ext h h') : own_Ar mk ty Z h' ad n f := by
  obtain ⟨cl, A, r⟩ := I; exact ⟨cl, A.ext E, r⟩
theorem own_Ar.other {α : Type} {mk : α → Value} {ty : FieldType} {Z : State} {h h' : Heap} {ad b : Addr} {sl : Nat} {v : Value} {n : Nat} {f : Nat → α} (I : own_Ar mk ty Z h ad n f) (W : Wr h h' b sl v) (q : ad ≠ b) : own_Ar mk ty Z h' ad n f := by
  obtain ⟨cl, A, r⟩ := I; exact ⟨cl, A.other W q, r⟩
theorem own_Ar.keep {α : Type} {mk : α → Value} {ty : FieldType} {Z : State} {h h' : Heap} {ad : Addr} {ws : List Addr} {n : Nat} {f : Nat → α} (I : own_Ar mk ty Z h ad n f) (K : Keep h h' ws) (q : ad ∉ ws) : own_Ar mk ty Z h' ad n f := by
  obtain ⟨cl, A, r⟩ := I; exact ⟨cl, ⟨K.2.1 ad cl A.1 q, A.2⟩, r⟩
theorem own_Ar.lt {α : Type} {mk : α → Value} {ty : FieldType} {Z : State} {h : Heap} {ad : Addr} {n : Nat} {f : Nat → α} (I : own_Ar mk ty Z h ad n f) : ad < h.size := by
  obtain ⟨cl, A, r⟩ := I; exact A.lt
theorem own_Ar.same {α : Type} {mk : α → Value} {ty : FieldType} {Z : State} {h : Heap} {ad : Addr} {n : Nat} {f g : Nat → α} (I : own_Ar mk ty Z h ad n f) (e : ∀ k, k < n → f k = g k) : own_Ar mk ty Z h ad n g := by
  obtain ⟨cl, A, s, r⟩ := I; exact ⟨cl, A, s, fun k hk => by rw [r k hk, e k hk]⟩
theorem own_ofN {n : Nat} (h : n < 2147483648) : (Int32.ofNat n).toInt = n := Int32.toInt_ofNat_of_lt h
theorem own_ofC {n : Nat} (h : n < 2147483648) : (Int32.ofNat n).toNatClampNeg = n := Int32.toNatClampNeg_ofNat_of_lt h
theorem own_one (i : Nat) : Int32.ofNat i + (1 : Int32) = Int32.ofNat (i + 1) := (Int32.ofNat_add i 1).symm
theorem own_ltN {i t : Nat} (hi : i < 2147483648) (ht : t < 2147483648) : Int32.ofNat i < Int32.ofNat t ↔ i < t := by
  rw [Int32.lt_iff_toInt_lt, own_ofN hi, own_ofN ht]; omega
theorem own_Ar.at {α : Type} {mk : α → Value} {ty : FieldType} {Z : State} {h : Heap} {ad : Addr} {n : Nat} {f : Nat → α} (I : own_Ar mk ty Z h ad n f) {j : Int32} {k : Nat} (hj : j = Int32.ofNat k) (hk : k < n) (hn : n < 2147483648) :
    ∃ cl : Cell, Arr Z h ad cl ty ∧ (¬ (j < 0 ∨ cl.slots.size ≤ j.toNatClampNeg)) ∧ cl.slots[j.toNatClampNeg]? = some (mk (f k)) ∧ ∀ (h' : Heap) (v : α), Wr h h' ad j.toNatClampNeg (mk v) → own_Ar mk ty Z h' ad n (own_upd f k v) := by
  obtain ⟨cl, A, s, r⟩ := I
  have e : j.toNatClampNeg = k := by rw [hj]; exact own_ofC (by omega)
  have z : (0 : Int32).toInt = 0 := rfl
  refine ⟨cl, A, ?_, by rw [e]; exact r k hk, fun h' v W => ⟨_, A.same W, by rw [sz_set]; exact s, fun i hi => ?_⟩⟩
  · rw [e, s, Int32.lt_iff_toInt_lt, hj, own_ofN (by omega)]; omega
  · show (cl.slots.setIfInBounds j.toNatClampNeg (mk v))[i]? = some (mk (if i = k then v else f i))
    rw [e]
    by_cases q : i = k
    · subst q
      rw [if_pos rfl, Array.getElem?_setIfInBounds_self_of_lt (by omega)]
    · rw [if_neg q, Array.getElem?_setIfInBounds_ne (by omega)]
      exact r i hi
theorem own_Ar.ofInt {Z : State} {h : Heap} {a : Addr} {k : ClassId} {z : Int32} {n : Nat} (V : Arv Z h a k .int z [] (.int 0)) (hz : z.toNatClampNeg = n) : own_Ar Value.int .int Z h a n (fun _ => (0 : Int32)) := by
  obtain ⟨cl, A, -, S, -, H, -⟩ := V
  exact ⟨cl, A, by rw [S, hz], fun k hk => by rw [H k (by rw [S, hz]; exact hk)]; rfl⟩
theorem own_Ar.ofLong {Z : State} {h : Heap} {a : Addr} {k : ClassId} {z : Int32} {n : Nat} (V : Arv Z h a k .long z [] (.long 0)) (hz : z.toNatClampNeg = n) : own_Ar Value.long .long Z h a n (fun _ => (0 : Int64)) := by
  obtain ⟨cl, A, -, S, -, H, -⟩ := V
  exact ⟨cl, A, by rw [S, hz], fun k hk => by rw [H k (by rw [S, hz]; exact hk)]; rfl⟩

def own_f0 : Nat → Int32 := fun _ => (-1 : Int32)
def own_im (v : Int32) : Int32 := if v = (-1 : Int32) then (0 : Int32) else (1 : Int32)
theorem own_im0 {v : Int32} (h : v = -1) : own_im v = (0 : Int32) := by rw [h]; rfl
theorem own_im1 {k n : Nat} (hk : k < n) (h : 2 ≤ n ∧ n ≤ 9) : own_im (Int32.ofNat k) = 1 := by
  unfold own_im
  rw [if_neg]
  intro q
  have := congrArg Int32.toInt q
  rw [own_ofN (by omega), show (-1 : Int32).toInt = -1 from rfl] at this
  omega
theorem own_n {ax n : Int32} (hn : n = ((ax &&& (7 : Int32)) + (2 : Int32))) : 2 ≤ n.toInt ∧ n.toInt ≤ 9 := by
  have h := c_and ax 7 (by decide)
  have a := c_iadd (ax &&& 7) 2
  have r := rng32 ((ax &&& 7) + 2)
  rw [← hn] at a r
  rw [show (7 : Int32).toInt = 7 from rfl] at h
  rw [show (2 : Int32).toInt = 2 from rfl] at a
  omega
theorem own_n0 {ax n : Int32} (hn : n = ((ax &&& (7 : Int32)) + (2 : Int32))) : n ≠ 0 := by
  have h := own_n hn
  intro q
  rw [q, show (0 : Int32).toInt = 0 from rfl] at h
  omega
theorem own_r {z n v : Int32} (h : 2 ≤ n.toInt ∧ n.toInt ≤ 9) (hz : 0 ≤ z.toInt) (hv : v = z - (z / n) * n) : 0 ≤ v.toInt ∧ v.toInt < n.toInt ∧ v.toInt = z.toInt % n.toInt := by
  have q := own_rem z n hz (by omega)
  rw [← hv] at q
  have b1 := Int.emod_nonneg z.toInt (show n.toInt ≠ 0 by omega)
  have b2 := Int.emod_lt_of_pos z.toInt (show 0 < n.toInt by omega)
  omega
theorem own_m {z n v : Int32} (h : 2 ≤ n.toInt ∧ n.toInt ≤ 9) (hv : v = ((z &&& (2147483647 : Int32)) - ((z &&& (2147483647 : Int32)) / n) * n)) : 0 ≤ v.toInt ∧ v.toInt < n.toInt := by
  have q := own_r h (c_and z 2147483647 (by decide)).1 hv
  exact ⟨q.1, q.2.1⟩
theorem own_rngs {ax bx cx dx ex fx n u v0 v q x y : Int32} (hn : n = ((ax &&& (7 : Int32)) + (2 : Int32))) (hu : u = ((bx &&& (2147483647 : Int32)) - ((bx &&& (2147483647 : Int32)) / n) * n)) (hv0 : v0 = ((cx &&& (2147483647 : Int32)) - ((cx &&& (2147483647 : Int32)) / n) * n))
    (hv : v = (if u = v0 then ((u + (1 : Int32)) - ((u + (1 : Int32)) / n) * n) else v0)) (hq : q = ((dx &&& (2147483647 : Int32)) - ((dx &&& (2147483647 : Int32)) / n) * n)) (hx : x = ((ex &&& (2147483647 : Int32)) - ((ex &&& (2147483647 : Int32)) / n) * n)) (hy : y = ((fx &&& (2147483647 : Int32)) - ((fx &&& (2147483647 : Int32)) / n) * n)) :
    ∃ nn un vn qn xn yn : Nat, (2 ≤ nn ∧ nn ≤ 9) ∧ n = Int32.ofNat nn ∧ u = Int32.ofNat un ∧ un < nn ∧ v = Int32.ofNat vn ∧ vn < nn ∧ un ≠ vn ∧ q = Int32.ofNat qn ∧ qn < nn ∧ x = Int32.ofNat xn ∧ xn < nn ∧ y = Int32.ofNat yn ∧ yn < nn := by
  have h := own_n hn
  have a := own_m h hu
  have b := own_m h hv0
  have c := own_m h hq
  have d := own_m h hx
  have e := own_m h hy
  have f : 0 ≤ v.toInt ∧ v.toInt < n.toInt ∧ u.toInt ≠ v.toInt := by
    by_cases k : u = v0
    · rw [if_pos k] at hv
      have s := c_iadd u 1
      have rs := rng32 (u + 1)
      rw [show (1 : Int32).toInt = 1 from rfl] at s
      have g := own_r h (by omega) hv
      refine ⟨g.1, g.2.1, ?_⟩
      by_cases w : u.toInt + 1 < n.toInt
      · rw [Int.emod_eq_of_lt (by omega) (by omega)] at g; omega
      · rw [show (u + 1).toInt = n.toInt by omega, Int.emod_self] at g; omega
    · rw [if_neg k] at hv
      subst hv
      exact ⟨b.1, b.2, fun w => k (Int32.toInt_inj.mp w)⟩
  exact ⟨n.toInt.toNat, u.toInt.toNat, v.toInt.toNat, q.toInt.toNat, x.toInt.toNat, y.toInt.toNat, by omega, own_nat (by omega), own_nat a.1, by omega, own_nat f.1, by omega, by omega, own_nat c.1, by omega, own_nat d.1, by omega, own_nat e.1, by omega⟩
theorem own_b {nn : Nat} (h : 2 ≤ nn ∧ nn ≤ 9) : nn < 2147483648 := by omega
theorem own_neg {nx : Int32} {nn : Nat} (hx : nx = Int32.ofNat nn) (h : 2 ≤ nn ∧ nn ≤ 9) : ¬ nx < 0 := by
  rw [hx, own_lt, own_ofN (by omega), show (0 : Int32).toInt = 0 from rfl]; omega
theorem own_cl {nx : Int32} {nn : Nat} (hx : nx = Int32.ofNat nn) (h : 2 ≤ nn ∧ nn ≤ 9) : nx.toNatClampNeg = nn := by
  rw [hx]; exact own_ofC (by omega)
theorem own_cap {nx : Int32} {nn : Nat} (hx : nx = Int32.ofNat nn) (h : 2 ≤ nn ∧ nn ≤ 9) : nx.toNatClampNeg ≤ 9 := by
  rw [own_cl hx h]; omega
theorem own_eqN {a b : Int32} {i j n : Nat} (h : 2 ≤ n ∧ n ≤ 9) (ha : a = Int32.ofNat i) (hi : i < n) (hb : b = Int32.ofNat j) (hj : j < n) : a = b ↔ i = j := by
  subst ha hb
  refine ⟨fun q => ?_, fun q => by rw [q]⟩
  have := congrArg Int32.toInt q
  rw [own_ofN (by omega), own_ofN (by omega)] at this
  omega
theorem own_ne {u v : Int32} {i j n : Nat} (h : 2 ≤ n ∧ n ≤ 9) (ha : u = Int32.ofNat i) (hi : i < n) (hb : v = Int32.ofNat j) (hj : j < n) (k : i ≠ j) : ¬ u = v := fun q => k ((own_eqN h ha hi hb hj).mp q)
theorem own_sec {w x y u v s : Int32} (hs : s = (if w = (0 : Int32) then (0 : Int32) else (if x = y then (0 : Int32) else (if x = u then (0 : Int32) else (if x = v then (0 : Int32) else (if y = u then (0 : Int32) else (if y = v then (0 : Int32) else (1 : Int32)))))))) (k : ¬ s = (0 : Int32)) : ¬ x = y ∧ ¬ x = u ∧ ¬ x = v ∧ ¬ y = u ∧ ¬ y = v := by
  subst hs
  refine ⟨fun q => k ?_, fun q => k ?_, fun q => k ?_, fun q => k ?_, fun q => k ?_⟩
  all_goals (simp only [q, if_true]; repeat' (first | rfl | split))
theorem own_s1 {w x y u v s : Int32} (hs : s = (if w = (0 : Int32) then (0 : Int32) else (if x = y then (0 : Int32) else (if x = u then (0 : Int32) else (if x = v then (0 : Int32) else (if y = u then (0 : Int32) else (if y = v then (0 : Int32) else (1 : Int32)))))))) (k : ¬ s = (0 : Int32)) : ¬ x = y := (own_sec hs k).1
theorem own_s2 {w x y u v s : Int32} {un vn xn n : Nat} (h : 2 ≤ n ∧ n ≤ 9) (hu : u = Int32.ofNat un) (hu1 : un < n) (hv : v = Int32.ofNat vn) (hv1 : vn < n) (hx : x = Int32.ofNat xn) (hx1 : xn < n) (hs : s = (if w = (0 : Int32) then (0 : Int32) else (if x = y then (0 : Int32) else (if x = u then (0 : Int32) else (if x = v then (0 : Int32) else (if y = u then (0 : Int32) else (if y = v then (0 : Int32) else (1 : Int32)))))))) (k : ¬ s = (0 : Int32)) : (own_upd (own_upd own_f0 un v) vn u) xn = -1 := by
  have q := own_sec hs k
  rw [own_eqN h hx hx1 hu hu1, own_eqN h hx hx1 hv hv1] at q
  simp only [own_upd]
  rw [if_neg q.2.2.1, if_neg q.2.1]
  rfl
theorem own_s3 {w x y u v s : Int32} {un vn yn n : Nat} (h : 2 ≤ n ∧ n ≤ 9) (hu : u = Int32.ofNat un) (hu1 : un < n) (hv : v = Int32.ofNat vn) (hv1 : vn < n) (hy : y = Int32.ofNat yn) (hy1 : yn < n) (hs : s = (if w = (0 : Int32) then (0 : Int32) else (if x = y then (0 : Int32) else (if x = u then (0 : Int32) else (if x = v then (0 : Int32) else (if y = u then (0 : Int32) else (if y = v then (0 : Int32) else (1 : Int32)))))))) (k : ¬ s = (0 : Int32)) : (own_upd (own_upd own_f0 un v) vn u) yn = -1 := by
  have q := own_sec hs k
  have q4 : yn ≠ un := fun e => q.2.2.2.1 ((own_eqN h hy hy1 hu hu1).mpr e)
  have q5 : yn ≠ vn := fun e => q.2.2.2.2 ((own_eqN h hy hy1 hv hv1).mpr e)
  simp only [own_upd]
  rw [if_neg q5, if_neg q4]
  rfl
theorem own_fin1 {u v q g r : Int32} {un vn qn n : Nat} (h : 2 ≤ n ∧ n ≤ 9) (hu : u = Int32.ofNat un) (hu1 : un < n) (hv : v = Int32.ofNat vn) (hv1 : vn < n) (hq : q = Int32.ofNat qn) (hq1 : qn < n) (hg : g = own_im ((own_upd (own_upd own_f0 un v) vn u) qn)) (hr : r = (if q = u then (1 : Int32) else (if q = v then (1 : Int32) else (0 : Int32)))) : g = r := by
  subst hg hr
  simp only [own_eqN h hq hq1 hu hu1, own_eqN h hq hq1 hv hv1, own_upd]
  by_cases a : qn = vn
  · rw [if_pos a, if_pos a, hu, own_im1 hu1 h]; split <;> rfl
  · rw [if_neg a, if_neg a]
    by_cases b : qn = un
    · rw [if_pos b, if_pos b, hv, own_im1 hv1 h]
    · rw [if_neg b, if_neg b]; rfl
theorem own_fin2 {u v x y q g r : Int32} {un vn xn yn qn n : Nat} (h : 2 ≤ n ∧ n ≤ 9) (hu : u = Int32.ofNat un) (hu1 : un < n) (hv : v = Int32.ofNat vn) (hv1 : vn < n) (hq : q = Int32.ofNat qn) (hq1 : qn < n) (hx : x = Int32.ofNat xn) (hx1 : xn < n) (hy : y = Int32.ofNat yn) (hy1 : yn < n) (hg : g = own_im ((own_upd (own_upd (own_upd (own_upd own_f0 un v) vn u) xn y) yn x) qn))
    (hr : r = (if q = u then (1 : Int32) else (if q = v then (1 : Int32) else (if q = x then (1 : Int32) else (if q = y then (1 : Int32) else (0 : Int32)))))) : g = r := by
  subst hg hr
  simp only [own_eqN h hq hq1 hu hu1, own_eqN h hq hq1 hv hv1, own_eqN h hq hq1 hx hx1, own_eqN h hq hq1 hy hy1, own_upd]
  by_cases c : qn = yn
  · rw [if_pos c, if_pos c, hx, own_im1 hx1 h]; (repeat' split) <;> rfl
  · rw [if_neg c, if_neg c]
    by_cases d : qn = xn
    · rw [if_pos d, if_pos d, hy, own_im1 hy1 h]; (repeat' split) <;> rfl
    · rw [if_neg d, if_neg d]
      by_cases a : qn = vn
      · rw [if_pos a, if_pos a, hu, own_im1 hu1 h]; split <;> rfl
      · rw [if_neg a, if_neg a]
        by_cases b : qn = un
        · rw [if_pos b, if_pos b, hv, own_im1 hv1 h]
        · rw [if_neg b, if_neg b]; rfl

theorem d3_5 : decode jdk_65_method_103_code 5 = .ok (.iload_n 2, 1) := by decide +kernel
theorem d3_6 : decode jdk_65_method_103_code 6 = .ok (.iload_n 3, 1) := by decide +kernel
theorem d3_7 : decode jdk_65_method_103_code 7 = .ok (.if_icmp .ge 13, 3) := by decide +kernel
theorem d3_10 : decode jdk_65_method_103_code 10 = .ok (.aload_n 0, 1) := by decide +kernel
theorem d3_11 : decode jdk_65_method_103_code 11 = .ok (.iload_n 2, 1) := by decide +kernel
theorem d3_12 : decode jdk_65_method_103_code 12 = .ok (.iload_n 1, 1) := by decide +kernel
set_option maxRecDepth 65536 in
set_option maxHeartbeats 40000000 in
theorem sf_in {p : Program} {l : Launch} {e : Env} {R : Room} {s : State} {m : MethodId} {args : Array Value} {below : List Frame} {meth : Method} {c : Code} {T0 : State} {locs : List Loc} {cells slots : Nat} {Z : State} {a0 : Array Value} {h0 : Heap} (ad : Addr) (vx ii nn : Int32) (X0 : Stand p l e R s m args below meth c T0 locs cells slots) (hx : p.tables.exec = Jvm.exec) (hZ : Z.Warmed39 s.vm) (hw : ∀ d ∈ tables_1, d.before a0 Z = true) (hby : c.code = jdk_65_method_103_code) (hml : c.maxLocals = 4) (hown : s.vm.findClass "java/util/Arrays" = some m.cls) (e0 : T0.heap = h0) (hc : ii < nn) :
    Wy p.tables e below (T0.setTop (mkF m 5 #[.val (.ref ad), .val (.int vx), .val (.int ii), .val (.int nn)] [])) (T0.setTop (mkF m 13 #[.val (.ref ad), .val (.int vx), .val (.int ii), .val (.int nn)] [(.int vx), (.int ii), (.ref ad)])) := by
  have P0 : Wy p.tables e below (T0.setTop (mkF m 5 #[.val (.ref ad), .val (.int vx), .val (.int ii), .val (.int nn)] [])) (T0.setTop (mkF m 5 #[.val (.ref ad), .val (.int vx), .val (.int ii), .val (.int nn)] [])) := fun t k => k
  have P1 : Wy p.tables e below (T0.setTop (mkF m 5 #[.val (.ref ad), .val (.int vx), .val (.int ii), .val (.int nn)] [])) (T0.setTop (mkF m 13 #[.val (.ref ad), .val (.int vx), .val (.int ii), .val (.int nn)] [(.int vx), (.int ii), (.ref ad)])) := fun t k => P0 t (by
    show Steps p.tables e below (T0.setTop (mkF m 5 #[.val (.ref ad), .val (.int vx), .val (.int ii), .val (.int nn)] [])) _
    refine XS.iloadN X0.here hx rfl (hb hby d3_5) rfl  ?_
    show Steps p.tables e below (T0.setTop (mkF m 6 #[.val (.ref ad), .val (.int vx), .val (.int ii), .val (.int nn)] [(.int ii)])) _
    refine XS.iloadN X0.here hx rfl (hb hby d3_6) rfl  ?_
    show Steps p.tables e below (T0.setTop (mkF m 7 #[.val (.ref ad), .val (.int vx), .val (.int ii), .val (.int nn)] [(.int nn), (.int ii)])) _
    refine XS.icmpNo X0.here hx rfl (hb hby d3_7) rfl (tlt (hc : ii < nn)).2.1 ?_
    show Steps p.tables e below (T0.setTop (mkF m 10 #[.val (.ref ad), .val (.int vx), .val (.int ii), .val (.int nn)] [])) _
    refine XS.aloadN X0.here hx rfl (hb hby d3_10) rfl rfl  ?_
    show Steps p.tables e below (T0.setTop (mkF m 11 #[.val (.ref ad), .val (.int vx), .val (.int ii), .val (.int nn)] [(.ref ad)])) _
    refine XS.iloadN X0.here hx rfl (hb hby d3_11) rfl  ?_
    show Steps p.tables e below (T0.setTop (mkF m 12 #[.val (.ref ad), .val (.int vx), .val (.int ii), .val (.int nn)] [(.int ii), (.ref ad)])) _
    refine XS.iloadN X0.here hx rfl (hb hby d3_12) rfl  ?_
    exact k)
  exact P1
theorem d3_14 : decode jdk_65_method_103_code 14 = .ok (.iinc 2 1, 3) := by decide +kernel
theorem d3_17 : decode jdk_65_method_103_code 17 = .ok (.goto (-12), 3) := by decide +kernel
set_option maxRecDepth 65536 in
set_option maxHeartbeats 40000000 in
theorem sf_back {p : Program} {l : Launch} {e : Env} {R : Room} {s : State} {m : MethodId} {args : Array Value} {below : List Frame} {meth : Method} {c : Code} {T0 : State} {locs : List Loc} {cells slots : Nat} {Z : State} {a0 : Array Value} {h0 : Heap} (ad : Addr) (vx ii nn : Int32) (X0 : Stand p l e R s m args below meth c T0 locs cells slots) (hx : p.tables.exec = Jvm.exec) (hZ : Z.Warmed39 s.vm) (hw : ∀ d ∈ tables_1, d.before a0 Z = true) (hby : c.code = jdk_65_method_103_code) (hml : c.maxLocals = 4) (hown : s.vm.findClass "java/util/Arrays" = some m.cls) (e0 : T0.heap = h0)  :
    Wy p.tables e below (T0.setTop (mkF m 14 #[.val (.ref ad), .val (.int vx), .val (.int ii), .val (.int nn)] [])) (T0.setTop (mkF m 5 #[.val (.ref ad), .val (.int vx), .val (.int (ii + (1 : Int32))), .val (.int nn)] [])) := by
  have P0 : Wy p.tables e below (T0.setTop (mkF m 14 #[.val (.ref ad), .val (.int vx), .val (.int ii), .val (.int nn)] [])) (T0.setTop (mkF m 14 #[.val (.ref ad), .val (.int vx), .val (.int ii), .val (.int nn)] [])) := fun t k => k
  have P1 : Wy p.tables e below (T0.setTop (mkF m 14 #[.val (.ref ad), .val (.int vx), .val (.int ii), .val (.int nn)] [])) (T0.setTop (mkF m 5 #[.val (.ref ad), .val (.int vx), .val (.int (ii + (1 : Int32))), .val (.int nn)] [])) := fun t k => P0 t (by
    show Steps p.tables e below (T0.setTop (mkF m 14 #[.val (.ref ad), .val (.int vx), .val (.int ii), .val (.int nn)] [])) _
    refine XS.iinc X0.here hx rfl (hb hby d3_14) rfl (l' := #[.val (.ref ad), .val (.int vx), .val (.int (ii + (1 : Int32))), .val (.int nn)]) rfl ?_
    show Steps p.tables e below (T0.setTop (mkF m 17 #[.val (.ref ad), .val (.int vx), .val (.int (ii + (1 : Int32))), .val (.int nn)] [])) _
    refine XS.goto X0.here hx rfl (pc0 := 17) (pc' := 5) rfl (hb hby d3_17) (by decide) (by decide) ?_
    exact k)
  exact P1
set_option maxRecDepth 65536 in
set_option maxHeartbeats 40000000 in
theorem sf_out {p : Program} {l : Launch} {e : Env} {R : Room} {s : State} {m : MethodId} {args : Array Value} {below : List Frame} {meth : Method} {c : Code} {T0 : State} {locs : List Loc} {cells slots : Nat} {Z : State} {a0 : Array Value} {h0 : Heap} (ad : Addr) (vx ii nn : Int32) (X0 : Stand p l e R s m args below meth c T0 locs cells slots) (hx : p.tables.exec = Jvm.exec) (hZ : Z.Warmed39 s.vm) (hw : ∀ d ∈ tables_1, d.before a0 Z = true) (hby : c.code = jdk_65_method_103_code) (hml : c.maxLocals = 4) (hown : s.vm.findClass "java/util/Arrays" = some m.cls) (e0 : T0.heap = h0) (hc : ¬ (ii < nn)) :
    Wy p.tables e below (T0.setTop (mkF m 5 #[.val (.ref ad), .val (.int vx), .val (.int ii), .val (.int nn)] [])) (T0.setTop (mkF m 20 #[.val (.ref ad), .val (.int vx), .val (.int ii), .val (.int nn)] [])) := by
  have P0 : Wy p.tables e below (T0.setTop (mkF m 5 #[.val (.ref ad), .val (.int vx), .val (.int ii), .val (.int nn)] [])) (T0.setTop (mkF m 5 #[.val (.ref ad), .val (.int vx), .val (.int ii), .val (.int nn)] [])) := fun t k => k
  have P1 : Wy p.tables e below (T0.setTop (mkF m 5 #[.val (.ref ad), .val (.int vx), .val (.int ii), .val (.int nn)] [])) (T0.setTop (mkF m 20 #[.val (.ref ad), .val (.int vx), .val (.int ii), .val (.int nn)] [])) := fun t k => P0 t (by
    show Steps p.tables e below (T0.setTop (mkF m 5 #[.val (.ref ad), .val (.int vx), .val (.int ii), .val (.int nn)] [])) _
    refine XS.iloadN X0.here hx rfl (hb hby d3_5) rfl  ?_
    show Steps p.tables e below (T0.setTop (mkF m 6 #[.val (.ref ad), .val (.int vx), .val (.int ii), .val (.int nn)] [(.int ii)])) _
    refine XS.iloadN X0.here hx rfl (hb hby d3_6) rfl  ?_
    show Steps p.tables e below (T0.setTop (mkF m 7 #[.val (.ref ad), .val (.int vx), .val (.int ii), .val (.int nn)] [(.int nn), (.int ii)])) _
    refine XS.icmpYes X0.here hx rfl (pc0 := 7) (pc' := 20) rfl (hb hby d3_7) rfl (flt (hc : ¬ (ii < nn))).2.1 (by decide) (by decide) ?_
    exact k)
  exact P1
theorem d3_13 : decode jdk_65_method_103_code 13 = .ok (.iastore, 1) := by decide +kernel
theorem own_fill {p : Program} {l : Launch} {e : Env} {R : Room} {s : State} {m : MethodId} {args : Array Value} {below : List Frame} {meth : Method} {c : Code} {cells slots : Nat} {Z : State} {a0 : Array Value} (ad : Addr) (vx : Int32) (n n0 : Nat) (hn : n < 2147483648) (g_ad : n0 ≤ ad) (hx : p.tables.exec = Jvm.exec) (hZ : Z.Warmed39 s.vm) (hw : ∀ d ∈ tables_1, d.before a0 Z = true) (hby : c.code = jdk_65_method_103_code) (hml : c.maxLocals = 4) (hown : s.vm.findClass "java/util/Arrays" = some m.cls) : ∀ (k i : Nat) (f : Nat → Int32) (T0 : State) (h0 : Heap) (locs : List Loc), i + k = n → Stand p l e R s m args below meth c T0 locs cells slots → T0.heap = h0 → Fr n0 locs → own_Ar Value.int .int Z h0 ad n f →
    ∃ (T' : State) (h' : Heap) (locs' : List Loc), Stand p l e R s m args below meth c T' locs' cells slots ∧ T'.heap = h' ∧ Fr n0 locs' ∧ Keep h0 h' [ad] ∧ own_Ar Value.int .int Z h' ad n (fun j => if i ≤ j then vx else f j) ∧ Wy p.tables e below (T0.setTop (mkF m 5 #[.val (.ref ad), .val (.int vx), .val (.int (Int32.ofNat i)), .val (.int (Int32.ofNat n))] [])) (T'.setTop (mkF m 20 #[.val (.ref ad), .val (.int vx), .val (.int (Int32.ofNat n)), .val (.int (Int32.ofNat n))] [])) := by
  intro k
  induction k with
  | zero =>
    intro i f T0 h0 locs hi X0 e0 N I
    obtain rfl : i = n := by omega
    exact ⟨T0, h0, locs, X0, e0, N, Keep.refl _ _, I.same fun k hk => by rw [if_neg (by omega)], sf_out ad vx (Int32.ofNat i) (Int32.ofNat i) X0 hx hZ hw hby hml hown e0 Int32.lt_irrefl⟩
  | succ k ih =>
    intro i f T0 h0 locs hi X0 e0 N I
    have st1 := sf_in ad vx (Int32.ofNat i) (Int32.ofNat n) X0 hx hZ hw hby hml hown e0 ((own_ltN (by omega) hn).mpr (by omega))
    obtain ⟨cl, Ar, hin, -, up⟩ := I.at (j := Int32.ofNat i) rfl (show i < n by omega) hn
    obtain ⟨T1, h1, X1, e1, W1, st2⟩ := stI X0 hx hZ e0 Ar (j := Int32.ofNat i) hin (g := (mkF m 13 #[.val (.ref ad), .val (.int vx), .val (.int (Int32.ofNat i)), .val (.int (Int32.ofNat n))] [(.int vx), (.int (Int32.ofNat i)), (.ref ad)])) rfl rfl (hb hby d3_13)
    have I1 := up _ _ W1
    have st3 := sf_back ad vx (Int32.ofNat i) (Int32.ofNat n) X1 hx hZ hw hby hml hown e1
    rw [own_one] at st3
    obtain ⟨T', h', L', X', e', N', K', I', st4⟩ := ih (i + 1) _ T1 h1 _ (by omega) X1 e1 (Fr.snoc X1 N g_ad) I1
    refine ⟨T', h', L', X', e', N', (Keep.of_wr W1).trans K' (fun y hy => Or.inl hy), I'.same fun j hj => ?_, fun t h => st1 t (st2 _ (st3 t (st4 t h)))⟩
    simp only [own_upd]
    by_cases q : i + 1 ≤ j
    · rw [if_pos q, if_pos (by omega)]
    · rw [if_neg q]
      by_cases r : j = i
      · rw [if_pos r, if_pos (by omega)]
      · rw [if_neg r, if_neg (by omega)]
theorem d3_0 : decode jdk_65_method_103_code 0 = .ok (.iconst 0, 1) := by decide +kernel
theorem d3_1 : decode jdk_65_method_103_code 1 = .ok (.istore_n 2, 1) := by decide +kernel
theorem d3_2 : decode jdk_65_method_103_code 2 = .ok (.aload_n 0, 1) := by decide +kernel
theorem d3_3 : decode jdk_65_method_103_code 3 = .ok (.arraylength, 1) := by decide +kernel
theorem d3_4 : decode jdk_65_method_103_code 4 = .ok (.istore_n 3, 1) := by decide +kernel
theorem d3_20 : decode jdk_65_method_103_code 20 = .ok (.return_, 1) := by decide +kernel
theorem pn_java_util_Arrays : plainName "java/util/Arrays" = true := by first | (simp [plainName, overriddenIn]; done) | decide +kernel
theorem ef_rm3 (m : MethodId) (ad : Addr) (vx : Int32)  : entryFrame m #[(.ref ad), (.int vx)] 4 = (mkF m 0 #[.val (.ref ad), .val (.int vx), .unset, .unset] []) := by first | (simp [entryFrame, mkF, argsToLocals, Value.category]; done) | rfl
def Q3 (Z : State) (ad : Addr) (vx : Int32) (n : Nat) (f : Nat → Int32) (h0 : Heap) (n0 : Nat) (v : Option Value) (h : Heap) (L : List Loc) : Prop := v = none ∧ Fr n0 L ∧ Keep h0 h [ad] ∧ own_Ar Value.int .int Z h ad n (fun _ => vx)
set_option maxRecDepth 65536 in
set_option maxHeartbeats 40000000 in
theorem rm3 (l : Launch) (Z : State) (a0 : Array Value) (hw : ∀ d ∈ tables_1, d.before a0 Z = true) (ws : List Jvm.Cond) (ad : Addr) (vx : Int32) (n : Nat) (f : Nat → Int32) (h0 : Heap) (n0 : Nat) (Z0 : n0 ≤ h0.size) (I : own_Ar Value.int .int Z h0 ad n f) (hn : n < 2147483648) (g_ad : n0 ≤ ad) :
    MetFree l (⟨"java/util/Arrays", "fill", "([II)V"⟩ : MethodName) (head1 (Jvm.Cond.code (⟨"java/util/Arrays", "fill", "([II)V"⟩ : MethodName) jdk_65_method_103_code 4 none :: ws) ({ frames := 0, cells := 0, slots := 0, locals := 0 } : Room)) (fun a U => a = #[(.ref ad), (.int vx)] ∧ Z.Warmed39 U.vm ∧ U.heap = h0) (fun _ _ _ _ _ => True) (fun _ U o U' => ∃ v L, o = .returned v ∧ Q3 Z ad vx n f h0 n0 v U'.heap L ∧ FrameEnd U o U' L ({ frames := 0, cells := 0, slots := 0, locals := 0 } : Room).cells ({ frames := 0, cells := 0, slots := 0, locals := 0 } : Room).slots) := by
  refine MetFree.of_bodySF (plainFor_of_name pn_java_util_Arrays) hisR ?_
  intro p e s m args below meth c s₁ Bd hml0 hP hK
  obtain ⟨rfl, hZ, hh⟩ := hP
  have hx := Bd.exec
  have hby := Bd.bytes
  have hml : c.maxLocals = 4 := hml0
  have hown : s.vm.findClass "java/util/Arrays" = some m.cls := by have q := findClass_of_methodNamed Bd.named; exact q
  have hnm := (name_of_methodNamed Bd.named Bd.method).1
  have X0 : Stand p l e ({ frames := 0, cells := 0, slots := 0, locals := 0 } : Room) s m #[(.ref ad), (.int vx)] below meth c s₁ [] 0 0 := Stand.of_body Bd
  have e0 : s₁.heap = h0 := by rw [← hh, Bd.state]; rfl
  have N0 := Fr.nil n0
  have P0 : Wy p.tables e below (s₁.setTop (entryFrame m #[(.ref ad), (.int vx)] 4)) (s₁.setTop (mkF m 0 #[.val (.ref ad), .val (.int vx), .unset, .unset] [])) := fun t k => castTop (ef_rm3 m ad vx) k
  have P1 : Wy p.tables e below (s₁.setTop (entryFrame m #[(.ref ad), (.int vx)] 4)) (s₁.setTop (mkF m 3 #[.val (.ref ad), .val (.int vx), .val (.int (0 : Int32)), .unset] [(.ref ad)])) := fun t k => P0 t (by
    show Steps p.tables e below (s₁.setTop (mkF m 0 #[.val (.ref ad), .val (.int vx), .unset, .unset] [])) _
    refine XS.iconst X0.here hx rfl (hb hby d3_0) ?_
    show Steps p.tables e below (s₁.setTop (mkF m 1 #[.val (.ref ad), .val (.int vx), .unset, .unset] [(.int (0 : Int32))])) _
    refine XS.istoreN X0.here hx rfl (hb hby d3_1) rfl (l' := #[.val (.ref ad), .val (.int vx), .val (.int (0 : Int32)), .unset]) rfl ?_
    show Steps p.tables e below (s₁.setTop (mkF m 2 #[.val (.ref ad), .val (.int vx), .val (.int (0 : Int32)), .unset] [])) _
    refine XS.aloadN X0.here hx rfl (hb hby d3_2) rfl rfl  ?_
    exact k)
  obtain ⟨cl2, Ar2, Sz2, -⟩ := id I
  have P3 : Wy p.tables e below (s₁.setTop (entryFrame m #[(.ref ad), (.int vx)] 4)) (s₁.setTop (mkF m 4 #[.val (.ref ad), .val (.int vx), .val (.int (0 : Int32)), .unset] [(.int (Int32.ofNat n))])) := fun t k => P1 t (X0.arraylength hx (by rw [e0]; exact Ar2.1) (State.isArrayOf_alike hZ.alike Ar2.2.1) (g := (mkF m 3 #[.val (.ref ad), .val (.int vx), .val (.int (0 : Int32)), .unset] [(.ref ad)])) rfl rfl (hb hby d3_3) _ (by rw [Sz2]; exact k))
  have P4 : Wy p.tables e below (s₁.setTop (entryFrame m #[(.ref ad), (.int vx)] 4)) (s₁.setTop (mkF m 5 #[.val (.ref ad), .val (.int vx), .val (.int (0 : Int32)), .val (.int (Int32.ofNat n))] [])) := fun t k => P3 t (by
    show Steps p.tables e below (s₁.setTop (mkF m 4 #[.val (.ref ad), .val (.int vx), .val (.int (0 : Int32)), .unset] [(.int (Int32.ofNat n))])) _
    refine XS.istoreN X0.here hx rfl (hb hby d3_4) rfl (l' := #[.val (.ref ad), .val (.int vx), .val (.int (0 : Int32)), .val (.int (Int32.ofNat n))]) rfl ?_
    exact k)
  obtain ⟨T1, h1, L1, X1, e1, N1, K1, I1, st1⟩ := own_fill ad vx n n0 hn g_ad hx hZ hw hby hml hown n 0 f s₁ h0 [] (by omega) X0 e0 N0 I
  have Pf5 : Wy p.tables e below (s₁.setTop (entryFrame m #[(.ref ad), (.int vx)] 4)) (T1.setTop (mkF m 20 #[.val (.ref ad), .val (.int vx), .val (.int (Int32.ofNat n)), .val (.int (Int32.ofNat n))] [])) := fun t k => P4 t (st1 t k)
  obtain ⟨fs, hr, hrun, hended, hW, hsame⟩ := X1.leave (v := none) (fun _ => rfl)
  refine ⟨_, _, Pf5 _ ?_, hrun, hended, _, _, rfl, ?_, ⟨_, rfl⟩, hW, hsame.mono (by decide) (by decide)⟩
  · show Steps p.tables e below (T1.setTop (mkF m 20 #[.val (.ref ad), .val (.int vx), .val (.int (Int32.ofNat n)), .val (.int (Int32.ofNat n))] [])) _
    exact X1.returnOut hx Bd.returns (hb hby d3_20) hr
  · show Q3 Z ad vx n f h0 n0 _ T1.heap _
    rw [e1]
    exact ⟨rfl, N1, K1, I1.same fun k _ => if_pos (Nat.zero_le k)⟩
theorem d1_0 : decode prog_43_method_1_code 0 = .ok (.aload_n 0, 1) := by decide +kernel
theorem d1_1 : decode prog_43_method_1_code 1 = .ok (.invokespecial 1, 3) := by decide +kernel
theorem d1_4 : decode prog_43_method_1_code 4 = .ok (.aload_n 0, 1) := by decide +kernel
theorem d1_5 : decode prog_43_method_1_code 5 = .ok (.iload_n 1, 1) := by decide +kernel
theorem d1_6 : decode prog_43_method_1_code 6 = .ok (.newarray .int, 2) := by decide +kernel
theorem d1_8 : decode prog_43_method_1_code 8 = .ok (.putfield 7, 3) := by decide +kernel
theorem d1_11 : decode prog_43_method_1_code 11 = .ok (.aload_n 0, 1) := by decide +kernel
theorem d1_12 : decode prog_43_method_1_code 12 = .ok (.getfield 7, 3) := by decide +kernel
theorem d1_15 : decode prog_43_method_1_code 15 = .ok (.iconst (-1), 1) := by decide +kernel
theorem d1_16 : decode prog_43_method_1_code 16 = .ok (.invokestatic 13, 3) := by decide +kernel
theorem d1_19 : decode prog_43_method_1_code 19 = .ok (.return_, 1) := by decide +kernel
theorem pn_com_example_eagerpair_eagerpair_graph_Matching : plainName "com/example/eagerpair/eagerpair/graph/Matching" = true := by first | (simp [plainName, overriddenIn]; done) | decide +kernel
theorem pd_lAIIrV : parseMethodDescriptor "([II)V" = some ⟨[(.array .int), .int], none⟩ := by decide +kernel
theorem ef_rm1 (m : MethodId) (ob : Addr) (nx : Int32)  : entryFrame m #[(.ref ob), (.int nx)] 2 = (mkF m 0 #[.val (.ref ob), .val (.int nx)] []) := by first | (simp [entryFrame, mkF, argsToLocals, Value.category]; done) | rfl
def Q1 (Z : State) (ob : Addr) (nx : Int32) (nn : Nat) (h0 : Heap) (n0 : Nat) (v : Option Value) (h : Heap) (L : List Loc) : Prop := v = none ∧ Fr n0 L ∧ Keep h0 h [ob] ∧ Exa Z h ob "com/example/eagerpair/eagerpair/graph/Matching" ∧ ∃ ad : Addr, n0 ≤ ad ∧ ad ≠ ob ∧ Fld Z h ob "com/example/eagerpair/eagerpair/graph/Matching" "mates" "[I" (.ref ad) ∧ Fld Z h ob "com/example/eagerpair/eagerpair/graph/Matching" "size" "I" (.int (0 : Int32)) ∧ own_Ar Value.int .int Z h ad nn (fun _ => (-1 : Int32))
set_option maxRecDepth 65536 in
set_option maxHeartbeats 40000000 in
theorem rm1 (l : Launch) (Z : State) (a0 : Array Value) (hw : ∀ d ∈ tables_1, d.before a0 Z = true) (ws : List Jvm.Cond) (ob : Addr) (nx : Int32) (nn : Nat) (h0 : Heap) (n0 : Nat) (Z0 : n0 ≤ h0.size) (E_ob : Exa Z h0 ob "com/example/eagerpair/eagerpair/graph/Matching") (F_mates : Fld Z h0 ob "com/example/eagerpair/eagerpair/graph/Matching" "mates" "[I" .null) (F_size : Fld Z h0 ob "com/example/eagerpair/eagerpair/graph/Matching" "size" "I" (.int (0 : Int32))) (g_ob : n0 ≤ ob) (hneg : ¬ nx < 0) (hcap : nx.toNatClampNeg ≤ 9) (hnn : nx.toNatClampNeg = nn) (hn9 : nn < 2147483648) :
    MetFree l (⟨"com/example/eagerpair/eagerpair/graph/Matching", "<init>", "(I)V"⟩ : MethodName) (head1 (Jvm.Cond.code (⟨"com/example/eagerpair/eagerpair/graph/Matching", "<init>", "(I)V"⟩ : MethodName) prog_43_method_1_code 2 none :: ws) ({ frames := 1, cells := 1, slots := 9, locals := 15 } : Room)) (fun a U => a = #[(.ref ob), (.int nx)] ∧ Z.Warmed39 U.vm ∧ U.heap = h0) (fun _ _ _ _ _ => True) (fun _ U o U' => ∃ v L, o = .returned v ∧ Q1 Z ob nx nn h0 n0 v U'.heap L ∧ FrameEnd U o U' L ({ frames := 1, cells := 1, slots := 9, locals := 15 } : Room).cells ({ frames := 1, cells := 1, slots := 9, locals := 15 } : Room).slots) := by
  refine MetFree.of_bodySF (plainFor_of_name pn_com_example_eagerpair_eagerpair_graph_Matching) hisR ?_
  intro p e s m args below meth c s₁ Bd hml0 hP hK
  obtain ⟨rfl, hZ, hh⟩ := hP
  have hx := Bd.exec
  have hby := Bd.bytes
  have hml : c.maxLocals = 2 := hml0
  have hown : s.vm.findClass "com/example/eagerpair/eagerpair/graph/Matching" = some m.cls := by have q := findClass_of_methodNamed Bd.named; exact q
  have hnm := (name_of_methodNamed Bd.named Bd.method).1
  have X0 : Stand p l e ({ frames := 1, cells := 1, slots := 9, locals := 15 } : Room) s m #[(.ref ob), (.int nx)] below meth c s₁ [] 0 0 := Stand.of_body Bd
  have e0 : s₁.heap = h0 := by rw [← hh, Bd.state]; rfl
  have N0 := Fr.nil n0
  have P0 : Wy p.tables e below (s₁.setTop (entryFrame m #[(.ref ob), (.int nx)] 2)) (s₁.setTop (mkF m 0 #[.val (.ref ob), .val (.int nx)] [])) := fun t k => castTop (ef_rm1 m ob nx) k
  have P1 : Wy p.tables e below (s₁.setTop (entryFrame m #[(.ref ob), (.int nx)] 2)) (s₁.setTop (mkF m 1 #[.val (.ref ob), .val (.int nx)] [(.ref ob)])) := fun t k => P0 t (by
    show Steps p.tables e below (s₁.setTop (mkF m 0 #[.val (.ref ob), .val (.int nx)] [])) _
    refine XS.aloadN X0.here hx rfl (hb hby d1_0) rfl rfl  ?_
    exact k)
  obtain ⟨T2, X2, e2, st2⟩ := initO X0 hx hZ hown (hw _ (List.mem_of_getElem? (i := 7) rfl)) (hw _ (List.mem_of_getElem? (i := 8) rfl)) (hw _ (List.mem_of_getElem? (i := 9) rfl)) e0 (g := (mkF m 1 #[.val (.ref ob), .val (.int nx)] [(.ref ob)])) rfl (by rw [hml]; rfl) rfl (hb hby d1_1) (by decide) (W := 0) (by show 2 * 0 + _ ≤ _; exact Nat.le_of_eq rfl) (by decide)
  have P3 : Wy p.tables e below (s₁.setTop (entryFrame m #[(.ref ob), (.int nx)] 2)) (T2.setTop (mkF m 4 #[.val (.ref ob), .val (.int nx)] [])) := fun t k => P1 t (st2 _ k)
  have P4 : Wy p.tables e below (s₁.setTop (entryFrame m #[(.ref ob), (.int nx)] 2)) (T2.setTop (mkF m 6 #[.val (.ref ob), .val (.int nx)] [(.int nx), (.ref ob)])) := fun t k => P3 t (by
    show Steps p.tables e below (T2.setTop (mkF m 4 #[.val (.ref ob), .val (.int nx)] [])) _
    refine XS.aloadN X2.here hx rfl (hb hby d1_4) rfl rfl  ?_
    show Steps p.tables e below (T2.setTop (mkF m 5 #[.val (.ref ob), .val (.int nx)] [(.ref ob)])) _
    refine XS.iloadN X2.here hx rfl (hb hby d1_5) rfl  ?_
    exact k)
  obtain ⟨T5, h5, k5, X5, e5, E5, A5, st5⟩ := newP X2 hx hZ (hw _ (List.mem_of_getElem? (i := 10) rfl)) e2 (g := (mkF m 6 #[.val (.ref ob), .val (.int nx)] [(.int nx), (.ref ob)])) rfl (hb hby d1_6) rfl hneg (cap := 9) hcap (by decide) (by decide) (by decide)
  obtain ⟨b5, g5⟩ : ∃ z, z = h0.size := ⟨_, rfl⟩
  rw [← g5] at A5 st5
  have g_b5 : n0 ≤ b5 := Nat.le_trans Z0 (Nat.le_of_eq g5.symm)
  have z5 : n0 ≤ h5.size := Nat.le_trans Z0 E5.1
  have I5 := own_Ar.ofInt (Arv.new A5 hneg) hnn
  have ne_ob_b5 : ob ≠ b5 := Nat.ne_of_lt (Nat.lt_of_lt_of_le E_ob.lt (Nat.le_of_eq g5.symm))
  have sz_b5 : h0.size ≤ b5 := Nat.le_trans (Keep.refl h0 [ob]).1 (Nat.le_of_eq g5.symm)
  have K5 : Keep h0 h5 [ob] := (Keep.refl h0 [ob]).ext E5
  have A5_ob := E_ob.ext E5
  have F5_ob_mates := F_mates.ext E5
  have F5_ob_size := F_size.ext E5
  have P6 : Wy p.tables e below (s₁.setTop (entryFrame m #[(.ref ob), (.int nx)] 2)) (T5.setTop (mkF m 8 #[.val (.ref ob), .val (.int nx)] [(.ref b5), (.ref ob)])) := fun t k => P4 t (st5 _ k)
  obtain ⟨T7, h7, X7, e7, W7, st7⟩ := putF X5 hx hZ hown (host := "") (Or.inl (hw _ (List.mem_of_getElem? (i := 11) rfl))) Via.refl e5 F5_ob_mates A5_ob (Or.inr ⟨(hw _ (List.mem_of_getElem? (i := 12) rfl)), rfl, hnm⟩) (hw _ (List.mem_of_getElem? (i := 2) rfl)) (ty := (.array .int)) (by decide) rfl rfl (g := (mkF m 8 #[.val (.ref ob), .val (.int nx)] [(.ref b5), (.ref ob)])) rfl rfl (hb hby d1_8)
  have Fw7 := F5_ob_mates.same W7
  have N7 := Fr.snoc X7 N0 g_ob
  have z7 : n0 ≤ h7.size := Nat.le_trans z5 (Keep.of_wr W7).1
  have I7_b5 := I5.other W7 (Ne.symm ne_ob_b5)
  have A7_ob := A5_ob.wr W7
  have F7_ob_size := F5_ob_size.other W7 (Or.inr (slot_ne (Or.inl (hw _ (List.mem_of_getElem? (i := 29) rfl))) (Or.inr (hw _ (List.mem_of_getElem? (i := 12) rfl))) (by decide) (t := .int) (t' := (.array .int)) (by decide) (by decide)))
  have K7 : Keep h0 h7 [ob] := K5.wr W7 (Or.inl (List.mem_of_getElem? (i := 0) rfl))
  have P8 : Wy p.tables e below (s₁.setTop (entryFrame m #[(.ref ob), (.int nx)] 2)) (T7.setTop (mkF m 11 #[.val (.ref ob), .val (.int nx)] [])) := fun t k => P6 t (st7 _ k)
  have P9 : Wy p.tables e below (s₁.setTop (entryFrame m #[(.ref ob), (.int nx)] 2)) (T7.setTop (mkF m 12 #[.val (.ref ob), .val (.int nx)] [(.ref ob)])) := fun t k => P8 t (by
    show Steps p.tables e below (T7.setTop (mkF m 11 #[.val (.ref ob), .val (.int nx)] [])) _
    refine XS.aloadN X7.here hx rfl (hb hby d1_11) rfl rfl  ?_
    exact k)
  obtain ⟨T10, X10, e10, st10⟩ := getF X7 hx hZ hown (host := "") (Or.inl (hw _ (List.mem_of_getElem? (i := 11) rfl))) Via.refl e7 Fw7 (g := (mkF m 12 #[.val (.ref ob), .val (.int nx)] [(.ref ob)])) rfl rfl (hb hby d1_12)
  have P11 : Wy p.tables e below (s₁.setTop (entryFrame m #[(.ref ob), (.int nx)] 2)) (T10.setTop (mkF m 15 #[.val (.ref ob), .val (.int nx)] [(.ref b5)])) := fun t k => P9 t (st10 _ k)
  have P12 : Wy p.tables e below (s₁.setTop (entryFrame m #[(.ref ob), (.int nx)] 2)) (T10.setTop (mkF m 16 #[.val (.ref ob), .val (.int nx)] [(.int (-1 : Int32)), (.ref b5)])) := fun t k => P11 t (by
    show Steps p.tables e below (T10.setTop (mkF m 15 #[.val (.ref ob), .val (.int nx)] [(.ref b5)])) _
    refine XS.iconst X10.here hx rfl (hb hby d1_15) ?_
    exact k)
  obtain ⟨_, _, ⟨T13, L13, k13, n13⟩, -, X13, ⟨Lc13, hQ13, l13, y13, z13⟩, st13⟩ := Jvm.LawKit.callS X10 hx (y := (⟨"java/util/Arrays", "fill", "([II)V"⟩ : MethodName)) hown (mvT hZ (hw _ (List.mem_of_getElem? (i := 13) rfl))) (mvT hZ (hw _ (List.mem_of_getElem? (i := 14) rfl))) (mvT hZ (hw _ (List.mem_of_getElem? (i := 15) rfl))) (mvT hZ (hw _ (List.mem_of_getElem? (i := 16) rfl))) (by decide) (backOf (W := 0) (rm3 l Z a0 hw [] b5 (-1 : Int32) nn (fun _ => (0 : Int32)) h7 n0 z7 I7_b5 hn9 g_b5) hZ (hw _ (List.mem_of_getElem? (i := 16) rfl)) (hw _ (List.mem_of_getElem? (i := 15) rfl)) (by decide) (by decide)) (g := (mkF m 16 #[.val (.ref ob), .val (.int nx)] [(.int (-1 : Int32)), (.ref b5)])) rfl (by rw [hml]; rfl) (argsL := [(.ref b5), (.int (-1 : Int32))]) (rest := []) (lenOf pd_lAIIrV rfl) rfl (by show 2 * 0 + _ ≤ _; exact Nat.le_of_eq rfl) (hb hby d1_16) (fun _ _ => ⟨rfl, e10, (by decide : 1 + 0 ≤ _), (by decide : 9 + 0 ≤ _)⟩)
  dsimp only [Pt.U, Pt.locs, Pt.cells, Pt.slots] at X13 l13 y13 z13 st13 hQ13
  subst l13 y13 z13
  obtain ⟨rfl, N13q, K13q, I13q⟩ := hQ13
  have N13 := Fr.app N7 N13q
  have K13 : Keep h0 T13.heap [ob] := K7.trans K13q (fun y hy => by cases List.mem_singleton.mp hy; exact Or.inr sz_b5)
  have z13k : n0 ≤ T13.heap.size := Nat.le_trans z7 K13q.1
  have A13_ob := A7_ob.keep K13q
  have F13_ob_mates := Fw7.keep K13q (own_nm ne_ob_b5)
  have F13_ob_size := F7_ob_size.keep K13q (own_nm ne_ob_b5)
  have P14 : Wy p.tables e below (s₁.setTop (entryFrame m #[(.ref ob), (.int nx)] 2)) (T13.setTop (mkF m 19 #[.val (.ref ob), .val (.int nx)] [])) := fun t k => P12 t (st13 _ k)
  obtain ⟨fs, hr, hrun, hended, hW, hsame⟩ := X13.leave (v := none) (fun _ => rfl)
  refine ⟨_, _, P14 _ ?_, hrun, hended, _, _, rfl, ?_, ⟨_, rfl⟩, hW, hsame.mono (by decide) (by decide)⟩
  · show Steps p.tables e below (T13.setTop (mkF m 19 #[.val (.ref ob), .val (.int nx)] [])) _
    exact X13.returnOut hx Bd.returns (hb hby d1_19) hr
  · show Q1 Z ob nx nn h0 n0 _ T13.heap _
    exact ⟨rfl, N13, K13, A13_ob, b5, g_b5, (Ne.symm ne_ob_b5), F13_ob_mates, F13_ob_size, I13q⟩
theorem d4_0 : decode prog_43_method_4_code 0 = .ok (.aload_n 0, 1) := by decide +kernel
theorem d4_1 : decode prog_43_method_4_code 1 = .ok (.getfield 7, 3) := by decide +kernel
theorem d4_4 : decode prog_43_method_4_code 4 = .ok (.iload_n 1, 1) := by decide +kernel
theorem d4_5 : decode prog_43_method_4_code 5 = .ok (.iaload, 1) := by decide +kernel
theorem d4_6 : decode prog_43_method_4_code 6 = .ok (.iconst (-1), 1) := by decide +kernel
theorem d4_7 : decode prog_43_method_4_code 7 = .ok (.if_icmp .eq 7, 3) := by decide +kernel
theorem d4_10 : decode prog_43_method_4_code 10 = .ok (.iconst 1, 1) := by decide +kernel
theorem d4_11 : decode prog_43_method_4_code 11 = .ok (.goto 4, 3) := by decide +kernel
theorem d4_14 : decode prog_43_method_4_code 14 = .ok (.iconst 0, 1) := by decide +kernel
theorem d4_15 : decode prog_43_method_4_code 15 = .ok (.ireturn, 1) := by decide +kernel
theorem ef_rm4 (m : MethodId) (ob : Addr) (qx : Int32)  : entryFrame m #[(.ref ob), (.int qx)] 2 = (mkF m 0 #[.val (.ref ob), .val (.int qx)] []) := by first | (simp [entryFrame, mkF, argsToLocals, Value.category]; done) | rfl
def Q4 (Z : State) (ob : Addr) (qx : Int32) (ad : Addr) (nn qn : Nat) (f : Nat → Int32) (h0 : Heap) (n0 : Nat) (v : Option Value) (h : Heap) (L : List Loc) : Prop := v = some (.int (own_im (f qn))) ∧ Fr n0 L ∧ h = h0
set_option maxRecDepth 65536 in
set_option maxHeartbeats 40000000 in
theorem rm4 (l : Launch) (Z : State) (a0 : Array Value) (hw : ∀ d ∈ tables_1, d.before a0 Z = true) (ws : List Jvm.Cond) (ob : Addr) (qx : Int32) (ad : Addr) (nn qn : Nat) (f : Nat → Int32) (h0 : Heap) (n0 : Nat) (Z0 : n0 ≤ h0.size) (F_mates : Fld Z h0 ob "com/example/eagerpair/eagerpair/graph/Matching" "mates" "[I" (.ref ad)) (I : own_Ar Value.int .int Z h0 ad nn f) (hqx : qx = Int32.ofNat qn) (hq : qn < nn) (hn9 : nn < 2147483648) :
    MetFree l (⟨"com/example/eagerpair/eagerpair/graph/Matching", "isMatched", "(I)Z"⟩ : MethodName) (head1 (Jvm.Cond.code (⟨"com/example/eagerpair/eagerpair/graph/Matching", "isMatched", "(I)Z"⟩ : MethodName) prog_43_method_4_code 2 (some .boolean) :: ws) ({ frames := 0, cells := 0, slots := 0, locals := 0 } : Room)) (fun a U => a = #[(.ref ob), (.int qx)] ∧ Z.Warmed39 U.vm ∧ U.heap = h0) (fun _ _ _ _ _ => True) (fun _ U o U' => ∃ v L, o = .returned v ∧ Q4 Z ob qx ad nn qn f h0 n0 v U'.heap L ∧ FrameEnd U o U' L ({ frames := 0, cells := 0, slots := 0, locals := 0 } : Room).cells ({ frames := 0, cells := 0, slots := 0, locals := 0 } : Room).slots) := by
  refine MetFree.of_bodySF (plainFor_of_name pn_com_example_eagerpair_eagerpair_graph_Matching) hisR ?_
  intro p e s m args below meth c s₁ Bd hml0 hP hK
  obtain ⟨rfl, hZ, hh⟩ := hP
  have hx := Bd.exec
  have hby := Bd.bytes
  have hml : c.maxLocals = 2 := hml0
  have hown : s.vm.findClass "com/example/eagerpair/eagerpair/graph/Matching" = some m.cls := by have q := findClass_of_methodNamed Bd.named; exact q
  have hnm := (name_of_methodNamed Bd.named Bd.method).1
  have X0 : Stand p l e ({ frames := 0, cells := 0, slots := 0, locals := 0 } : Room) s m #[(.ref ob), (.int qx)] below meth c s₁ [] 0 0 := Stand.of_body Bd
  have e0 : s₁.heap = h0 := by rw [← hh, Bd.state]; rfl
  have N0 := Fr.nil n0
  have P0 : Wy p.tables e below (s₁.setTop (entryFrame m #[(.ref ob), (.int qx)] 2)) (s₁.setTop (mkF m 0 #[.val (.ref ob), .val (.int qx)] [])) := fun t k => castTop (ef_rm4 m ob qx) k
  have P1 : Wy p.tables e below (s₁.setTop (entryFrame m #[(.ref ob), (.int qx)] 2)) (s₁.setTop (mkF m 1 #[.val (.ref ob), .val (.int qx)] [(.ref ob)])) := fun t k => P0 t (by
    show Steps p.tables e below (s₁.setTop (mkF m 0 #[.val (.ref ob), .val (.int qx)] [])) _
    refine XS.aloadN X0.here hx rfl (hb hby d4_0) rfl rfl  ?_
    exact k)
  obtain ⟨T2, X2, e2, st2⟩ := getF X0 hx hZ hown (host := "") (Or.inl (hw _ (List.mem_of_getElem? (i := 11) rfl))) Via.refl e0 F_mates (g := (mkF m 1 #[.val (.ref ob), .val (.int qx)] [(.ref ob)])) rfl rfl (hb hby d4_1)
  have P3 : Wy p.tables e below (s₁.setTop (entryFrame m #[(.ref ob), (.int qx)] 2)) (T2.setTop (mkF m 4 #[.val (.ref ob), .val (.int qx)] [(.ref ad)])) := fun t k => P1 t (st2 _ k)
  have P4 : Wy p.tables e below (s₁.setTop (entryFrame m #[(.ref ob), (.int qx)] 2)) (T2.setTop (mkF m 5 #[.val (.ref ob), .val (.int qx)] [(.int qx), (.ref ad)])) := fun t k => P3 t (by
    show Steps p.tables e below (T2.setTop (mkF m 4 #[.val (.ref ob), .val (.int qx)] [(.ref ad)])) _
    refine XS.iloadN X2.here hx rfl (hb hby d4_4) rfl  ?_
    exact k)
  obtain ⟨cl5, Ar5, hi5, ha5, -⟩ := I.at (j := qx) (k := qn) hqx hq hn9
  have P6 : Wy p.tables e below (s₁.setTop (entryFrame m #[(.ref ob), (.int qx)] 2)) (T2.setTop (mkF m 6 #[.val (.ref ob), .val (.int qx)] [(.int (f qn))])) := fun t k => P4 t (X2.iaload hx (j := qx) (v := (.int (f qn))) (by rw [e2]; exact Ar5.1) (State.isArrayOf_alike hZ.alike Ar5.2.1) Ar5.2.2 hi5 ha5 (g := (mkF m 5 #[.val (.ref ob), .val (.int qx)] [(.int qx), (.ref ad)])) rfl rfl (hb hby d4_5) _ k)
  have P7 : Wy p.tables e below (s₁.setTop (entryFrame m #[(.ref ob), (.int qx)] 2)) (T2.setTop (mkF m 7 #[.val (.ref ob), .val (.int qx)] [(.int (-1 : Int32)), (.int (f qn))])) := fun t k => P6 t (by
    show Steps p.tables e below (T2.setTop (mkF m 6 #[.val (.ref ob), .val (.int qx)] [(.int (f qn))])) _
    refine XS.iconst X2.here hx rfl (hb hby d4_6) ?_
    exact k)
  by_cases hc7_8 : (f qn) = (-1 : Int32)
  · have P9 : Wy p.tables e below (s₁.setTop (entryFrame m #[(.ref ob), (.int qx)] 2)) (T2.setTop (mkF m 15 #[.val (.ref ob), .val (.int qx)] [(.int (0 : Int32))])) := fun t k => P7 t (by
      show Steps p.tables e below (T2.setTop (mkF m 7 #[.val (.ref ob), .val (.int qx)] [(.int (-1 : Int32)), (.int (f qn))])) _
      refine XS.icmpYes X2.here hx rfl (pc0 := 7) (pc' := 14) rfl (hb hby d4_7) rfl (teq hc7_8).1 (by decide) (by decide) ?_
      show Steps p.tables e below (T2.setTop (mkF m 14 #[.val (.ref ob), .val (.int qx)] [])) _
      refine XS.iconst X2.here hx rfl (hb hby d4_14) ?_
      exact k)
    obtain ⟨fs, hr, hrun, hended, hW, hsame⟩ := X2.leave (v := some (.int (nar .boolean (0 : Int32)))) (fun h => by rw [Bd.returns] at h; cases h)
    refine ⟨_, _, P9 _ ?_, hrun, hended, _, _, rfl, ?_, ⟨_, rfl⟩, hW, hsame.mono (by decide) (by decide)⟩
    · show Steps p.tables e below (T2.setTop (mkF m 15 #[.val (.ref ob), .val (.int qx)] [(.int (0 : Int32))])) _
      exact retN X2 hx (t := .boolean) Bd.returns (by simp) (hb hby d4_15) hr
    · show Q4 Z ob qx ad nn qn f h0 n0 _ T2.heap _
      rw [e2]
      exact ⟨congrArg (fun z => some (Value.int z)) (show _ = own_im (f qn) from by simp only [own_im, if_pos hc7_8]; try rfl), N0, rfl⟩
  · have P10 : Wy p.tables e below (s₁.setTop (entryFrame m #[(.ref ob), (.int qx)] 2)) (T2.setTop (mkF m 15 #[.val (.ref ob), .val (.int qx)] [(.int (1 : Int32))])) := fun t k => P7 t (by
      show Steps p.tables e below (T2.setTop (mkF m 7 #[.val (.ref ob), .val (.int qx)] [(.int (-1 : Int32)), (.int (f qn))])) _
      refine XS.icmpNo X2.here hx rfl (hb hby d4_7) rfl (feq hc7_8).1 ?_
      show Steps p.tables e below (T2.setTop (mkF m 10 #[.val (.ref ob), .val (.int qx)] [])) _
      refine XS.iconst X2.here hx rfl (hb hby d4_10) ?_
      show Steps p.tables e below (T2.setTop (mkF m 11 #[.val (.ref ob), .val (.int qx)] [(.int (1 : Int32))])) _
      refine XS.goto X2.here hx rfl (pc0 := 11) (pc' := 15) rfl (hb hby d4_11) (by decide) (by decide) ?_
      exact k)
    obtain ⟨fs, hr, hrun, hended, hW, hsame⟩ := X2.leave (v := some (.int (nar .boolean (1 : Int32)))) (fun h => by rw [Bd.returns] at h; cases h)
    refine ⟨_, _, P10 _ ?_, hrun, hended, _, _, rfl, ?_, ⟨_, rfl⟩, hW, hsame.mono (by decide) (by decide)⟩
    · show Steps p.tables e below (T2.setTop (mkF m 15 #[.val (.ref ob), .val (.int qx)] [(.int (1 : Int32))])) _
      exact retN X2 hx (t := .boolean) Bd.returns (by simp) (hb hby d4_15) hr
    · show Q4 Z ob qx ad nn qn f h0 n0 _ T2.heap _
      rw [e2]
      exact ⟨congrArg (fun z => some (Value.int z)) (show _ = own_im (f qn) from by simp only [own_im, if_neg hc7_8]; try rfl), N0, rfl⟩
theorem d5_0 : decode prog_43_method_6_code 0 = .ok (.iload_n 1, 1) := by decide +kernel
theorem d5_1 : decode prog_43_method_6_code 1 = .ok (.iload_n 2, 1) := by decide +kernel
theorem d5_2 : decode prog_43_method_6_code 2 = .ok (.if_icmp .eq 19, 3) := by decide +kernel
theorem d5_5 : decode prog_43_method_6_code 5 = .ok (.aload_n 0, 1) := by decide +kernel
theorem d5_6 : decode prog_43_method_6_code 6 = .ok (.iload_n 1, 1) := by decide +kernel
theorem d5_7 : decode prog_43_method_6_code 7 = .ok (.invokevirtual 23, 3) := by decide +kernel
theorem d5_10 : decode prog_43_method_6_code 10 = .ok (.ifCond .ne 11, 3) := by decide +kernel
theorem d5_13 : decode prog_43_method_6_code 13 = .ok (.aload_n 0, 1) := by decide +kernel
theorem d5_14 : decode prog_43_method_6_code 14 = .ok (.iload_n 2, 1) := by decide +kernel
theorem d5_15 : decode prog_43_method_6_code 15 = .ok (.invokevirtual 23, 3) := by decide +kernel
theorem d5_18 : decode prog_43_method_6_code 18 = .ok (.ifCond .eq 18, 3) := by decide +kernel
theorem d5_36 : decode prog_43_method_6_code 36 = .ok (.aload_n 0, 1) := by decide +kernel
theorem d5_37 : decode prog_43_method_6_code 37 = .ok (.getfield 7, 3) := by decide +kernel
theorem d5_40 : decode prog_43_method_6_code 40 = .ok (.iload_n 1, 1) := by decide +kernel
theorem d5_41 : decode prog_43_method_6_code 41 = .ok (.iload_n 2, 1) := by decide +kernel
theorem d5_42 : decode prog_43_method_6_code 42 = .ok (.iastore, 1) := by decide +kernel
theorem d5_43 : decode prog_43_method_6_code 43 = .ok (.aload_n 0, 1) := by decide +kernel
theorem d5_44 : decode prog_43_method_6_code 44 = .ok (.getfield 7, 3) := by decide +kernel
theorem d5_47 : decode prog_43_method_6_code 47 = .ok (.iload_n 2, 1) := by decide +kernel
theorem d5_48 : decode prog_43_method_6_code 48 = .ok (.iload_n 1, 1) := by decide +kernel
theorem d5_49 : decode prog_43_method_6_code 49 = .ok (.iastore, 1) := by decide +kernel
theorem d5_50 : decode prog_43_method_6_code 50 = .ok (.aload_n 0, 1) := by decide +kernel
theorem d5_51 : decode prog_43_method_6_code 51 = .ok (.dup, 1) := by decide +kernel
theorem d5_52 : decode prog_43_method_6_code 52 = .ok (.getfield 19, 3) := by decide +kernel
theorem d5_55 : decode prog_43_method_6_code 55 = .ok (.iconst 1, 1) := by decide +kernel
theorem d5_56 : decode prog_43_method_6_code 56 = .ok (.iadd, 1) := by decide +kernel
theorem d5_57 : decode prog_43_method_6_code 57 = .ok (.putfield 19, 3) := by decide +kernel
theorem d5_60 : decode prog_43_method_6_code 60 = .ok (.return_, 1) := by decide +kernel
theorem pd_lIrZ : parseMethodDescriptor "(I)Z" = some ⟨[.int], some .boolean⟩ := by decide +kernel
theorem ef_rm5 (m : MethodId) (ob : Addr) (ux : Int32) (vx : Int32)  : entryFrame m #[(.ref ob), (.int ux), (.int vx)] 3 = (mkF m 0 #[.val (.ref ob), .val (.int ux), .val (.int vx)] []) := by first | (simp [entryFrame, mkF, argsToLocals, Value.category]; done) | rfl
def Q5 (Z : State) (ob : Addr) (ux vx : Int32) (ad : Addr) (wx : Int32) (nn un vn : Nat) (f : Nat → Int32) (h0 : Heap) (n0 : Nat) (v : Option Value) (h : Heap) (L : List Loc) : Prop := v = none ∧ Fr n0 L ∧ Keep h0 h [ob, ad] ∧ Exa Z h ob "com/example/eagerpair/eagerpair/graph/Matching" ∧ Fld Z h ob "com/example/eagerpair/eagerpair/graph/Matching" "mates" "[I" (.ref ad) ∧ Fld Z h ob "com/example/eagerpair/eagerpair/graph/Matching" "size" "I" (.int (wx + (1 : Int32))) ∧ own_Ar Value.int .int Z h ad nn (own_upd (own_upd f un vx) vn ux)
set_option maxRecDepth 65536 in
set_option maxHeartbeats 40000000 in
theorem rm5 (l : Launch) (Z : State) (a0 : Array Value) (hw : ∀ d ∈ tables_1, d.before a0 Z = true) (ws : List Jvm.Cond) (ob : Addr) (ux vx : Int32) (ad : Addr) (wx : Int32) (nn un vn : Nat) (f : Nat → Int32) (h0 : Heap) (n0 : Nat) (Z0 : n0 ≤ h0.size) (E_ob : Exa Z h0 ob "com/example/eagerpair/eagerpair/graph/Matching") (F_mates : Fld Z h0 ob "com/example/eagerpair/eagerpair/graph/Matching" "mates" "[I" (.ref ad)) (F_size : Fld Z h0 ob "com/example/eagerpair/eagerpair/graph/Matching" "size" "I" (.int wx)) (I : own_Ar Value.int .int Z h0 ad nn f) (g_ob : n0 ≤ ob) (g_ad : n0 ≤ ad) (ne_ad : ad ≠ ob) (hux : ux = Int32.ofNat un) (hvx : vx = Int32.ofNat vn) (hu : un < nn) (hv : vn < nn) (hn9 : nn < 2147483648) (huv : ¬ ux = vx) (fu : f un = -1) (fv : f vn = -1) :
    MetFree l (⟨"com/example/eagerpair/eagerpair/graph/Matching", "match", "(II)V"⟩ : MethodName) (head1 (Jvm.Cond.code (⟨"com/example/eagerpair/eagerpair/graph/Matching", "match", "(II)V"⟩ : MethodName) prog_43_method_6_code 3 none :: ws) ({ frames := 1, cells := 0, slots := 0, locals := 13 } : Room)) (fun a U => a = #[(.ref ob), (.int ux), (.int vx)] ∧ Z.Warmed39 U.vm ∧ U.heap = h0) (fun _ _ _ _ _ => True) (fun _ U o U' => ∃ v L, o = .returned v ∧ Q5 Z ob ux vx ad wx nn un vn f h0 n0 v U'.heap L ∧ FrameEnd U o U' L ({ frames := 1, cells := 0, slots := 0, locals := 13 } : Room).cells ({ frames := 1, cells := 0, slots := 0, locals := 13 } : Room).slots) := by
  refine MetFree.of_bodySF (plainFor_of_name pn_com_example_eagerpair_eagerpair_graph_Matching) hisR ?_
  intro p e s m args below meth c s₁ Bd hml0 hP hK
  obtain ⟨rfl, hZ, hh⟩ := hP
  have hx := Bd.exec
  have hby := Bd.bytes
  have hml : c.maxLocals = 3 := hml0
  have hown : s.vm.findClass "com/example/eagerpair/eagerpair/graph/Matching" = some m.cls := by have q := findClass_of_methodNamed Bd.named; exact q
  have hnm := (name_of_methodNamed Bd.named Bd.method).1
  have X0 : Stand p l e ({ frames := 1, cells := 0, slots := 0, locals := 13 } : Room) s m #[(.ref ob), (.int ux), (.int vx)] below meth c s₁ [] 0 0 := Stand.of_body Bd
  have e0 : s₁.heap = h0 := by rw [← hh, Bd.state]; rfl
  have N0 := Fr.nil n0
  have P0 : Wy p.tables e below (s₁.setTop (entryFrame m #[(.ref ob), (.int ux), (.int vx)] 3)) (s₁.setTop (mkF m 0 #[.val (.ref ob), .val (.int ux), .val (.int vx)] [])) := fun t k => castTop (ef_rm5 m ob ux vx) k
  have P1 : Wy p.tables e below (s₁.setTop (entryFrame m #[(.ref ob), (.int ux), (.int vx)] 3)) (s₁.setTop (mkF m 7 #[.val (.ref ob), .val (.int ux), .val (.int vx)] [(.int ux), (.ref ob)])) := fun t k => P0 t (by
    show Steps p.tables e below (s₁.setTop (mkF m 0 #[.val (.ref ob), .val (.int ux), .val (.int vx)] [])) _
    refine XS.iloadN X0.here hx rfl (hb hby d5_0) rfl  ?_
    show Steps p.tables e below (s₁.setTop (mkF m 1 #[.val (.ref ob), .val (.int ux), .val (.int vx)] [(.int ux)])) _
    refine XS.iloadN X0.here hx rfl (hb hby d5_1) rfl  ?_
    show Steps p.tables e below (s₁.setTop (mkF m 2 #[.val (.ref ob), .val (.int ux), .val (.int vx)] [(.int vx), (.int ux)])) _
    refine XS.icmpNo X0.here hx rfl (hb hby d5_2) rfl (feq (huv : ¬ (ux = vx))).1 ?_
    show Steps p.tables e below (s₁.setTop (mkF m 5 #[.val (.ref ob), .val (.int ux), .val (.int vx)] [])) _
    refine XS.aloadN X0.here hx rfl (hb hby d5_5) rfl rfl  ?_
    show Steps p.tables e below (s₁.setTop (mkF m 6 #[.val (.ref ob), .val (.int ux), .val (.int vx)] [(.ref ob)])) _
    refine XS.iloadN X0.here hx rfl (hb hby d5_6) rfl  ?_
    exact k)
  obtain ⟨cq2, kq2, q2a, q2b, q2c⟩ := isOf hZ e0 E_ob
  obtain ⟨_, _, ⟨T2, L2, k2, n2⟩, -, X2, ⟨Lc2, hQ2, l2, y2, z2⟩, st2⟩ := X0.virtualBack hx (y := (⟨"com/example/eagerpair/eagerpair/graph/Matching", "isMatched", "(I)Z"⟩ : MethodName)) (z := (⟨"com/example/eagerpair/eagerpair/graph/Matching", "isMatched", "(I)Z"⟩ : MethodName)) hown (mvT hZ (hw _ (List.mem_of_getElem? (i := 27) rfl))) (mvT hZ (hw _ (List.mem_of_getElem? (i := 18) rfl))) (notFace_of_selects (args := #[]) (mvT hZ (hw _ (List.mem_of_getElem? (i := 20) rfl)))) (mvT hZ (hw _ (List.mem_of_getElem? (i := 20) rfl))) (mvT hZ (hw _ (List.mem_of_getElem? (i := 19) rfl))) (by decide) (backOf (W := 0) (rm4 l Z a0 hw [] ob ux ad nn un f h0 n0 Z0 F_mates I hux hu hn9) hZ (hw _ (List.mem_of_getElem? (i := 21) rfl)) (hw _ (List.mem_of_getElem? (i := 3) rfl)) (by decide) (by decide)) q2a q2c (g := (mkF m 7 #[.val (.ref ob), .val (.int ux), .val (.int vx)] [(.int ux), (.ref ob)])) rfl (by rw [hml]; rfl) (Steps.refl _) (argsL := [(.int ux)]) (rest := []) (lenOf pd_lIrZ rfl) rfl (by show 2 * 0 + _ ≤ _; exact Nat.le_of_eq rfl) (hb hby d5_7) (fun _ _ => ⟨rfl, e0, (by decide : 0 + 0 ≤ _), (by decide : 0 + 0 ≤ _)⟩)
  dsimp only [Pt.U, Pt.locs, Pt.cells, Pt.slots] at X2 l2 y2 z2 st2 hQ2
  subst l2 y2 z2
  obtain ⟨rfl, N2q, e2⟩ := hQ2
  have N2 := Fr.app N0 N2q
  have P3 : Wy p.tables e below (s₁.setTop (entryFrame m #[(.ref ob), (.int ux), (.int vx)] 3)) (T2.setTop (mkF m 10 #[.val (.ref ob), .val (.int ux), .val (.int vx)] [(.int (own_im (f un)))])) := fun t k => P1 t (st2.trans k)
  have P4 : Wy p.tables e below (s₁.setTop (entryFrame m #[(.ref ob), (.int ux), (.int vx)] 3)) (T2.setTop (mkF m 15 #[.val (.ref ob), .val (.int ux), .val (.int vx)] [(.int vx), (.ref ob)])) := fun t k => P3 t (by
    show Steps p.tables e below (T2.setTop (mkF m 10 #[.val (.ref ob), .val (.int ux), .val (.int vx)] [(.int (own_im (f un)))])) _
    refine XS.ifNo X2.here hx rfl (hb hby d5_10) rfl ((if0 _ _).trans (teq (own_im0 fu : (own_im (f un)) = (0 : Int32))).2) ?_
    show Steps p.tables e below (T2.setTop (mkF m 13 #[.val (.ref ob), .val (.int ux), .val (.int vx)] [])) _
    refine XS.aloadN X2.here hx rfl (hb hby d5_13) rfl rfl  ?_
    show Steps p.tables e below (T2.setTop (mkF m 14 #[.val (.ref ob), .val (.int ux), .val (.int vx)] [(.ref ob)])) _
    refine XS.iloadN X2.here hx rfl (hb hby d5_14) rfl  ?_
    exact k)
  obtain ⟨cq5, kq5, q5a, q5b, q5c⟩ := isOf hZ e2 E_ob
  obtain ⟨_, _, ⟨T5, L5, k5, n5⟩, -, X5, ⟨Lc5, hQ5, l5, y5, z5⟩, st5⟩ := X2.virtualBack hx (y := (⟨"com/example/eagerpair/eagerpair/graph/Matching", "isMatched", "(I)Z"⟩ : MethodName)) (z := (⟨"com/example/eagerpair/eagerpair/graph/Matching", "isMatched", "(I)Z"⟩ : MethodName)) hown (mvT hZ (hw _ (List.mem_of_getElem? (i := 27) rfl))) (mvT hZ (hw _ (List.mem_of_getElem? (i := 18) rfl))) (notFace_of_selects (args := #[]) (mvT hZ (hw _ (List.mem_of_getElem? (i := 20) rfl)))) (mvT hZ (hw _ (List.mem_of_getElem? (i := 20) rfl))) (mvT hZ (hw _ (List.mem_of_getElem? (i := 19) rfl))) (by decide) (backOf (W := 0) (rm4 l Z a0 hw [] ob vx ad nn vn f h0 n0 Z0 F_mates I hvx hv hn9) hZ (hw _ (List.mem_of_getElem? (i := 21) rfl)) (hw _ (List.mem_of_getElem? (i := 3) rfl)) (by decide) (by decide)) q5a q5c (g := (mkF m 15 #[.val (.ref ob), .val (.int ux), .val (.int vx)] [(.int vx), (.ref ob)])) rfl (by rw [hml]; rfl) (Steps.refl _) (argsL := [(.int vx)]) (rest := []) (lenOf pd_lIrZ rfl) rfl (by show 2 * 0 + _ ≤ _; exact Nat.le_of_eq rfl) (hb hby d5_15) (fun _ _ => ⟨rfl, e2, (by decide : 0 + 0 ≤ _), (by decide : 0 + 0 ≤ _)⟩)
  dsimp only [Pt.U, Pt.locs, Pt.cells, Pt.slots] at X5 l5 y5 z5 st5 hQ5
  subst l5 y5 z5
  obtain ⟨rfl, N5q, e5⟩ := hQ5
  have N5 := Fr.app N2 N5q
  have P6 : Wy p.tables e below (s₁.setTop (entryFrame m #[(.ref ob), (.int ux), (.int vx)] 3)) (T5.setTop (mkF m 18 #[.val (.ref ob), .val (.int ux), .val (.int vx)] [(.int (own_im (f vn)))])) := fun t k => P4 t (st5.trans k)
  have P7 : Wy p.tables e below (s₁.setTop (entryFrame m #[(.ref ob), (.int ux), (.int vx)] 3)) (T5.setTop (mkF m 37 #[.val (.ref ob), .val (.int ux), .val (.int vx)] [(.ref ob)])) := fun t k => P6 t (by
    show Steps p.tables e below (T5.setTop (mkF m 18 #[.val (.ref ob), .val (.int ux), .val (.int vx)] [(.int (own_im (f vn)))])) _
    refine XS.ifYes X5.here hx rfl (pc0 := 18) (pc' := 36) rfl (hb hby d5_18) rfl ((if0 _ _).trans (teq (own_im0 fv : (own_im (f vn)) = (0 : Int32))).1) (by decide) (by decide) ?_
    show Steps p.tables e below (T5.setTop (mkF m 36 #[.val (.ref ob), .val (.int ux), .val (.int vx)] [])) _
    refine XS.aloadN X5.here hx rfl (hb hby d5_36) rfl rfl  ?_
    exact k)
  obtain ⟨T8, X8, e8, st8⟩ := getF X5 hx hZ hown (host := "") (Or.inl (hw _ (List.mem_of_getElem? (i := 11) rfl))) Via.refl e5 F_mates (g := (mkF m 37 #[.val (.ref ob), .val (.int ux), .val (.int vx)] [(.ref ob)])) rfl rfl (hb hby d5_37)
  have P9 : Wy p.tables e below (s₁.setTop (entryFrame m #[(.ref ob), (.int ux), (.int vx)] 3)) (T8.setTop (mkF m 40 #[.val (.ref ob), .val (.int ux), .val (.int vx)] [(.ref ad)])) := fun t k => P7 t (st8 _ k)
  have P10 : Wy p.tables e below (s₁.setTop (entryFrame m #[(.ref ob), (.int ux), (.int vx)] 3)) (T8.setTop (mkF m 42 #[.val (.ref ob), .val (.int ux), .val (.int vx)] [(.int vx), (.int ux), (.ref ad)])) := fun t k => P9 t (by
    show Steps p.tables e below (T8.setTop (mkF m 40 #[.val (.ref ob), .val (.int ux), .val (.int vx)] [(.ref ad)])) _
    refine XS.iloadN X8.here hx rfl (hb hby d5_40) rfl  ?_
    show Steps p.tables e below (T8.setTop (mkF m 41 #[.val (.ref ob), .val (.int ux), .val (.int vx)] [(.int ux), (.ref ad)])) _
    refine XS.iloadN X8.here hx rfl (hb hby d5_41) rfl  ?_
    exact k)
  obtain ⟨cl11, Ar11, hi11, -, up11⟩ := I.at (j := ux) (k := un) hux hu hn9
  obtain ⟨T11, h11, X11, e11, W11, st11⟩ := stI X8 hx hZ e8 Ar11 (j := ux) hi11 (g := (mkF m 42 #[.val (.ref ob), .val (.int ux), .val (.int vx)] [(.int vx), (.int ux), (.ref ad)])) rfl rfl (hb hby d5_42)
  have I11 := up11 _ _ W11
  have N11 := Fr.snoc X11 N5 g_ad
  have z11 : n0 ≤ h11.size := Nat.le_trans Z0 (Keep.of_wr W11).1
  have K11 : Keep h0 h11 [ob, ad] := (Keep.refl h0 [ob, ad]).wr W11 (Or.inl (List.mem_of_getElem? (i := 1) rfl))
  have A11_ob := E_ob.wr W11
  have F11_ob_mates := F_mates.other W11 (Or.inl (Ne.symm ne_ad))
  have F11_ob_size := F_size.other W11 (Or.inl (Ne.symm ne_ad))
  have P12 : Wy p.tables e below (s₁.setTop (entryFrame m #[(.ref ob), (.int ux), (.int vx)] 3)) (T11.setTop (mkF m 43 #[.val (.ref ob), .val (.int ux), .val (.int vx)] [])) := fun t k => P10 t (st11 _ k)
  have P13 : Wy p.tables e below (s₁.setTop (entryFrame m #[(.ref ob), (.int ux), (.int vx)] 3)) (T11.setTop (mkF m 44 #[.val (.ref ob), .val (.int ux), .val (.int vx)] [(.ref ob)])) := fun t k => P12 t (by
    show Steps p.tables e below (T11.setTop (mkF m 43 #[.val (.ref ob), .val (.int ux), .val (.int vx)] [])) _
    refine XS.aloadN X11.here hx rfl (hb hby d5_43) rfl rfl  ?_
    exact k)
  obtain ⟨T14, X14, e14, st14⟩ := getF X11 hx hZ hown (host := "") (Or.inl (hw _ (List.mem_of_getElem? (i := 11) rfl))) Via.refl e11 F11_ob_mates (g := (mkF m 44 #[.val (.ref ob), .val (.int ux), .val (.int vx)] [(.ref ob)])) rfl rfl (hb hby d5_44)
  have P15 : Wy p.tables e below (s₁.setTop (entryFrame m #[(.ref ob), (.int ux), (.int vx)] 3)) (T14.setTop (mkF m 47 #[.val (.ref ob), .val (.int ux), .val (.int vx)] [(.ref ad)])) := fun t k => P13 t (st14 _ k)
  have P16 : Wy p.tables e below (s₁.setTop (entryFrame m #[(.ref ob), (.int ux), (.int vx)] 3)) (T14.setTop (mkF m 49 #[.val (.ref ob), .val (.int ux), .val (.int vx)] [(.int ux), (.int vx), (.ref ad)])) := fun t k => P15 t (by
    show Steps p.tables e below (T14.setTop (mkF m 47 #[.val (.ref ob), .val (.int ux), .val (.int vx)] [(.ref ad)])) _
    refine XS.iloadN X14.here hx rfl (hb hby d5_47) rfl  ?_
    show Steps p.tables e below (T14.setTop (mkF m 48 #[.val (.ref ob), .val (.int ux), .val (.int vx)] [(.int vx), (.ref ad)])) _
    refine XS.iloadN X14.here hx rfl (hb hby d5_48) rfl  ?_
    exact k)
  obtain ⟨cl17, Ar17, hi17, -, up17⟩ := I11.at (j := vx) (k := vn) hvx hv hn9
  obtain ⟨T17, h17, X17, e17, W17, st17⟩ := stI X14 hx hZ e14 Ar17 (j := vx) hi17 (g := (mkF m 49 #[.val (.ref ob), .val (.int ux), .val (.int vx)] [(.int ux), (.int vx), (.ref ad)])) rfl rfl (hb hby d5_49)
  have I17 := up17 _ _ W17
  have N17 := Fr.snoc X17 N11 g_ad
  have z17 : n0 ≤ h17.size := Nat.le_trans z11 (Keep.of_wr W17).1
  have K17 : Keep h0 h17 [ob, ad] := K11.wr W17 (Or.inl (List.mem_of_getElem? (i := 1) rfl))
  have A17_ob := A11_ob.wr W17
  have F17_ob_mates := F11_ob_mates.other W17 (Or.inl (Ne.symm ne_ad))
  have F17_ob_size := F11_ob_size.other W17 (Or.inl (Ne.symm ne_ad))
  have P18 : Wy p.tables e below (s₁.setTop (entryFrame m #[(.ref ob), (.int ux), (.int vx)] 3)) (T17.setTop (mkF m 50 #[.val (.ref ob), .val (.int ux), .val (.int vx)] [])) := fun t k => P16 t (st17 _ k)
  have P19 : Wy p.tables e below (s₁.setTop (entryFrame m #[(.ref ob), (.int ux), (.int vx)] 3)) (T17.setTop (mkF m 52 #[.val (.ref ob), .val (.int ux), .val (.int vx)] [(.ref ob), (.ref ob)])) := fun t k => P18 t (by
    show Steps p.tables e below (T17.setTop (mkF m 50 #[.val (.ref ob), .val (.int ux), .val (.int vx)] [])) _
    refine XS.aloadN X17.here hx rfl (hb hby d5_50) rfl rfl  ?_
    show Steps p.tables e below (T17.setTop (mkF m 51 #[.val (.ref ob), .val (.int ux), .val (.int vx)] [(.ref ob)])) _
    refine XS.dup X17.here hx rfl (hb hby d5_51) rfl rfl ?_
    exact k)
  obtain ⟨T20, X20, e20, st20⟩ := getF X17 hx hZ hown (host := "") (Or.inl (hw _ (List.mem_of_getElem? (i := 28) rfl))) Via.refl e17 F17_ob_size (g := (mkF m 52 #[.val (.ref ob), .val (.int ux), .val (.int vx)] [(.ref ob), (.ref ob)])) rfl rfl (hb hby d5_52)
  have P21 : Wy p.tables e below (s₁.setTop (entryFrame m #[(.ref ob), (.int ux), (.int vx)] 3)) (T20.setTop (mkF m 55 #[.val (.ref ob), .val (.int ux), .val (.int vx)] [(.int wx), (.ref ob)])) := fun t k => P19 t (st20 _ k)
  have P22 : Wy p.tables e below (s₁.setTop (entryFrame m #[(.ref ob), (.int ux), (.int vx)] 3)) (T20.setTop (mkF m 57 #[.val (.ref ob), .val (.int ux), .val (.int vx)] [(.int (wx + (1 : Int32))), (.ref ob)])) := fun t k => P21 t (by
    show Steps p.tables e below (T20.setTop (mkF m 55 #[.val (.ref ob), .val (.int ux), .val (.int vx)] [(.int wx), (.ref ob)])) _
    refine XS.iconst X20.here hx rfl (hb hby d5_55) ?_
    show Steps p.tables e below (T20.setTop (mkF m 56 #[.val (.ref ob), .val (.int ux), .val (.int vx)] [(.int (1 : Int32)), (.int wx), (.ref ob)])) _
    refine XS.iadd X20.here hx rfl (hb hby d5_56) rfl ?_
    exact k)
  obtain ⟨T23, h23, X23, e23, W23, st23⟩ := putF X20 hx hZ hown (host := "") (Or.inl (hw _ (List.mem_of_getElem? (i := 28) rfl))) Via.refl e20 F17_ob_size A17_ob (Or.inl (hw _ (List.mem_of_getElem? (i := 29) rfl))) (hw _ (List.mem_of_getElem? (i := 2) rfl)) (ty := .int) (by decide) rfl rfl (g := (mkF m 57 #[.val (.ref ob), .val (.int ux), .val (.int vx)] [(.int (wx + (1 : Int32))), (.ref ob)])) rfl rfl (hb hby d5_57)
  have Fw23 := F17_ob_size.same W23
  have N23 := Fr.snoc X23 N17 g_ob
  have z23 : n0 ≤ h23.size := Nat.le_trans z17 (Keep.of_wr W23).1
  have I23_ad := I17.other W23 ne_ad
  have A23_ob := A17_ob.wr W23
  have F23_ob_mates := F17_ob_mates.other W23 (Or.inr (slot_ne (Or.inr (hw _ (List.mem_of_getElem? (i := 12) rfl))) (Or.inl (hw _ (List.mem_of_getElem? (i := 29) rfl))) (by decide) (t := (.array .int)) (t' := .int) (by decide) (by decide)))
  have K23 : Keep h0 h23 [ob, ad] := K17.wr W23 (Or.inl (List.mem_of_getElem? (i := 0) rfl))
  have P24 : Wy p.tables e below (s₁.setTop (entryFrame m #[(.ref ob), (.int ux), (.int vx)] 3)) (T23.setTop (mkF m 60 #[.val (.ref ob), .val (.int ux), .val (.int vx)] [])) := fun t k => P22 t (st23 _ k)
  obtain ⟨fs, hr, hrun, hended, hW, hsame⟩ := X23.leave (v := none) (fun _ => rfl)
  refine ⟨_, _, P24 _ ?_, hrun, hended, _, _, rfl, ?_, ⟨_, rfl⟩, hW, hsame.mono (by decide) (by decide)⟩
  · show Steps p.tables e below (T23.setTop (mkF m 60 #[.val (.ref ob), .val (.int ux), .val (.int vx)] [])) _
    exact X23.returnOut hx Bd.returns (hb hby d5_60) hr
  · show Q5 Z ob ux vx ad wx nn un vn f h0 n0 _ T23.heap _
    rw [e23]
    exact ⟨rfl, N23, K23, A23_ob, F23_ob_mates, Fw23, I23_ad⟩
theorem pn_com_example_eagerpair_eagerpair_graph_MatchingIsMatchedPinLaw : plainName "com/example/eagerpair/eagerpair/graph/MatchingIsMatchedPinLaw" = true := by first | (simp [plainName, overriddenIn]; done) | decide +kernel
theorem pd_lIrV : parseMethodDescriptor "(I)V" = some ⟨[.int], none⟩ := by decide +kernel
theorem pd_lIIrV : parseMethodDescriptor "(II)V" = some ⟨[.int, .int], none⟩ := by decide +kernel
theorem ef_rm0 (m : MethodId) (ax : Int32) (bx : Int32) (cx : Int32) (dx : Int32) (ex : Int32) (fx : Int32)  : entryFrame m #[(.int ax), (.int bx), (.int cx), (.int dx), (.int ex), (.int fx)] maxLocals = (mkF m 0 #[.val (.int ax), .val (.int bx), .val (.int cx), .val (.int dx), .val (.int ex), .val (.int fx), .unset, .unset, .unset, .unset, .unset, .unset, .unset, .unset, .unset, .unset, .unset, .unset] []) := by first | (simp [entryFrame, mkF, argsToLocals, Value.category, maxLocals]; done) | rfl
def Q0 (Z : State) (ax bx cx dx ex fx : Int32) (h0 : Heap) (n0 : Nat) (v : Option Value) (h : Heap) (L : List Loc) : Prop := v = some (.int 1) ∧ Fr n0 L
set_option maxRecDepth 65536 in
set_option maxHeartbeats 40000000 in
theorem rm0 (l : Launch) (Z : State) (a0 : Array Value) (hw : ∀ d ∈ tables_1, d.before a0 Z = true) (ws : List Jvm.Cond) (ax bx cx dx ex fx : Int32) (h0 : Heap) (n0 : Nat) (Z0 : n0 ≤ h0.size)  :
    MetFree l x (head1 (Jvm.Cond.code x code maxLocals ret :: ws) room_1) (fun a U => a = #[(.int ax), (.int bx), (.int cx), (.int dx), (.int ex), (.int fx)] ∧ Z.Warmed39 U.vm ∧ U.heap = h0) (fun _ _ _ _ _ => True) (fun _ U o U' => ∃ v L, o = .returned v ∧ Q0 Z ax bx cx dx ex fx h0 n0 v U'.heap L ∧ FrameEnd U o U' L room_1.cells room_1.slots) := by
  refine MetFree.of_bodySF (plainFor_of_name pn_com_example_eagerpair_eagerpair_graph_MatchingIsMatchedPinLaw) hisR ?_
  intro p e s m args below meth c s₁ Bd hml0 hP hK
  obtain ⟨rfl, hZ, hh⟩ := hP
  have hx := Bd.exec
  have hby := Bd.bytes
  have hml : c.maxLocals = 18 := hml0
  have hown : s.vm.findClass "com/example/eagerpair/eagerpair/graph/MatchingIsMatchedPinLaw" = some m.cls := by have q := findClass_of_methodNamed Bd.named; exact q
  have hnm := (name_of_methodNamed Bd.named Bd.method).1
  have X0 : Stand p l e room_1 s m #[(.int ax), (.int bx), (.int cx), (.int dx), (.int ex), (.int fx)] below meth c s₁ [] 0 0 := Stand.of_body Bd
  have e0 : s₁.heap = h0 := by rw [← hh, Bd.state]; rfl
  have N0 := Fr.nil n0
  have P0 : Wy p.tables e below (s₁.setTop (entryFrame m #[(.int ax), (.int bx), (.int cx), (.int dx), (.int ex), (.int fx)] maxLocals)) (s₁.setTop (mkF m 0 #[.val (.int ax), .val (.int bx), .val (.int cx), .val (.int dx), .val (.int ex), .val (.int fx), .unset, .unset, .unset, .unset, .unset, .unset, .unset, .unset, .unset, .unset, .unset, .unset] [])) := fun t k => castTop (ef_rm0 m ax bx cx dx ex fx) k
  have P1 : Wy p.tables e below (s₁.setTop (entryFrame m #[(.int ax), (.int bx), (.int cx), (.int dx), (.int ex), (.int fx)] maxLocals)) (s₁.setTop (mkF m 8 #[.val (.int ax), .val (.int bx), .val (.int cx), .val (.int dx), .val (.int ex), .val (.int fx), .val (.int ((ax &&& (7 : Int32)) + (2 : Int32))), .unset, .unset, .unset, .unset, .unset, .unset, .unset, .unset, .unset, .unset, .unset] [])) := fun t k => P0 t (by
    show Steps p.tables e below (s₁.setTop (mkF m 0 #[.val (.int ax), .val (.int bx), .val (.int cx), .val (.int dx), .val (.int ex), .val (.int fx), .unset, .unset, .unset, .unset, .unset, .unset, .unset, .unset, .unset, .unset, .unset, .unset] [])) _
    refine XS.iloadN X0.here hx rfl (hb hby at_0) rfl  ?_
    show Steps p.tables e below (s₁.setTop (mkF m 1 #[.val (.int ax), .val (.int bx), .val (.int cx), .val (.int dx), .val (.int ex), .val (.int fx), .unset, .unset, .unset, .unset, .unset, .unset, .unset, .unset, .unset, .unset, .unset, .unset] [(.int ax)])) _
    refine XS.bipush X0.here hx rfl (hb hby at_1) ?_
    show Steps p.tables e below (s₁.setTop (mkF m 3 #[.val (.int ax), .val (.int bx), .val (.int cx), .val (.int dx), .val (.int ex), .val (.int fx), .unset, .unset, .unset, .unset, .unset, .unset, .unset, .unset, .unset, .unset, .unset, .unset] [(.int (7 : Int32)), (.int ax)])) _
    refine XS.iand X0.here hx rfl (hb hby at_3) rfl ?_
    show Steps p.tables e below (s₁.setTop (mkF m 4 #[.val (.int ax), .val (.int bx), .val (.int cx), .val (.int dx), .val (.int ex), .val (.int fx), .unset, .unset, .unset, .unset, .unset, .unset, .unset, .unset, .unset, .unset, .unset, .unset] [(.int (ax &&& (7 : Int32)))])) _
    refine XS.iconst X0.here hx rfl (hb hby at_4) ?_
    show Steps p.tables e below (s₁.setTop (mkF m 5 #[.val (.int ax), .val (.int bx), .val (.int cx), .val (.int dx), .val (.int ex), .val (.int fx), .unset, .unset, .unset, .unset, .unset, .unset, .unset, .unset, .unset, .unset, .unset, .unset] [(.int (2 : Int32)), (.int (ax &&& (7 : Int32)))])) _
    refine XS.iadd X0.here hx rfl (hb hby at_5) rfl ?_
    show Steps p.tables e below (s₁.setTop (mkF m 6 #[.val (.int ax), .val (.int bx), .val (.int cx), .val (.int dx), .val (.int ex), .val (.int fx), .unset, .unset, .unset, .unset, .unset, .unset, .unset, .unset, .unset, .unset, .unset, .unset] [(.int ((ax &&& (7 : Int32)) + (2 : Int32)))])) _
    refine XS.istore X0.here hx rfl (hb hby at_6) rfl (l' := #[.val (.int ax), .val (.int bx), .val (.int cx), .val (.int dx), .val (.int ex), .val (.int fx), .val (.int ((ax &&& (7 : Int32)) + (2 : Int32))), .unset, .unset, .unset, .unset, .unset, .unset, .unset, .unset, .unset, .unset, .unset]) rfl ?_
    exact k)
  obtain ⟨v2, hv2⟩ : ∃ z : Int32, z = ((ax &&& (7 : Int32)) + (2 : Int32)) := ⟨_, rfl⟩
  have P3 : Wy p.tables e below (s₁.setTop (entryFrame m #[(.int ax), (.int bx), (.int cx), (.int dx), (.int ex), (.int fx)] maxLocals)) (s₁.setTop (mkF m 8 #[.val (.int ax), .val (.int bx), .val (.int cx), .val (.int dx), .val (.int ex), .val (.int fx), .val (.int v2), .unset, .unset, .unset, .unset, .unset, .unset, .unset, .unset, .unset, .unset, .unset] [])) := fun t k => by subst hv2; exact P1 t k
  have P4 : Wy p.tables e below (s₁.setTop (entryFrame m #[(.int ax), (.int bx), (.int cx), (.int dx), (.int ex), (.int fx)] maxLocals)) (s₁.setTop (mkF m 17 #[.val (.int ax), .val (.int bx), .val (.int cx), .val (.int dx), .val (.int ex), .val (.int fx), .val (.int v2), .val (.int ((bx &&& (2147483647 : Int32)) - ((bx &&& (2147483647 : Int32)) / v2) * v2)), .unset, .unset, .unset, .unset, .unset, .unset, .unset, .unset, .unset, .unset] [])) := fun t k => P3 t (by
    show Steps p.tables e below (s₁.setTop (mkF m 8 #[.val (.int ax), .val (.int bx), .val (.int cx), .val (.int dx), .val (.int ex), .val (.int fx), .val (.int v2), .unset, .unset, .unset, .unset, .unset, .unset, .unset, .unset, .unset, .unset, .unset] [])) _
    refine XS.iloadN X0.here hx rfl (hb hby at_8) rfl  ?_
    show Steps p.tables e below (s₁.setTop (mkF m 9 #[.val (.int ax), .val (.int bx), .val (.int cx), .val (.int dx), .val (.int ex), .val (.int fx), .val (.int v2), .unset, .unset, .unset, .unset, .unset, .unset, .unset, .unset, .unset, .unset, .unset] [(.int bx)])) _
    refine X0.ldcInt hx hown (mvT hZ (hw _ (List.mem_of_getElem? (i := 0) rfl))) (g := (mkF m 9 #[.val (.int ax), .val (.int bx), .val (.int cx), .val (.int dx), .val (.int ex), .val (.int fx), .val (.int v2), .unset, .unset, .unset, .unset, .unset, .unset, .unset, .unset, .unset, .unset, .unset] [(.int bx)])) rfl (hb hby at_9) _ ?_
    show Steps p.tables e below (s₁.setTop (mkF m 11 #[.val (.int ax), .val (.int bx), .val (.int cx), .val (.int dx), .val (.int ex), .val (.int fx), .val (.int v2), .unset, .unset, .unset, .unset, .unset, .unset, .unset, .unset, .unset, .unset, .unset] [(.int (2147483647 : Int32)), (.int bx)])) _
    refine XS.iand X0.here hx rfl (hb hby at_11) rfl ?_
    show Steps p.tables e below (s₁.setTop (mkF m 12 #[.val (.int ax), .val (.int bx), .val (.int cx), .val (.int dx), .val (.int ex), .val (.int fx), .val (.int v2), .unset, .unset, .unset, .unset, .unset, .unset, .unset, .unset, .unset, .unset, .unset] [(.int (bx &&& (2147483647 : Int32)))])) _
    refine XS.iload X0.here hx rfl (hb hby at_12) rfl  ?_
    show Steps p.tables e below (s₁.setTop (mkF m 14 #[.val (.int ax), .val (.int bx), .val (.int cx), .val (.int dx), .val (.int ex), .val (.int fx), .val (.int v2), .unset, .unset, .unset, .unset, .unset, .unset, .unset, .unset, .unset, .unset, .unset] [(.int v2), (.int (bx &&& (2147483647 : Int32)))])) _
    refine XS.irem X0.here hx rfl (hb hby at_14) rfl (own_n0 hv2) ?_
    show Steps p.tables e below (s₁.setTop (mkF m 15 #[.val (.int ax), .val (.int bx), .val (.int cx), .val (.int dx), .val (.int ex), .val (.int fx), .val (.int v2), .unset, .unset, .unset, .unset, .unset, .unset, .unset, .unset, .unset, .unset, .unset] [(.int ((bx &&& (2147483647 : Int32)) - ((bx &&& (2147483647 : Int32)) / v2) * v2))])) _
    refine XS.istore X0.here hx rfl (hb hby at_15) rfl (l' := #[.val (.int ax), .val (.int bx), .val (.int cx), .val (.int dx), .val (.int ex), .val (.int fx), .val (.int v2), .val (.int ((bx &&& (2147483647 : Int32)) - ((bx &&& (2147483647 : Int32)) / v2) * v2)), .unset, .unset, .unset, .unset, .unset, .unset, .unset, .unset, .unset, .unset]) rfl ?_
    exact k)
  obtain ⟨v5, hv5⟩ : ∃ z : Int32, z = ((bx &&& (2147483647 : Int32)) - ((bx &&& (2147483647 : Int32)) / v2) * v2) := ⟨_, rfl⟩
  have P6 : Wy p.tables e below (s₁.setTop (entryFrame m #[(.int ax), (.int bx), (.int cx), (.int dx), (.int ex), (.int fx)] maxLocals)) (s₁.setTop (mkF m 17 #[.val (.int ax), .val (.int bx), .val (.int cx), .val (.int dx), .val (.int ex), .val (.int fx), .val (.int v2), .val (.int v5), .unset, .unset, .unset, .unset, .unset, .unset, .unset, .unset, .unset, .unset] [])) := fun t k => by subst hv5; exact P4 t k
  have P7 : Wy p.tables e below (s₁.setTop (entryFrame m #[(.int ax), (.int bx), (.int cx), (.int dx), (.int ex), (.int fx)] maxLocals)) (s₁.setTop (mkF m 26 #[.val (.int ax), .val (.int bx), .val (.int cx), .val (.int dx), .val (.int ex), .val (.int fx), .val (.int v2), .val (.int v5), .val (.int ((cx &&& (2147483647 : Int32)) - ((cx &&& (2147483647 : Int32)) / v2) * v2)), .unset, .unset, .unset, .unset, .unset, .unset, .unset, .unset, .unset] [])) := fun t k => P6 t (by
    show Steps p.tables e below (s₁.setTop (mkF m 17 #[.val (.int ax), .val (.int bx), .val (.int cx), .val (.int dx), .val (.int ex), .val (.int fx), .val (.int v2), .val (.int v5), .unset, .unset, .unset, .unset, .unset, .unset, .unset, .unset, .unset, .unset] [])) _
    refine XS.iloadN X0.here hx rfl (hb hby at_17) rfl  ?_
    show Steps p.tables e below (s₁.setTop (mkF m 18 #[.val (.int ax), .val (.int bx), .val (.int cx), .val (.int dx), .val (.int ex), .val (.int fx), .val (.int v2), .val (.int v5), .unset, .unset, .unset, .unset, .unset, .unset, .unset, .unset, .unset, .unset] [(.int cx)])) _
    refine X0.ldcInt hx hown (mvT hZ (hw _ (List.mem_of_getElem? (i := 0) rfl))) (g := (mkF m 18 #[.val (.int ax), .val (.int bx), .val (.int cx), .val (.int dx), .val (.int ex), .val (.int fx), .val (.int v2), .val (.int v5), .unset, .unset, .unset, .unset, .unset, .unset, .unset, .unset, .unset, .unset] [(.int cx)])) rfl (hb hby at_18) _ ?_
    show Steps p.tables e below (s₁.setTop (mkF m 20 #[.val (.int ax), .val (.int bx), .val (.int cx), .val (.int dx), .val (.int ex), .val (.int fx), .val (.int v2), .val (.int v5), .unset, .unset, .unset, .unset, .unset, .unset, .unset, .unset, .unset, .unset] [(.int (2147483647 : Int32)), (.int cx)])) _
    refine XS.iand X0.here hx rfl (hb hby at_20) rfl ?_
    show Steps p.tables e below (s₁.setTop (mkF m 21 #[.val (.int ax), .val (.int bx), .val (.int cx), .val (.int dx), .val (.int ex), .val (.int fx), .val (.int v2), .val (.int v5), .unset, .unset, .unset, .unset, .unset, .unset, .unset, .unset, .unset, .unset] [(.int (cx &&& (2147483647 : Int32)))])) _
    refine XS.iload X0.here hx rfl (hb hby at_21) rfl  ?_
    show Steps p.tables e below (s₁.setTop (mkF m 23 #[.val (.int ax), .val (.int bx), .val (.int cx), .val (.int dx), .val (.int ex), .val (.int fx), .val (.int v2), .val (.int v5), .unset, .unset, .unset, .unset, .unset, .unset, .unset, .unset, .unset, .unset] [(.int v2), (.int (cx &&& (2147483647 : Int32)))])) _
    refine XS.irem X0.here hx rfl (hb hby at_23) rfl (own_n0 hv2) ?_
    show Steps p.tables e below (s₁.setTop (mkF m 24 #[.val (.int ax), .val (.int bx), .val (.int cx), .val (.int dx), .val (.int ex), .val (.int fx), .val (.int v2), .val (.int v5), .unset, .unset, .unset, .unset, .unset, .unset, .unset, .unset, .unset, .unset] [(.int ((cx &&& (2147483647 : Int32)) - ((cx &&& (2147483647 : Int32)) / v2) * v2))])) _
    refine XS.istore X0.here hx rfl (hb hby at_24) rfl (l' := #[.val (.int ax), .val (.int bx), .val (.int cx), .val (.int dx), .val (.int ex), .val (.int fx), .val (.int v2), .val (.int v5), .val (.int ((cx &&& (2147483647 : Int32)) - ((cx &&& (2147483647 : Int32)) / v2) * v2)), .unset, .unset, .unset, .unset, .unset, .unset, .unset, .unset, .unset]) rfl ?_
    exact k)
  obtain ⟨v8, hv8⟩ : ∃ z : Int32, z = ((cx &&& (2147483647 : Int32)) - ((cx &&& (2147483647 : Int32)) / v2) * v2) := ⟨_, rfl⟩
  have P9 : Wy p.tables e below (s₁.setTop (entryFrame m #[(.int ax), (.int bx), (.int cx), (.int dx), (.int ex), (.int fx)] maxLocals)) (s₁.setTop (mkF m 26 #[.val (.int ax), .val (.int bx), .val (.int cx), .val (.int dx), .val (.int ex), .val (.int fx), .val (.int v2), .val (.int v5), .val (.int v8), .unset, .unset, .unset, .unset, .unset, .unset, .unset, .unset, .unset] [])) := fun t k => by subst hv8; exact P7 t k
  obtain ⟨r14, hr14, P15⟩ : ∃ r14 : Int32, r14 = (if v5 = v8 then ((v5 + (1 : Int32)) - ((v5 + (1 : Int32)) / v2) * v2) else v8) ∧ Wy p.tables e below (s₁.setTop (entryFrame m #[(.int ax), (.int bx), (.int cx), (.int dx), (.int ex), (.int fx)] maxLocals)) (s₁.setTop (mkF m 42 #[.val (.int ax), .val (.int bx), .val (.int cx), .val (.int dx), .val (.int ex), .val (.int fx), .val (.int v2), .val (.int v5), .val (.int r14), .unset, .unset, .unset, .unset, .unset, .unset, .unset, .unset, .unset] [])) := by
    have P16 : Wy p.tables e below (s₁.setTop (entryFrame m #[(.int ax), (.int bx), (.int cx), (.int dx), (.int ex), (.int fx)] maxLocals)) (s₁.setTop (mkF m 30 #[.val (.int ax), .val (.int bx), .val (.int cx), .val (.int dx), .val (.int ex), .val (.int fx), .val (.int v2), .val (.int v5), .val (.int v8), .unset, .unset, .unset, .unset, .unset, .unset, .unset, .unset, .unset] [(.int v8), (.int v5)])) := fun t k => P9 t (by
      show Steps p.tables e below (s₁.setTop (mkF m 26 #[.val (.int ax), .val (.int bx), .val (.int cx), .val (.int dx), .val (.int ex), .val (.int fx), .val (.int v2), .val (.int v5), .val (.int v8), .unset, .unset, .unset, .unset, .unset, .unset, .unset, .unset, .unset] [])) _
      refine XS.iload X0.here hx rfl (hb hby at_26) rfl  ?_
      show Steps p.tables e below (s₁.setTop (mkF m 28 #[.val (.int ax), .val (.int bx), .val (.int cx), .val (.int dx), .val (.int ex), .val (.int fx), .val (.int v2), .val (.int v5), .val (.int v8), .unset, .unset, .unset, .unset, .unset, .unset, .unset, .unset, .unset] [(.int v5)])) _
      refine XS.iload X0.here hx rfl (hb hby at_28) rfl  ?_
      exact k)
    by_cases hc30_17 : v5 = v8
    · have P18 : Wy p.tables e below (s₁.setTop (entryFrame m #[(.int ax), (.int bx), (.int cx), (.int dx), (.int ex), (.int fx)] maxLocals)) (s₁.setTop (mkF m 42 #[.val (.int ax), .val (.int bx), .val (.int cx), .val (.int dx), .val (.int ex), .val (.int fx), .val (.int v2), .val (.int v5), .val (.int ((v5 + (1 : Int32)) - ((v5 + (1 : Int32)) / v2) * v2)), .unset, .unset, .unset, .unset, .unset, .unset, .unset, .unset, .unset] [])) := fun t k => P16 t (by
        show Steps p.tables e below (s₁.setTop (mkF m 30 #[.val (.int ax), .val (.int bx), .val (.int cx), .val (.int dx), .val (.int ex), .val (.int fx), .val (.int v2), .val (.int v5), .val (.int v8), .unset, .unset, .unset, .unset, .unset, .unset, .unset, .unset, .unset] [(.int v8), (.int v5)])) _
        refine XS.icmpNo X0.here hx rfl (hb hby at_30) rfl (teq hc30_17).2 ?_
        show Steps p.tables e below (s₁.setTop (mkF m 33 #[.val (.int ax), .val (.int bx), .val (.int cx), .val (.int dx), .val (.int ex), .val (.int fx), .val (.int v2), .val (.int v5), .val (.int v8), .unset, .unset, .unset, .unset, .unset, .unset, .unset, .unset, .unset] [])) _
        refine XS.iload X0.here hx rfl (hb hby at_33) rfl  ?_
        show Steps p.tables e below (s₁.setTop (mkF m 35 #[.val (.int ax), .val (.int bx), .val (.int cx), .val (.int dx), .val (.int ex), .val (.int fx), .val (.int v2), .val (.int v5), .val (.int v8), .unset, .unset, .unset, .unset, .unset, .unset, .unset, .unset, .unset] [(.int v5)])) _
        refine XS.iconst X0.here hx rfl (hb hby at_35) ?_
        show Steps p.tables e below (s₁.setTop (mkF m 36 #[.val (.int ax), .val (.int bx), .val (.int cx), .val (.int dx), .val (.int ex), .val (.int fx), .val (.int v2), .val (.int v5), .val (.int v8), .unset, .unset, .unset, .unset, .unset, .unset, .unset, .unset, .unset] [(.int (1 : Int32)), (.int v5)])) _
        refine XS.iadd X0.here hx rfl (hb hby at_36) rfl ?_
        show Steps p.tables e below (s₁.setTop (mkF m 37 #[.val (.int ax), .val (.int bx), .val (.int cx), .val (.int dx), .val (.int ex), .val (.int fx), .val (.int v2), .val (.int v5), .val (.int v8), .unset, .unset, .unset, .unset, .unset, .unset, .unset, .unset, .unset] [(.int (v5 + (1 : Int32)))])) _
        refine XS.iload X0.here hx rfl (hb hby at_37) rfl  ?_
        show Steps p.tables e below (s₁.setTop (mkF m 39 #[.val (.int ax), .val (.int bx), .val (.int cx), .val (.int dx), .val (.int ex), .val (.int fx), .val (.int v2), .val (.int v5), .val (.int v8), .unset, .unset, .unset, .unset, .unset, .unset, .unset, .unset, .unset] [(.int v2), (.int (v5 + (1 : Int32)))])) _
        refine XS.irem X0.here hx rfl (hb hby at_39) rfl (own_n0 hv2) ?_
        show Steps p.tables e below (s₁.setTop (mkF m 40 #[.val (.int ax), .val (.int bx), .val (.int cx), .val (.int dx), .val (.int ex), .val (.int fx), .val (.int v2), .val (.int v5), .val (.int v8), .unset, .unset, .unset, .unset, .unset, .unset, .unset, .unset, .unset] [(.int ((v5 + (1 : Int32)) - ((v5 + (1 : Int32)) / v2) * v2))])) _
        refine XS.istore X0.here hx rfl (hb hby at_40) rfl (l' := #[.val (.int ax), .val (.int bx), .val (.int cx), .val (.int dx), .val (.int ex), .val (.int fx), .val (.int v2), .val (.int v5), .val (.int ((v5 + (1 : Int32)) - ((v5 + (1 : Int32)) / v2) * v2)), .unset, .unset, .unset, .unset, .unset, .unset, .unset, .unset, .unset]) rfl ?_
        exact k)
      exact ⟨((v5 + (1 : Int32)) - ((v5 + (1 : Int32)) / v2) * v2), (by simp only [if_pos hc30_17]), P18⟩
    · have P19 : Wy p.tables e below (s₁.setTop (entryFrame m #[(.int ax), (.int bx), (.int cx), (.int dx), (.int ex), (.int fx)] maxLocals)) (s₁.setTop (mkF m 42 #[.val (.int ax), .val (.int bx), .val (.int cx), .val (.int dx), .val (.int ex), .val (.int fx), .val (.int v2), .val (.int v5), .val (.int v8), .unset, .unset, .unset, .unset, .unset, .unset, .unset, .unset, .unset] [])) := fun t k => P16 t (by
        show Steps p.tables e below (s₁.setTop (mkF m 30 #[.val (.int ax), .val (.int bx), .val (.int cx), .val (.int dx), .val (.int ex), .val (.int fx), .val (.int v2), .val (.int v5), .val (.int v8), .unset, .unset, .unset, .unset, .unset, .unset, .unset, .unset, .unset] [(.int v8), (.int v5)])) _
        refine XS.icmpYes X0.here hx rfl (pc0 := 30) (pc' := 42) rfl (hb hby at_30) rfl (feq hc30_17).2 (by decide) (by decide) ?_
        exact k)
      exact ⟨v8, (by simp only [if_neg hc30_17]), P19⟩
  have P20 : Wy p.tables e below (s₁.setTop (entryFrame m #[(.int ax), (.int bx), (.int cx), (.int dx), (.int ex), (.int fx)] maxLocals)) (s₁.setTop (mkF m 51 #[.val (.int ax), .val (.int bx), .val (.int cx), .val (.int dx), .val (.int ex), .val (.int fx), .val (.int v2), .val (.int v5), .val (.int r14), .val (.int ((dx &&& (2147483647 : Int32)) - ((dx &&& (2147483647 : Int32)) / v2) * v2)), .unset, .unset, .unset, .unset, .unset, .unset, .unset, .unset] [])) := fun t k => P15 t (by
    show Steps p.tables e below (s₁.setTop (mkF m 42 #[.val (.int ax), .val (.int bx), .val (.int cx), .val (.int dx), .val (.int ex), .val (.int fx), .val (.int v2), .val (.int v5), .val (.int r14), .unset, .unset, .unset, .unset, .unset, .unset, .unset, .unset, .unset] [])) _
    refine XS.iloadN X0.here hx rfl (hb hby at_42) rfl  ?_
    show Steps p.tables e below (s₁.setTop (mkF m 43 #[.val (.int ax), .val (.int bx), .val (.int cx), .val (.int dx), .val (.int ex), .val (.int fx), .val (.int v2), .val (.int v5), .val (.int r14), .unset, .unset, .unset, .unset, .unset, .unset, .unset, .unset, .unset] [(.int dx)])) _
    refine X0.ldcInt hx hown (mvT hZ (hw _ (List.mem_of_getElem? (i := 0) rfl))) (g := (mkF m 43 #[.val (.int ax), .val (.int bx), .val (.int cx), .val (.int dx), .val (.int ex), .val (.int fx), .val (.int v2), .val (.int v5), .val (.int r14), .unset, .unset, .unset, .unset, .unset, .unset, .unset, .unset, .unset] [(.int dx)])) rfl (hb hby at_43) _ ?_
    show Steps p.tables e below (s₁.setTop (mkF m 45 #[.val (.int ax), .val (.int bx), .val (.int cx), .val (.int dx), .val (.int ex), .val (.int fx), .val (.int v2), .val (.int v5), .val (.int r14), .unset, .unset, .unset, .unset, .unset, .unset, .unset, .unset, .unset] [(.int (2147483647 : Int32)), (.int dx)])) _
    refine XS.iand X0.here hx rfl (hb hby at_45) rfl ?_
    show Steps p.tables e below (s₁.setTop (mkF m 46 #[.val (.int ax), .val (.int bx), .val (.int cx), .val (.int dx), .val (.int ex), .val (.int fx), .val (.int v2), .val (.int v5), .val (.int r14), .unset, .unset, .unset, .unset, .unset, .unset, .unset, .unset, .unset] [(.int (dx &&& (2147483647 : Int32)))])) _
    refine XS.iload X0.here hx rfl (hb hby at_46) rfl  ?_
    show Steps p.tables e below (s₁.setTop (mkF m 48 #[.val (.int ax), .val (.int bx), .val (.int cx), .val (.int dx), .val (.int ex), .val (.int fx), .val (.int v2), .val (.int v5), .val (.int r14), .unset, .unset, .unset, .unset, .unset, .unset, .unset, .unset, .unset] [(.int v2), (.int (dx &&& (2147483647 : Int32)))])) _
    refine XS.irem X0.here hx rfl (hb hby at_48) rfl (own_n0 hv2) ?_
    show Steps p.tables e below (s₁.setTop (mkF m 49 #[.val (.int ax), .val (.int bx), .val (.int cx), .val (.int dx), .val (.int ex), .val (.int fx), .val (.int v2), .val (.int v5), .val (.int r14), .unset, .unset, .unset, .unset, .unset, .unset, .unset, .unset, .unset] [(.int ((dx &&& (2147483647 : Int32)) - ((dx &&& (2147483647 : Int32)) / v2) * v2))])) _
    refine XS.istore X0.here hx rfl (hb hby at_49) rfl (l' := #[.val (.int ax), .val (.int bx), .val (.int cx), .val (.int dx), .val (.int ex), .val (.int fx), .val (.int v2), .val (.int v5), .val (.int r14), .val (.int ((dx &&& (2147483647 : Int32)) - ((dx &&& (2147483647 : Int32)) / v2) * v2)), .unset, .unset, .unset, .unset, .unset, .unset, .unset, .unset]) rfl ?_
    exact k)
  obtain ⟨v21, hv21⟩ : ∃ z : Int32, z = ((dx &&& (2147483647 : Int32)) - ((dx &&& (2147483647 : Int32)) / v2) * v2) := ⟨_, rfl⟩
  have P22 : Wy p.tables e below (s₁.setTop (entryFrame m #[(.int ax), (.int bx), (.int cx), (.int dx), (.int ex), (.int fx)] maxLocals)) (s₁.setTop (mkF m 51 #[.val (.int ax), .val (.int bx), .val (.int cx), .val (.int dx), .val (.int ex), .val (.int fx), .val (.int v2), .val (.int v5), .val (.int r14), .val (.int v21), .unset, .unset, .unset, .unset, .unset, .unset, .unset, .unset] [])) := fun t k => by subst hv21; exact P20 t k
  have P23 : Wy p.tables e below (s₁.setTop (entryFrame m #[(.int ax), (.int bx), (.int cx), (.int dx), (.int ex), (.int fx)] maxLocals)) (s₁.setTop (mkF m 61 #[.val (.int ax), .val (.int bx), .val (.int cx), .val (.int dx), .val (.int ex), .val (.int fx), .val (.int v2), .val (.int v5), .val (.int r14), .val (.int v21), .val (.int ((ex &&& (2147483647 : Int32)) - ((ex &&& (2147483647 : Int32)) / v2) * v2)), .unset, .unset, .unset, .unset, .unset, .unset, .unset] [])) := fun t k => P22 t (by
    show Steps p.tables e below (s₁.setTop (mkF m 51 #[.val (.int ax), .val (.int bx), .val (.int cx), .val (.int dx), .val (.int ex), .val (.int fx), .val (.int v2), .val (.int v5), .val (.int r14), .val (.int v21), .unset, .unset, .unset, .unset, .unset, .unset, .unset, .unset] [])) _
    refine XS.iload X0.here hx rfl (hb hby at_51) rfl  ?_
    show Steps p.tables e below (s₁.setTop (mkF m 53 #[.val (.int ax), .val (.int bx), .val (.int cx), .val (.int dx), .val (.int ex), .val (.int fx), .val (.int v2), .val (.int v5), .val (.int r14), .val (.int v21), .unset, .unset, .unset, .unset, .unset, .unset, .unset, .unset] [(.int ex)])) _
    refine X0.ldcInt hx hown (mvT hZ (hw _ (List.mem_of_getElem? (i := 0) rfl))) (g := (mkF m 53 #[.val (.int ax), .val (.int bx), .val (.int cx), .val (.int dx), .val (.int ex), .val (.int fx), .val (.int v2), .val (.int v5), .val (.int r14), .val (.int v21), .unset, .unset, .unset, .unset, .unset, .unset, .unset, .unset] [(.int ex)])) rfl (hb hby at_53) _ ?_
    show Steps p.tables e below (s₁.setTop (mkF m 55 #[.val (.int ax), .val (.int bx), .val (.int cx), .val (.int dx), .val (.int ex), .val (.int fx), .val (.int v2), .val (.int v5), .val (.int r14), .val (.int v21), .unset, .unset, .unset, .unset, .unset, .unset, .unset, .unset] [(.int (2147483647 : Int32)), (.int ex)])) _
    refine XS.iand X0.here hx rfl (hb hby at_55) rfl ?_
    show Steps p.tables e below (s₁.setTop (mkF m 56 #[.val (.int ax), .val (.int bx), .val (.int cx), .val (.int dx), .val (.int ex), .val (.int fx), .val (.int v2), .val (.int v5), .val (.int r14), .val (.int v21), .unset, .unset, .unset, .unset, .unset, .unset, .unset, .unset] [(.int (ex &&& (2147483647 : Int32)))])) _
    refine XS.iload X0.here hx rfl (hb hby at_56) rfl  ?_
    show Steps p.tables e below (s₁.setTop (mkF m 58 #[.val (.int ax), .val (.int bx), .val (.int cx), .val (.int dx), .val (.int ex), .val (.int fx), .val (.int v2), .val (.int v5), .val (.int r14), .val (.int v21), .unset, .unset, .unset, .unset, .unset, .unset, .unset, .unset] [(.int v2), (.int (ex &&& (2147483647 : Int32)))])) _
    refine XS.irem X0.here hx rfl (hb hby at_58) rfl (own_n0 hv2) ?_
    show Steps p.tables e below (s₁.setTop (mkF m 59 #[.val (.int ax), .val (.int bx), .val (.int cx), .val (.int dx), .val (.int ex), .val (.int fx), .val (.int v2), .val (.int v5), .val (.int r14), .val (.int v21), .unset, .unset, .unset, .unset, .unset, .unset, .unset, .unset] [(.int ((ex &&& (2147483647 : Int32)) - ((ex &&& (2147483647 : Int32)) / v2) * v2))])) _
    refine XS.istore X0.here hx rfl (hb hby at_59) rfl (l' := #[.val (.int ax), .val (.int bx), .val (.int cx), .val (.int dx), .val (.int ex), .val (.int fx), .val (.int v2), .val (.int v5), .val (.int r14), .val (.int v21), .val (.int ((ex &&& (2147483647 : Int32)) - ((ex &&& (2147483647 : Int32)) / v2) * v2)), .unset, .unset, .unset, .unset, .unset, .unset, .unset]) rfl ?_
    exact k)
  obtain ⟨v24, hv24⟩ : ∃ z : Int32, z = ((ex &&& (2147483647 : Int32)) - ((ex &&& (2147483647 : Int32)) / v2) * v2) := ⟨_, rfl⟩
  have P25 : Wy p.tables e below (s₁.setTop (entryFrame m #[(.int ax), (.int bx), (.int cx), (.int dx), (.int ex), (.int fx)] maxLocals)) (s₁.setTop (mkF m 61 #[.val (.int ax), .val (.int bx), .val (.int cx), .val (.int dx), .val (.int ex), .val (.int fx), .val (.int v2), .val (.int v5), .val (.int r14), .val (.int v21), .val (.int v24), .unset, .unset, .unset, .unset, .unset, .unset, .unset] [])) := fun t k => by subst hv24; exact P23 t k
  have P26 : Wy p.tables e below (s₁.setTop (entryFrame m #[(.int ax), (.int bx), (.int cx), (.int dx), (.int ex), (.int fx)] maxLocals)) (s₁.setTop (mkF m 71 #[.val (.int ax), .val (.int bx), .val (.int cx), .val (.int dx), .val (.int ex), .val (.int fx), .val (.int v2), .val (.int v5), .val (.int r14), .val (.int v21), .val (.int v24), .val (.int ((fx &&& (2147483647 : Int32)) - ((fx &&& (2147483647 : Int32)) / v2) * v2)), .unset, .unset, .unset, .unset, .unset, .unset] [])) := fun t k => P25 t (by
    show Steps p.tables e below (s₁.setTop (mkF m 61 #[.val (.int ax), .val (.int bx), .val (.int cx), .val (.int dx), .val (.int ex), .val (.int fx), .val (.int v2), .val (.int v5), .val (.int r14), .val (.int v21), .val (.int v24), .unset, .unset, .unset, .unset, .unset, .unset, .unset] [])) _
    refine XS.iload X0.here hx rfl (hb hby at_61) rfl  ?_
    show Steps p.tables e below (s₁.setTop (mkF m 63 #[.val (.int ax), .val (.int bx), .val (.int cx), .val (.int dx), .val (.int ex), .val (.int fx), .val (.int v2), .val (.int v5), .val (.int r14), .val (.int v21), .val (.int v24), .unset, .unset, .unset, .unset, .unset, .unset, .unset] [(.int fx)])) _
    refine X0.ldcInt hx hown (mvT hZ (hw _ (List.mem_of_getElem? (i := 0) rfl))) (g := (mkF m 63 #[.val (.int ax), .val (.int bx), .val (.int cx), .val (.int dx), .val (.int ex), .val (.int fx), .val (.int v2), .val (.int v5), .val (.int r14), .val (.int v21), .val (.int v24), .unset, .unset, .unset, .unset, .unset, .unset, .unset] [(.int fx)])) rfl (hb hby at_63) _ ?_
    show Steps p.tables e below (s₁.setTop (mkF m 65 #[.val (.int ax), .val (.int bx), .val (.int cx), .val (.int dx), .val (.int ex), .val (.int fx), .val (.int v2), .val (.int v5), .val (.int r14), .val (.int v21), .val (.int v24), .unset, .unset, .unset, .unset, .unset, .unset, .unset] [(.int (2147483647 : Int32)), (.int fx)])) _
    refine XS.iand X0.here hx rfl (hb hby at_65) rfl ?_
    show Steps p.tables e below (s₁.setTop (mkF m 66 #[.val (.int ax), .val (.int bx), .val (.int cx), .val (.int dx), .val (.int ex), .val (.int fx), .val (.int v2), .val (.int v5), .val (.int r14), .val (.int v21), .val (.int v24), .unset, .unset, .unset, .unset, .unset, .unset, .unset] [(.int (fx &&& (2147483647 : Int32)))])) _
    refine XS.iload X0.here hx rfl (hb hby at_66) rfl  ?_
    show Steps p.tables e below (s₁.setTop (mkF m 68 #[.val (.int ax), .val (.int bx), .val (.int cx), .val (.int dx), .val (.int ex), .val (.int fx), .val (.int v2), .val (.int v5), .val (.int r14), .val (.int v21), .val (.int v24), .unset, .unset, .unset, .unset, .unset, .unset, .unset] [(.int v2), (.int (fx &&& (2147483647 : Int32)))])) _
    refine XS.irem X0.here hx rfl (hb hby at_68) rfl (own_n0 hv2) ?_
    show Steps p.tables e below (s₁.setTop (mkF m 69 #[.val (.int ax), .val (.int bx), .val (.int cx), .val (.int dx), .val (.int ex), .val (.int fx), .val (.int v2), .val (.int v5), .val (.int r14), .val (.int v21), .val (.int v24), .unset, .unset, .unset, .unset, .unset, .unset, .unset] [(.int ((fx &&& (2147483647 : Int32)) - ((fx &&& (2147483647 : Int32)) / v2) * v2))])) _
    refine XS.istore X0.here hx rfl (hb hby at_69) rfl (l' := #[.val (.int ax), .val (.int bx), .val (.int cx), .val (.int dx), .val (.int ex), .val (.int fx), .val (.int v2), .val (.int v5), .val (.int r14), .val (.int v21), .val (.int v24), .val (.int ((fx &&& (2147483647 : Int32)) - ((fx &&& (2147483647 : Int32)) / v2) * v2)), .unset, .unset, .unset, .unset, .unset, .unset]) rfl ?_
    exact k)
  obtain ⟨v27, hv27⟩ : ∃ z : Int32, z = ((fx &&& (2147483647 : Int32)) - ((fx &&& (2147483647 : Int32)) / v2) * v2) := ⟨_, rfl⟩
  have P28 : Wy p.tables e below (s₁.setTop (entryFrame m #[(.int ax), (.int bx), (.int cx), (.int dx), (.int ex), (.int fx)] maxLocals)) (s₁.setTop (mkF m 71 #[.val (.int ax), .val (.int bx), .val (.int cx), .val (.int dx), .val (.int ex), .val (.int fx), .val (.int v2), .val (.int v5), .val (.int r14), .val (.int v21), .val (.int v24), .val (.int v27), .unset, .unset, .unset, .unset, .unset, .unset] [])) := fun t k => by subst hv27; exact P26 t k
  obtain ⟨r33, hr33, P34⟩ : ∃ r33 : Int32, r33 = (if (((ax.toUInt32 >>> ((3 : Int32) &&& 31).toUInt32).toInt32) &&& (1 : Int32)) = (0 : Int32) then (0 : Int32) else (1 : Int32)) ∧ Wy p.tables e below (s₁.setTop (entryFrame m #[(.int ax), (.int bx), (.int cx), (.int dx), (.int ex), (.int fx)] maxLocals)) (s₁.setTop (mkF m 84 #[.val (.int ax), .val (.int bx), .val (.int cx), .val (.int dx), .val (.int ex), .val (.int fx), .val (.int v2), .val (.int v5), .val (.int r14), .val (.int v21), .val (.int v24), .val (.int v27), .unset, .unset, .unset, .unset, .unset, .unset] [(.int r33)])) := by
    have P35 : Wy p.tables e below (s₁.setTop (entryFrame m #[(.int ax), (.int bx), (.int cx), (.int dx), (.int ex), (.int fx)] maxLocals)) (s₁.setTop (mkF m 76 #[.val (.int ax), .val (.int bx), .val (.int cx), .val (.int dx), .val (.int ex), .val (.int fx), .val (.int v2), .val (.int v5), .val (.int r14), .val (.int v21), .val (.int v24), .val (.int v27), .unset, .unset, .unset, .unset, .unset, .unset] [(.int (((ax.toUInt32 >>> ((3 : Int32) &&& 31).toUInt32).toInt32) &&& (1 : Int32)))])) := fun t k => P28 t (by
      show Steps p.tables e below (s₁.setTop (mkF m 71 #[.val (.int ax), .val (.int bx), .val (.int cx), .val (.int dx), .val (.int ex), .val (.int fx), .val (.int v2), .val (.int v5), .val (.int r14), .val (.int v21), .val (.int v24), .val (.int v27), .unset, .unset, .unset, .unset, .unset, .unset] [])) _
      refine XS.iloadN X0.here hx rfl (hb hby at_71) rfl  ?_
      show Steps p.tables e below (s₁.setTop (mkF m 72 #[.val (.int ax), .val (.int bx), .val (.int cx), .val (.int dx), .val (.int ex), .val (.int fx), .val (.int v2), .val (.int v5), .val (.int r14), .val (.int v21), .val (.int v24), .val (.int v27), .unset, .unset, .unset, .unset, .unset, .unset] [(.int ax)])) _
      refine XS.iconst X0.here hx rfl (hb hby at_72) ?_
      show Steps p.tables e below (s₁.setTop (mkF m 73 #[.val (.int ax), .val (.int bx), .val (.int cx), .val (.int dx), .val (.int ex), .val (.int fx), .val (.int v2), .val (.int v5), .val (.int r14), .val (.int v21), .val (.int v24), .val (.int v27), .unset, .unset, .unset, .unset, .unset, .unset] [(.int (3 : Int32)), (.int ax)])) _
      refine XS.iushr X0.here hx rfl (hb hby at_73) rfl ?_
      show Steps p.tables e below (s₁.setTop (mkF m 74 #[.val (.int ax), .val (.int bx), .val (.int cx), .val (.int dx), .val (.int ex), .val (.int fx), .val (.int v2), .val (.int v5), .val (.int r14), .val (.int v21), .val (.int v24), .val (.int v27), .unset, .unset, .unset, .unset, .unset, .unset] [(.int ((ax.toUInt32 >>> ((3 : Int32) &&& 31).toUInt32).toInt32))])) _
      refine XS.iconst X0.here hx rfl (hb hby at_74) ?_
      show Steps p.tables e below (s₁.setTop (mkF m 75 #[.val (.int ax), .val (.int bx), .val (.int cx), .val (.int dx), .val (.int ex), .val (.int fx), .val (.int v2), .val (.int v5), .val (.int r14), .val (.int v21), .val (.int v24), .val (.int v27), .unset, .unset, .unset, .unset, .unset, .unset] [(.int (1 : Int32)), (.int ((ax.toUInt32 >>> ((3 : Int32) &&& 31).toUInt32).toInt32))])) _
      refine XS.iand X0.here hx rfl (hb hby at_75) rfl ?_
      exact k)
    by_cases hc76_36 : (((ax.toUInt32 >>> ((3 : Int32) &&& 31).toUInt32).toInt32) &&& (1 : Int32)) = (0 : Int32)
    · have P37 : Wy p.tables e below (s₁.setTop (entryFrame m #[(.int ax), (.int bx), (.int cx), (.int dx), (.int ex), (.int fx)] maxLocals)) (s₁.setTop (mkF m 84 #[.val (.int ax), .val (.int bx), .val (.int cx), .val (.int dx), .val (.int ex), .val (.int fx), .val (.int v2), .val (.int v5), .val (.int r14), .val (.int v21), .val (.int v24), .val (.int v27), .unset, .unset, .unset, .unset, .unset, .unset] [(.int (0 : Int32))])) := fun t k => P35 t (by
        show Steps p.tables e below (s₁.setTop (mkF m 76 #[.val (.int ax), .val (.int bx), .val (.int cx), .val (.int dx), .val (.int ex), .val (.int fx), .val (.int v2), .val (.int v5), .val (.int r14), .val (.int v21), .val (.int v24), .val (.int v27), .unset, .unset, .unset, .unset, .unset, .unset] [(.int (((ax.toUInt32 >>> ((3 : Int32) &&& 31).toUInt32).toInt32) &&& (1 : Int32)))])) _
        refine XS.ifYes X0.here hx rfl (pc0 := 76) (pc' := 83) rfl (hb hby at_76) rfl ((if0 _ _).trans (teq hc76_36).1) (by decide) (by decide) ?_
        show Steps p.tables e below (s₁.setTop (mkF m 83 #[.val (.int ax), .val (.int bx), .val (.int cx), .val (.int dx), .val (.int ex), .val (.int fx), .val (.int v2), .val (.int v5), .val (.int r14), .val (.int v21), .val (.int v24), .val (.int v27), .unset, .unset, .unset, .unset, .unset, .unset] [])) _
        refine XS.iconst X0.here hx rfl (hb hby at_83) ?_
        exact k)
      exact ⟨(0 : Int32), (by simp only [if_pos hc76_36]), P37⟩
    · have P38 : Wy p.tables e below (s₁.setTop (entryFrame m #[(.int ax), (.int bx), (.int cx), (.int dx), (.int ex), (.int fx)] maxLocals)) (s₁.setTop (mkF m 84 #[.val (.int ax), .val (.int bx), .val (.int cx), .val (.int dx), .val (.int ex), .val (.int fx), .val (.int v2), .val (.int v5), .val (.int r14), .val (.int v21), .val (.int v24), .val (.int v27), .unset, .unset, .unset, .unset, .unset, .unset] [(.int (1 : Int32))])) := fun t k => P35 t (by
        show Steps p.tables e below (s₁.setTop (mkF m 76 #[.val (.int ax), .val (.int bx), .val (.int cx), .val (.int dx), .val (.int ex), .val (.int fx), .val (.int v2), .val (.int v5), .val (.int r14), .val (.int v21), .val (.int v24), .val (.int v27), .unset, .unset, .unset, .unset, .unset, .unset] [(.int (((ax.toUInt32 >>> ((3 : Int32) &&& 31).toUInt32).toInt32) &&& (1 : Int32)))])) _
        refine XS.ifNo X0.here hx rfl (hb hby at_76) rfl ((if0 _ _).trans (feq hc76_36).1) ?_
        show Steps p.tables e below (s₁.setTop (mkF m 79 #[.val (.int ax), .val (.int bx), .val (.int cx), .val (.int dx), .val (.int ex), .val (.int fx), .val (.int v2), .val (.int v5), .val (.int r14), .val (.int v21), .val (.int v24), .val (.int v27), .unset, .unset, .unset, .unset, .unset, .unset] [])) _
        refine XS.iconst X0.here hx rfl (hb hby at_79) ?_
        show Steps p.tables e below (s₁.setTop (mkF m 80 #[.val (.int ax), .val (.int bx), .val (.int cx), .val (.int dx), .val (.int ex), .val (.int fx), .val (.int v2), .val (.int v5), .val (.int r14), .val (.int v21), .val (.int v24), .val (.int v27), .unset, .unset, .unset, .unset, .unset, .unset] [(.int (1 : Int32))])) _
        refine XS.goto X0.here hx rfl (pc0 := 80) (pc' := 84) rfl (hb hby at_80) (by decide) (by decide) ?_
        exact k)
      exact ⟨(1 : Int32), (by simp only [if_neg hc76_36]), P38⟩
  have P39 : Wy p.tables e below (s₁.setTop (entryFrame m #[(.int ax), (.int bx), (.int cx), (.int dx), (.int ex), (.int fx)] maxLocals)) (s₁.setTop (mkF m 86 #[.val (.int ax), .val (.int bx), .val (.int cx), .val (.int dx), .val (.int ex), .val (.int fx), .val (.int v2), .val (.int v5), .val (.int r14), .val (.int v21), .val (.int v24), .val (.int v27), .val (.int r33), .unset, .unset, .unset, .unset, .unset] [])) := fun t k => P34 t (by
    show Steps p.tables e below (s₁.setTop (mkF m 84 #[.val (.int ax), .val (.int bx), .val (.int cx), .val (.int dx), .val (.int ex), .val (.int fx), .val (.int v2), .val (.int v5), .val (.int r14), .val (.int v21), .val (.int v24), .val (.int v27), .unset, .unset, .unset, .unset, .unset, .unset] [(.int r33)])) _
    refine XS.istore X0.here hx rfl (hb hby at_84) rfl (l' := #[.val (.int ax), .val (.int bx), .val (.int cx), .val (.int dx), .val (.int ex), .val (.int fx), .val (.int v2), .val (.int v5), .val (.int r14), .val (.int v21), .val (.int v24), .val (.int v27), .val (.int r33), .unset, .unset, .unset, .unset, .unset]) rfl ?_
    exact k)
  obtain ⟨r59, hr59, P60⟩ : ∃ r59 : Int32, r59 = (if r33 = (0 : Int32) then (0 : Int32) else (if v24 = v27 then (0 : Int32) else (if v24 = v5 then (0 : Int32) else (if v24 = r14 then (0 : Int32) else (if v27 = v5 then (0 : Int32) else (if v27 = r14 then (0 : Int32) else (1 : Int32))))))) ∧ Wy p.tables e below (s₁.setTop (entryFrame m #[(.int ax), (.int bx), (.int cx), (.int dx), (.int ex), (.int fx)] maxLocals)) (s₁.setTop (mkF m 131 #[.val (.int ax), .val (.int bx), .val (.int cx), .val (.int dx), .val (.int ex), .val (.int fx), .val (.int v2), .val (.int v5), .val (.int r14), .val (.int v21), .val (.int v24), .val (.int v27), .val (.int r33), .unset, .unset, .unset, .unset, .unset] [(.int r59)])) := by
    have P61 : Wy p.tables e below (s₁.setTop (entryFrame m #[(.int ax), (.int bx), (.int cx), (.int dx), (.int ex), (.int fx)] maxLocals)) (s₁.setTop (mkF m 88 #[.val (.int ax), .val (.int bx), .val (.int cx), .val (.int dx), .val (.int ex), .val (.int fx), .val (.int v2), .val (.int v5), .val (.int r14), .val (.int v21), .val (.int v24), .val (.int v27), .val (.int r33), .unset, .unset, .unset, .unset, .unset] [(.int r33)])) := fun t k => P39 t (by
      show Steps p.tables e below (s₁.setTop (mkF m 86 #[.val (.int ax), .val (.int bx), .val (.int cx), .val (.int dx), .val (.int ex), .val (.int fx), .val (.int v2), .val (.int v5), .val (.int r14), .val (.int v21), .val (.int v24), .val (.int v27), .val (.int r33), .unset, .unset, .unset, .unset, .unset] [])) _
      refine XS.iload X0.here hx rfl (hb hby at_86) rfl  ?_
      exact k)
    by_cases hc88_62 : r33 = (0 : Int32)
    · have P63 : Wy p.tables e below (s₁.setTop (entryFrame m #[(.int ax), (.int bx), (.int cx), (.int dx), (.int ex), (.int fx)] maxLocals)) (s₁.setTop (mkF m 131 #[.val (.int ax), .val (.int bx), .val (.int cx), .val (.int dx), .val (.int ex), .val (.int fx), .val (.int v2), .val (.int v5), .val (.int r14), .val (.int v21), .val (.int v24), .val (.int v27), .val (.int r33), .unset, .unset, .unset, .unset, .unset] [(.int (0 : Int32))])) := fun t k => P61 t (by
        show Steps p.tables e below (s₁.setTop (mkF m 88 #[.val (.int ax), .val (.int bx), .val (.int cx), .val (.int dx), .val (.int ex), .val (.int fx), .val (.int v2), .val (.int v5), .val (.int r14), .val (.int v21), .val (.int v24), .val (.int v27), .val (.int r33), .unset, .unset, .unset, .unset, .unset] [(.int r33)])) _
        refine XS.ifYes X0.here hx rfl (pc0 := 88) (pc' := 130) rfl (hb hby at_88) rfl ((if0 _ _).trans (teq hc88_62).1) (by decide) (by decide) ?_
        show Steps p.tables e below (s₁.setTop (mkF m 130 #[.val (.int ax), .val (.int bx), .val (.int cx), .val (.int dx), .val (.int ex), .val (.int fx), .val (.int v2), .val (.int v5), .val (.int r14), .val (.int v21), .val (.int v24), .val (.int v27), .val (.int r33), .unset, .unset, .unset, .unset, .unset] [])) _
        refine XS.iconst X0.here hx rfl (hb hby at_130) ?_
        exact k)
      exact ⟨(0 : Int32), (by simp only [if_pos hc88_62]), P63⟩
    · have P64 : Wy p.tables e below (s₁.setTop (entryFrame m #[(.int ax), (.int bx), (.int cx), (.int dx), (.int ex), (.int fx)] maxLocals)) (s₁.setTop (mkF m 95 #[.val (.int ax), .val (.int bx), .val (.int cx), .val (.int dx), .val (.int ex), .val (.int fx), .val (.int v2), .val (.int v5), .val (.int r14), .val (.int v21), .val (.int v24), .val (.int v27), .val (.int r33), .unset, .unset, .unset, .unset, .unset] [(.int v27), (.int v24)])) := fun t k => P61 t (by
        show Steps p.tables e below (s₁.setTop (mkF m 88 #[.val (.int ax), .val (.int bx), .val (.int cx), .val (.int dx), .val (.int ex), .val (.int fx), .val (.int v2), .val (.int v5), .val (.int r14), .val (.int v21), .val (.int v24), .val (.int v27), .val (.int r33), .unset, .unset, .unset, .unset, .unset] [(.int r33)])) _
        refine XS.ifNo X0.here hx rfl (hb hby at_88) rfl ((if0 _ _).trans (feq hc88_62).1) ?_
        show Steps p.tables e below (s₁.setTop (mkF m 91 #[.val (.int ax), .val (.int bx), .val (.int cx), .val (.int dx), .val (.int ex), .val (.int fx), .val (.int v2), .val (.int v5), .val (.int r14), .val (.int v21), .val (.int v24), .val (.int v27), .val (.int r33), .unset, .unset, .unset, .unset, .unset] [])) _
        refine XS.iload X0.here hx rfl (hb hby at_91) rfl  ?_
        show Steps p.tables e below (s₁.setTop (mkF m 93 #[.val (.int ax), .val (.int bx), .val (.int cx), .val (.int dx), .val (.int ex), .val (.int fx), .val (.int v2), .val (.int v5), .val (.int r14), .val (.int v21), .val (.int v24), .val (.int v27), .val (.int r33), .unset, .unset, .unset, .unset, .unset] [(.int v24)])) _
        refine XS.iload X0.here hx rfl (hb hby at_93) rfl  ?_
        exact k)
      by_cases hc95_65 : v24 = v27
      · have P66 : Wy p.tables e below (s₁.setTop (entryFrame m #[(.int ax), (.int bx), (.int cx), (.int dx), (.int ex), (.int fx)] maxLocals)) (s₁.setTop (mkF m 131 #[.val (.int ax), .val (.int bx), .val (.int cx), .val (.int dx), .val (.int ex), .val (.int fx), .val (.int v2), .val (.int v5), .val (.int r14), .val (.int v21), .val (.int v24), .val (.int v27), .val (.int r33), .unset, .unset, .unset, .unset, .unset] [(.int (0 : Int32))])) := fun t k => P64 t (by
          show Steps p.tables e below (s₁.setTop (mkF m 95 #[.val (.int ax), .val (.int bx), .val (.int cx), .val (.int dx), .val (.int ex), .val (.int fx), .val (.int v2), .val (.int v5), .val (.int r14), .val (.int v21), .val (.int v24), .val (.int v27), .val (.int r33), .unset, .unset, .unset, .unset, .unset] [(.int v27), (.int v24)])) _
          refine XS.icmpYes X0.here hx rfl (pc0 := 95) (pc' := 130) rfl (hb hby at_95) rfl (teq hc95_65).1 (by decide) (by decide) ?_
          show Steps p.tables e below (s₁.setTop (mkF m 130 #[.val (.int ax), .val (.int bx), .val (.int cx), .val (.int dx), .val (.int ex), .val (.int fx), .val (.int v2), .val (.int v5), .val (.int r14), .val (.int v21), .val (.int v24), .val (.int v27), .val (.int r33), .unset, .unset, .unset, .unset, .unset] [])) _
          refine XS.iconst X0.here hx rfl (hb hby at_130) ?_
          exact k)
        exact ⟨(0 : Int32), (by simp only [if_neg hc88_62, if_pos hc95_65]), P66⟩
      · have P67 : Wy p.tables e below (s₁.setTop (entryFrame m #[(.int ax), (.int bx), (.int cx), (.int dx), (.int ex), (.int fx)] maxLocals)) (s₁.setTop (mkF m 102 #[.val (.int ax), .val (.int bx), .val (.int cx), .val (.int dx), .val (.int ex), .val (.int fx), .val (.int v2), .val (.int v5), .val (.int r14), .val (.int v21), .val (.int v24), .val (.int v27), .val (.int r33), .unset, .unset, .unset, .unset, .unset] [(.int v5), (.int v24)])) := fun t k => P64 t (by
          show Steps p.tables e below (s₁.setTop (mkF m 95 #[.val (.int ax), .val (.int bx), .val (.int cx), .val (.int dx), .val (.int ex), .val (.int fx), .val (.int v2), .val (.int v5), .val (.int r14), .val (.int v21), .val (.int v24), .val (.int v27), .val (.int r33), .unset, .unset, .unset, .unset, .unset] [(.int v27), (.int v24)])) _
          refine XS.icmpNo X0.here hx rfl (hb hby at_95) rfl (feq hc95_65).1 ?_
          show Steps p.tables e below (s₁.setTop (mkF m 98 #[.val (.int ax), .val (.int bx), .val (.int cx), .val (.int dx), .val (.int ex), .val (.int fx), .val (.int v2), .val (.int v5), .val (.int r14), .val (.int v21), .val (.int v24), .val (.int v27), .val (.int r33), .unset, .unset, .unset, .unset, .unset] [])) _
          refine XS.iload X0.here hx rfl (hb hby at_98) rfl  ?_
          show Steps p.tables e below (s₁.setTop (mkF m 100 #[.val (.int ax), .val (.int bx), .val (.int cx), .val (.int dx), .val (.int ex), .val (.int fx), .val (.int v2), .val (.int v5), .val (.int r14), .val (.int v21), .val (.int v24), .val (.int v27), .val (.int r33), .unset, .unset, .unset, .unset, .unset] [(.int v24)])) _
          refine XS.iload X0.here hx rfl (hb hby at_100) rfl  ?_
          exact k)
        by_cases hc102_68 : v24 = v5
        · have P69 : Wy p.tables e below (s₁.setTop (entryFrame m #[(.int ax), (.int bx), (.int cx), (.int dx), (.int ex), (.int fx)] maxLocals)) (s₁.setTop (mkF m 131 #[.val (.int ax), .val (.int bx), .val (.int cx), .val (.int dx), .val (.int ex), .val (.int fx), .val (.int v2), .val (.int v5), .val (.int r14), .val (.int v21), .val (.int v24), .val (.int v27), .val (.int r33), .unset, .unset, .unset, .unset, .unset] [(.int (0 : Int32))])) := fun t k => P67 t (by
            show Steps p.tables e below (s₁.setTop (mkF m 102 #[.val (.int ax), .val (.int bx), .val (.int cx), .val (.int dx), .val (.int ex), .val (.int fx), .val (.int v2), .val (.int v5), .val (.int r14), .val (.int v21), .val (.int v24), .val (.int v27), .val (.int r33), .unset, .unset, .unset, .unset, .unset] [(.int v5), (.int v24)])) _
            refine XS.icmpYes X0.here hx rfl (pc0 := 102) (pc' := 130) rfl (hb hby at_102) rfl (teq hc102_68).1 (by decide) (by decide) ?_
            show Steps p.tables e below (s₁.setTop (mkF m 130 #[.val (.int ax), .val (.int bx), .val (.int cx), .val (.int dx), .val (.int ex), .val (.int fx), .val (.int v2), .val (.int v5), .val (.int r14), .val (.int v21), .val (.int v24), .val (.int v27), .val (.int r33), .unset, .unset, .unset, .unset, .unset] [])) _
            refine XS.iconst X0.here hx rfl (hb hby at_130) ?_
            exact k)
          exact ⟨(0 : Int32), (by simp only [if_neg hc88_62, if_neg hc95_65, if_pos hc102_68]), P69⟩
        · have P70 : Wy p.tables e below (s₁.setTop (entryFrame m #[(.int ax), (.int bx), (.int cx), (.int dx), (.int ex), (.int fx)] maxLocals)) (s₁.setTop (mkF m 109 #[.val (.int ax), .val (.int bx), .val (.int cx), .val (.int dx), .val (.int ex), .val (.int fx), .val (.int v2), .val (.int v5), .val (.int r14), .val (.int v21), .val (.int v24), .val (.int v27), .val (.int r33), .unset, .unset, .unset, .unset, .unset] [(.int r14), (.int v24)])) := fun t k => P67 t (by
            show Steps p.tables e below (s₁.setTop (mkF m 102 #[.val (.int ax), .val (.int bx), .val (.int cx), .val (.int dx), .val (.int ex), .val (.int fx), .val (.int v2), .val (.int v5), .val (.int r14), .val (.int v21), .val (.int v24), .val (.int v27), .val (.int r33), .unset, .unset, .unset, .unset, .unset] [(.int v5), (.int v24)])) _
            refine XS.icmpNo X0.here hx rfl (hb hby at_102) rfl (feq hc102_68).1 ?_
            show Steps p.tables e below (s₁.setTop (mkF m 105 #[.val (.int ax), .val (.int bx), .val (.int cx), .val (.int dx), .val (.int ex), .val (.int fx), .val (.int v2), .val (.int v5), .val (.int r14), .val (.int v21), .val (.int v24), .val (.int v27), .val (.int r33), .unset, .unset, .unset, .unset, .unset] [])) _
            refine XS.iload X0.here hx rfl (hb hby at_105) rfl  ?_
            show Steps p.tables e below (s₁.setTop (mkF m 107 #[.val (.int ax), .val (.int bx), .val (.int cx), .val (.int dx), .val (.int ex), .val (.int fx), .val (.int v2), .val (.int v5), .val (.int r14), .val (.int v21), .val (.int v24), .val (.int v27), .val (.int r33), .unset, .unset, .unset, .unset, .unset] [(.int v24)])) _
            refine XS.iload X0.here hx rfl (hb hby at_107) rfl  ?_
            exact k)
          by_cases hc109_71 : v24 = r14
          · have P72 : Wy p.tables e below (s₁.setTop (entryFrame m #[(.int ax), (.int bx), (.int cx), (.int dx), (.int ex), (.int fx)] maxLocals)) (s₁.setTop (mkF m 131 #[.val (.int ax), .val (.int bx), .val (.int cx), .val (.int dx), .val (.int ex), .val (.int fx), .val (.int v2), .val (.int v5), .val (.int r14), .val (.int v21), .val (.int v24), .val (.int v27), .val (.int r33), .unset, .unset, .unset, .unset, .unset] [(.int (0 : Int32))])) := fun t k => P70 t (by
              show Steps p.tables e below (s₁.setTop (mkF m 109 #[.val (.int ax), .val (.int bx), .val (.int cx), .val (.int dx), .val (.int ex), .val (.int fx), .val (.int v2), .val (.int v5), .val (.int r14), .val (.int v21), .val (.int v24), .val (.int v27), .val (.int r33), .unset, .unset, .unset, .unset, .unset] [(.int r14), (.int v24)])) _
              refine XS.icmpYes X0.here hx rfl (pc0 := 109) (pc' := 130) rfl (hb hby at_109) rfl (teq hc109_71).1 (by decide) (by decide) ?_
              show Steps p.tables e below (s₁.setTop (mkF m 130 #[.val (.int ax), .val (.int bx), .val (.int cx), .val (.int dx), .val (.int ex), .val (.int fx), .val (.int v2), .val (.int v5), .val (.int r14), .val (.int v21), .val (.int v24), .val (.int v27), .val (.int r33), .unset, .unset, .unset, .unset, .unset] [])) _
              refine XS.iconst X0.here hx rfl (hb hby at_130) ?_
              exact k)
            exact ⟨(0 : Int32), (by simp only [if_neg hc88_62, if_neg hc95_65, if_neg hc102_68, if_pos hc109_71]), P72⟩
          · have P73 : Wy p.tables e below (s₁.setTop (entryFrame m #[(.int ax), (.int bx), (.int cx), (.int dx), (.int ex), (.int fx)] maxLocals)) (s₁.setTop (mkF m 116 #[.val (.int ax), .val (.int bx), .val (.int cx), .val (.int dx), .val (.int ex), .val (.int fx), .val (.int v2), .val (.int v5), .val (.int r14), .val (.int v21), .val (.int v24), .val (.int v27), .val (.int r33), .unset, .unset, .unset, .unset, .unset] [(.int v5), (.int v27)])) := fun t k => P70 t (by
              show Steps p.tables e below (s₁.setTop (mkF m 109 #[.val (.int ax), .val (.int bx), .val (.int cx), .val (.int dx), .val (.int ex), .val (.int fx), .val (.int v2), .val (.int v5), .val (.int r14), .val (.int v21), .val (.int v24), .val (.int v27), .val (.int r33), .unset, .unset, .unset, .unset, .unset] [(.int r14), (.int v24)])) _
              refine XS.icmpNo X0.here hx rfl (hb hby at_109) rfl (feq hc109_71).1 ?_
              show Steps p.tables e below (s₁.setTop (mkF m 112 #[.val (.int ax), .val (.int bx), .val (.int cx), .val (.int dx), .val (.int ex), .val (.int fx), .val (.int v2), .val (.int v5), .val (.int r14), .val (.int v21), .val (.int v24), .val (.int v27), .val (.int r33), .unset, .unset, .unset, .unset, .unset] [])) _
              refine XS.iload X0.here hx rfl (hb hby at_112) rfl  ?_
              show Steps p.tables e below (s₁.setTop (mkF m 114 #[.val (.int ax), .val (.int bx), .val (.int cx), .val (.int dx), .val (.int ex), .val (.int fx), .val (.int v2), .val (.int v5), .val (.int r14), .val (.int v21), .val (.int v24), .val (.int v27), .val (.int r33), .unset, .unset, .unset, .unset, .unset] [(.int v27)])) _
              refine XS.iload X0.here hx rfl (hb hby at_114) rfl  ?_
              exact k)
            by_cases hc116_74 : v27 = v5
            · have P75 : Wy p.tables e below (s₁.setTop (entryFrame m #[(.int ax), (.int bx), (.int cx), (.int dx), (.int ex), (.int fx)] maxLocals)) (s₁.setTop (mkF m 131 #[.val (.int ax), .val (.int bx), .val (.int cx), .val (.int dx), .val (.int ex), .val (.int fx), .val (.int v2), .val (.int v5), .val (.int r14), .val (.int v21), .val (.int v24), .val (.int v27), .val (.int r33), .unset, .unset, .unset, .unset, .unset] [(.int (0 : Int32))])) := fun t k => P73 t (by
                show Steps p.tables e below (s₁.setTop (mkF m 116 #[.val (.int ax), .val (.int bx), .val (.int cx), .val (.int dx), .val (.int ex), .val (.int fx), .val (.int v2), .val (.int v5), .val (.int r14), .val (.int v21), .val (.int v24), .val (.int v27), .val (.int r33), .unset, .unset, .unset, .unset, .unset] [(.int v5), (.int v27)])) _
                refine XS.icmpYes X0.here hx rfl (pc0 := 116) (pc' := 130) rfl (hb hby at_116) rfl (teq hc116_74).1 (by decide) (by decide) ?_
                show Steps p.tables e below (s₁.setTop (mkF m 130 #[.val (.int ax), .val (.int bx), .val (.int cx), .val (.int dx), .val (.int ex), .val (.int fx), .val (.int v2), .val (.int v5), .val (.int r14), .val (.int v21), .val (.int v24), .val (.int v27), .val (.int r33), .unset, .unset, .unset, .unset, .unset] [])) _
                refine XS.iconst X0.here hx rfl (hb hby at_130) ?_
                exact k)
              exact ⟨(0 : Int32), (by simp only [if_neg hc88_62, if_neg hc95_65, if_neg hc102_68, if_neg hc109_71, if_pos hc116_74]), P75⟩
            · have P76 : Wy p.tables e below (s₁.setTop (entryFrame m #[(.int ax), (.int bx), (.int cx), (.int dx), (.int ex), (.int fx)] maxLocals)) (s₁.setTop (mkF m 123 #[.val (.int ax), .val (.int bx), .val (.int cx), .val (.int dx), .val (.int ex), .val (.int fx), .val (.int v2), .val (.int v5), .val (.int r14), .val (.int v21), .val (.int v24), .val (.int v27), .val (.int r33), .unset, .unset, .unset, .unset, .unset] [(.int r14), (.int v27)])) := fun t k => P73 t (by
                show Steps p.tables e below (s₁.setTop (mkF m 116 #[.val (.int ax), .val (.int bx), .val (.int cx), .val (.int dx), .val (.int ex), .val (.int fx), .val (.int v2), .val (.int v5), .val (.int r14), .val (.int v21), .val (.int v24), .val (.int v27), .val (.int r33), .unset, .unset, .unset, .unset, .unset] [(.int v5), (.int v27)])) _
                refine XS.icmpNo X0.here hx rfl (hb hby at_116) rfl (feq hc116_74).1 ?_
                show Steps p.tables e below (s₁.setTop (mkF m 119 #[.val (.int ax), .val (.int bx), .val (.int cx), .val (.int dx), .val (.int ex), .val (.int fx), .val (.int v2), .val (.int v5), .val (.int r14), .val (.int v21), .val (.int v24), .val (.int v27), .val (.int r33), .unset, .unset, .unset, .unset, .unset] [])) _
                refine XS.iload X0.here hx rfl (hb hby at_119) rfl  ?_
                show Steps p.tables e below (s₁.setTop (mkF m 121 #[.val (.int ax), .val (.int bx), .val (.int cx), .val (.int dx), .val (.int ex), .val (.int fx), .val (.int v2), .val (.int v5), .val (.int r14), .val (.int v21), .val (.int v24), .val (.int v27), .val (.int r33), .unset, .unset, .unset, .unset, .unset] [(.int v27)])) _
                refine XS.iload X0.here hx rfl (hb hby at_121) rfl  ?_
                exact k)
              by_cases hc123_77 : v27 = r14
              · have P78 : Wy p.tables e below (s₁.setTop (entryFrame m #[(.int ax), (.int bx), (.int cx), (.int dx), (.int ex), (.int fx)] maxLocals)) (s₁.setTop (mkF m 131 #[.val (.int ax), .val (.int bx), .val (.int cx), .val (.int dx), .val (.int ex), .val (.int fx), .val (.int v2), .val (.int v5), .val (.int r14), .val (.int v21), .val (.int v24), .val (.int v27), .val (.int r33), .unset, .unset, .unset, .unset, .unset] [(.int (0 : Int32))])) := fun t k => P76 t (by
                  show Steps p.tables e below (s₁.setTop (mkF m 123 #[.val (.int ax), .val (.int bx), .val (.int cx), .val (.int dx), .val (.int ex), .val (.int fx), .val (.int v2), .val (.int v5), .val (.int r14), .val (.int v21), .val (.int v24), .val (.int v27), .val (.int r33), .unset, .unset, .unset, .unset, .unset] [(.int r14), (.int v27)])) _
                  refine XS.icmpYes X0.here hx rfl (pc0 := 123) (pc' := 130) rfl (hb hby at_123) rfl (teq hc123_77).1 (by decide) (by decide) ?_
                  show Steps p.tables e below (s₁.setTop (mkF m 130 #[.val (.int ax), .val (.int bx), .val (.int cx), .val (.int dx), .val (.int ex), .val (.int fx), .val (.int v2), .val (.int v5), .val (.int r14), .val (.int v21), .val (.int v24), .val (.int v27), .val (.int r33), .unset, .unset, .unset, .unset, .unset] [])) _
                  refine XS.iconst X0.here hx rfl (hb hby at_130) ?_
                  exact k)
                exact ⟨(0 : Int32), (by simp only [if_neg hc88_62, if_neg hc95_65, if_neg hc102_68, if_neg hc109_71, if_neg hc116_74, if_pos hc123_77]), P78⟩
              · have P79 : Wy p.tables e below (s₁.setTop (entryFrame m #[(.int ax), (.int bx), (.int cx), (.int dx), (.int ex), (.int fx)] maxLocals)) (s₁.setTop (mkF m 131 #[.val (.int ax), .val (.int bx), .val (.int cx), .val (.int dx), .val (.int ex), .val (.int fx), .val (.int v2), .val (.int v5), .val (.int r14), .val (.int v21), .val (.int v24), .val (.int v27), .val (.int r33), .unset, .unset, .unset, .unset, .unset] [(.int (1 : Int32))])) := fun t k => P76 t (by
                  show Steps p.tables e below (s₁.setTop (mkF m 123 #[.val (.int ax), .val (.int bx), .val (.int cx), .val (.int dx), .val (.int ex), .val (.int fx), .val (.int v2), .val (.int v5), .val (.int r14), .val (.int v21), .val (.int v24), .val (.int v27), .val (.int r33), .unset, .unset, .unset, .unset, .unset] [(.int r14), (.int v27)])) _
                  refine XS.icmpNo X0.here hx rfl (hb hby at_123) rfl (feq hc123_77).1 ?_
                  show Steps p.tables e below (s₁.setTop (mkF m 126 #[.val (.int ax), .val (.int bx), .val (.int cx), .val (.int dx), .val (.int ex), .val (.int fx), .val (.int v2), .val (.int v5), .val (.int r14), .val (.int v21), .val (.int v24), .val (.int v27), .val (.int r33), .unset, .unset, .unset, .unset, .unset] [])) _
                  refine XS.iconst X0.here hx rfl (hb hby at_126) ?_
                  show Steps p.tables e below (s₁.setTop (mkF m 127 #[.val (.int ax), .val (.int bx), .val (.int cx), .val (.int dx), .val (.int ex), .val (.int fx), .val (.int v2), .val (.int v5), .val (.int r14), .val (.int v21), .val (.int v24), .val (.int v27), .val (.int r33), .unset, .unset, .unset, .unset, .unset] [(.int (1 : Int32))])) _
                  refine XS.goto X0.here hx rfl (pc0 := 127) (pc' := 131) rfl (hb hby at_127) (by decide) (by decide) ?_
                  exact k)
                exact ⟨(1 : Int32), (by simp only [if_neg hc88_62, if_neg hc95_65, if_neg hc102_68, if_neg hc109_71, if_neg hc116_74, if_neg hc123_77]), P79⟩
  have P80 : Wy p.tables e below (s₁.setTop (entryFrame m #[(.int ax), (.int bx), (.int cx), (.int dx), (.int ex), (.int fx)] maxLocals)) (s₁.setTop (mkF m 133 #[.val (.int ax), .val (.int bx), .val (.int cx), .val (.int dx), .val (.int ex), .val (.int fx), .val (.int v2), .val (.int v5), .val (.int r14), .val (.int v21), .val (.int v24), .val (.int v27), .val (.int r33), .val (.int r59), .unset, .unset, .unset, .unset] [])) := fun t k => P60 t (by
    show Steps p.tables e below (s₁.setTop (mkF m 131 #[.val (.int ax), .val (.int bx), .val (.int cx), .val (.int dx), .val (.int ex), .val (.int fx), .val (.int v2), .val (.int v5), .val (.int r14), .val (.int v21), .val (.int v24), .val (.int v27), .val (.int r33), .unset, .unset, .unset, .unset, .unset] [(.int r59)])) _
    refine XS.istore X0.here hx rfl (hb hby at_131) rfl (l' := #[.val (.int ax), .val (.int bx), .val (.int cx), .val (.int dx), .val (.int ex), .val (.int fx), .val (.int v2), .val (.int v5), .val (.int r14), .val (.int v21), .val (.int v24), .val (.int v27), .val (.int r33), .val (.int r59), .unset, .unset, .unset, .unset]) rfl ?_
    exact k)
  obtain ⟨nn, un, vn, qn, xn, yn, hn9, hnx, hux, hu, hvx, hv, huv, hqx, hq, hxx, hx1, hyx, hy1⟩ := own_rngs hv2 hv5 hv8 hr14 hv21 hv24 hv27
  obtain ⟨T81, h81, X81, e81, E81, A81, D81, -, st81⟩ := newO X0 hx hZ hown (hw _ (List.mem_of_getElem? (i := 1) rfl)) (hw _ (List.mem_of_getElem? (i := 2) rfl)) (hw _ (List.mem_of_getElem? (i := 3) rfl)) e0 (g := (mkF m 133 #[.val (.int ax), .val (.int bx), .val (.int cx), .val (.int dx), .val (.int ex), .val (.int fx), .val (.int v2), .val (.int v5), .val (.int r14), .val (.int v21), .val (.int v24), .val (.int v27), .val (.int r33), .val (.int r59), .unset, .unset, .unset, .unset] [])) rfl (hb hby at_133) (by decide) (by decide)
  obtain ⟨b81, g81⟩ : ∃ z, z = h0.size := ⟨_, rfl⟩
  rw [← g81] at A81 D81 st81
  have g_b81 : n0 ≤ b81 := Nat.le_trans Z0 (Nat.le_of_eq g81.symm)
  have z81 : n0 ≤ h81.size := Nat.le_trans Z0 E81.1
  have F81_mates : Fld Z h81 b81 "com/example/eagerpair/eagerpair/graph/Matching" "mates" "[I" .null := D81 (Or.inr (hw _ (List.mem_of_getElem? (i := 12) rfl))) (ty := (.array .int)) (by decide)
  have F81_size : Fld Z h81 b81 "com/example/eagerpair/eagerpair/graph/Matching" "size" "I" (.int (0 : Int32)) := D81 (Or.inl (hw _ (List.mem_of_getElem? (i := 29) rfl))) (ty := .int) (by decide)
  have P82 : Wy p.tables e below (s₁.setTop (entryFrame m #[(.int ax), (.int bx), (.int cx), (.int dx), (.int ex), (.int fx)] maxLocals)) (T81.setTop (mkF m 136 #[.val (.int ax), .val (.int bx), .val (.int cx), .val (.int dx), .val (.int ex), .val (.int fx), .val (.int v2), .val (.int v5), .val (.int r14), .val (.int v21), .val (.int v24), .val (.int v27), .val (.int r33), .val (.int r59), .unset, .unset, .unset, .unset] [(.ref b81)])) := fun t k => P80 t (st81 _ k)
  have P83 : Wy p.tables e below (s₁.setTop (entryFrame m #[(.int ax), (.int bx), (.int cx), (.int dx), (.int ex), (.int fx)] maxLocals)) (T81.setTop (mkF m 139 #[.val (.int ax), .val (.int bx), .val (.int cx), .val (.int dx), .val (.int ex), .val (.int fx), .val (.int v2), .val (.int v5), .val (.int r14), .val (.int v21), .val (.int v24), .val (.int v27), .val (.int r33), .val (.int r59), .unset, .unset, .unset, .unset] [(.int v2), (.ref b81), (.ref b81)])) := fun t k => P82 t (by
    show Steps p.tables e below (T81.setTop (mkF m 136 #[.val (.int ax), .val (.int bx), .val (.int cx), .val (.int dx), .val (.int ex), .val (.int fx), .val (.int v2), .val (.int v5), .val (.int r14), .val (.int v21), .val (.int v24), .val (.int v27), .val (.int r33), .val (.int r59), .unset, .unset, .unset, .unset] [(.ref b81)])) _
    refine XS.dup X81.here hx rfl (hb hby at_136) rfl rfl ?_
    show Steps p.tables e below (T81.setTop (mkF m 137 #[.val (.int ax), .val (.int bx), .val (.int cx), .val (.int dx), .val (.int ex), .val (.int fx), .val (.int v2), .val (.int v5), .val (.int r14), .val (.int v21), .val (.int v24), .val (.int v27), .val (.int r33), .val (.int r59), .unset, .unset, .unset, .unset] [(.ref b81), (.ref b81)])) _
    refine XS.iload X81.here hx rfl (hb hby at_137) rfl  ?_
    exact k)
  obtain ⟨_, _, ⟨T84, L84, k84, n84⟩, -, X84, ⟨Lc84, hQ84, l84, y84, z84⟩, st84⟩ := X81.specialBack hx (y := (⟨"com/example/eagerpair/eagerpair/graph/Matching", "<init>", "(I)V"⟩ : MethodName)) rfl hown (mvT hZ (hw _ (List.mem_of_getElem? (i := 4) rfl))) (mvT hZ (hw _ (List.mem_of_getElem? (i := 5) rfl))) (mvT hZ (hw _ (List.mem_of_getElem? (i := 6) rfl))) (by decide) (backOf (W := 1) (rm1 l Z a0 hw [] b81 v2 nn h81 n0 z81 A81 F81_mates F81_size g_b81 (own_neg hnx hn9) (own_cap hnx hn9) (own_cl hnx hn9) (own_b hn9)) hZ (hw _ (List.mem_of_getElem? (i := 6) rfl)) (hw _ (List.mem_of_getElem? (i := 3) rfl)) (by decide) (by decide)) (g := (mkF m 139 #[.val (.int ax), .val (.int bx), .val (.int cx), .val (.int dx), .val (.int ex), .val (.int fx), .val (.int v2), .val (.int v5), .val (.int r14), .val (.int v21), .val (.int v24), .val (.int v27), .val (.int r33), .val (.int r59), .unset, .unset, .unset, .unset] [(.int v2), (.ref b81), (.ref b81)])) rfl (by rw [hml]; rfl) (Steps.refl _) (a := b81) (argsL := [(.int v2)]) (rest := [(.ref b81)]) (lenOf pd_lIrV rfl) rfl (by show 2 * 0 + _ ≤ _; exact Nat.le_of_eq rfl) (hb hby at_139) (fun _ _ => ⟨rfl, e81, (by decide : 1 + 1 ≤ _), (by decide : 2 + 9 ≤ _)⟩)
  dsimp only [Pt.U, Pt.locs, Pt.cells, Pt.slots] at X84 l84 y84 z84 st84 hQ84
  subst l84 y84 z84
  obtain ⟨rfl, N84q, K84q, E84q, ad, g_ad, ne_ad, F84m, F84s, I84q⟩ := hQ84
  have N84 := Fr.app N0 N84q
  have z84k : n0 ≤ T84.heap.size := Nat.le_trans z81 K84q.1
  have A84_b81 := A81.keep K84q
  have P85 : Wy p.tables e below (s₁.setTop (entryFrame m #[(.int ax), (.int bx), (.int cx), (.int dx), (.int ex), (.int fx)] maxLocals)) (T84.setTop (mkF m 142 #[.val (.int ax), .val (.int bx), .val (.int cx), .val (.int dx), .val (.int ex), .val (.int fx), .val (.int v2), .val (.int v5), .val (.int r14), .val (.int v21), .val (.int v24), .val (.int v27), .val (.int r33), .val (.int r59), .unset, .unset, .unset, .unset] [(.ref b81)])) := fun t k => P83 t (st84.trans k)
  have P86 : Wy p.tables e below (s₁.setTop (entryFrame m #[(.int ax), (.int bx), (.int cx), (.int dx), (.int ex), (.int fx)] maxLocals)) (T84.setTop (mkF m 148 #[.val (.int ax), .val (.int bx), .val (.int cx), .val (.int dx), .val (.int ex), .val (.int fx), .val (.int v2), .val (.int v5), .val (.int r14), .val (.int v21), .val (.int v24), .val (.int v27), .val (.int r33), .val (.int r59), .val (.ref b81), .unset, .unset, .unset] [(.int v21), (.ref b81)])) := fun t k => P85 t (by
    show Steps p.tables e below (T84.setTop (mkF m 142 #[.val (.int ax), .val (.int bx), .val (.int cx), .val (.int dx), .val (.int ex), .val (.int fx), .val (.int v2), .val (.int v5), .val (.int r14), .val (.int v21), .val (.int v24), .val (.int v27), .val (.int r33), .val (.int r59), .unset, .unset, .unset, .unset] [(.ref b81)])) _
    refine XS.astore X84.here hx rfl (hb hby at_142) rfl rfl (l' := #[.val (.int ax), .val (.int bx), .val (.int cx), .val (.int dx), .val (.int ex), .val (.int fx), .val (.int v2), .val (.int v5), .val (.int r14), .val (.int v21), .val (.int v24), .val (.int v27), .val (.int r33), .val (.int r59), .val (.ref b81), .unset, .unset, .unset]) rfl ?_
    show Steps p.tables e below (T84.setTop (mkF m 144 #[.val (.int ax), .val (.int bx), .val (.int cx), .val (.int dx), .val (.int ex), .val (.int fx), .val (.int v2), .val (.int v5), .val (.int r14), .val (.int v21), .val (.int v24), .val (.int v27), .val (.int r33), .val (.int r59), .val (.ref b81), .unset, .unset, .unset] [])) _
    refine XS.aload X84.here hx rfl (hb hby at_144) rfl rfl  ?_
    show Steps p.tables e below (T84.setTop (mkF m 146 #[.val (.int ax), .val (.int bx), .val (.int cx), .val (.int dx), .val (.int ex), .val (.int fx), .val (.int v2), .val (.int v5), .val (.int r14), .val (.int v21), .val (.int v24), .val (.int v27), .val (.int r33), .val (.int r59), .val (.ref b81), .unset, .unset, .unset] [(.ref b81)])) _
    refine XS.iload X84.here hx rfl (hb hby at_146) rfl  ?_
    exact k)
  obtain ⟨cq87, kq87, q87a, q87b, q87c⟩ := isOf hZ rfl E84q
  obtain ⟨_, _, ⟨T87, L87, k87, n87⟩, -, X87, ⟨Lc87, hQ87, l87, y87, z87⟩, st87⟩ := X84.virtualBack hx (y := (⟨"com/example/eagerpair/eagerpair/graph/Matching", "isMatched", "(I)Z"⟩ : MethodName)) (z := (⟨"com/example/eagerpair/eagerpair/graph/Matching", "isMatched", "(I)Z"⟩ : MethodName)) hown (mvT hZ (hw _ (List.mem_of_getElem? (i := 17) rfl))) (mvT hZ (hw _ (List.mem_of_getElem? (i := 18) rfl))) (notFace_of_selects (args := #[]) (mvT hZ (hw _ (List.mem_of_getElem? (i := 20) rfl)))) (mvT hZ (hw _ (List.mem_of_getElem? (i := 20) rfl))) (mvT hZ (hw _ (List.mem_of_getElem? (i := 19) rfl))) (by decide) (backOf (W := 0) (rm4 l Z a0 hw [] b81 v21 ad nn qn own_f0 T84.heap n0 z84k F84m I84q hqx hq (own_b hn9)) hZ (hw _ (List.mem_of_getElem? (i := 21) rfl)) (hw _ (List.mem_of_getElem? (i := 3) rfl)) (by decide) (by decide)) q87a q87c (g := (mkF m 148 #[.val (.int ax), .val (.int bx), .val (.int cx), .val (.int dx), .val (.int ex), .val (.int fx), .val (.int v2), .val (.int v5), .val (.int r14), .val (.int v21), .val (.int v24), .val (.int v27), .val (.int r33), .val (.int r59), .val (.ref b81), .unset, .unset, .unset] [(.int v21), (.ref b81)])) rfl (by rw [hml]; rfl) (Steps.refl _) (argsL := [(.int v21)]) (rest := []) (lenOf pd_lIrZ rfl) rfl (by show 2 * 0 + _ ≤ _; exact Nat.le_of_eq rfl) (hb hby at_148) (fun _ _ => ⟨rfl, rfl, (by decide : 2 + 0 ≤ _), (by decide : 11 + 0 ≤ _)⟩)
  dsimp only [Pt.U, Pt.locs, Pt.cells, Pt.slots] at X87 l87 y87 z87 st87 hQ87
  subst l87 y87 z87
  obtain ⟨rfl, N87q, e87⟩ := hQ87
  have N87 := Fr.app N84 N87q
  have P88 : Wy p.tables e below (s₁.setTop (entryFrame m #[(.int ax), (.int bx), (.int cx), (.int dx), (.int ex), (.int fx)] maxLocals)) (T87.setTop (mkF m 151 #[.val (.int ax), .val (.int bx), .val (.int cx), .val (.int dx), .val (.int ex), .val (.int fx), .val (.int v2), .val (.int v5), .val (.int r14), .val (.int v21), .val (.int v24), .val (.int v27), .val (.int r33), .val (.int r59), .val (.ref b81), .unset, .unset, .unset] [(.int (own_im (own_f0 qn)))])) := fun t k => P86 t (st87.trans k)
  have P89 : Wy p.tables e below (s₁.setTop (entryFrame m #[(.int ax), (.int bx), (.int cx), (.int dx), (.int ex), (.int fx)] maxLocals)) (T87.setTop (mkF m 153 #[.val (.int ax), .val (.int bx), .val (.int cx), .val (.int dx), .val (.int ex), .val (.int fx), .val (.int v2), .val (.int v5), .val (.int r14), .val (.int v21), .val (.int v24), .val (.int v27), .val (.int r33), .val (.int r59), .val (.ref b81), .val (.int (own_im (own_f0 qn))), .unset, .unset] [])) := fun t k => P88 t (by
    show Steps p.tables e below (T87.setTop (mkF m 151 #[.val (.int ax), .val (.int bx), .val (.int cx), .val (.int dx), .val (.int ex), .val (.int fx), .val (.int v2), .val (.int v5), .val (.int r14), .val (.int v21), .val (.int v24), .val (.int v27), .val (.int r33), .val (.int r59), .val (.ref b81), .unset, .unset, .unset] [(.int (own_im (own_f0 qn)))])) _
    refine XS.istore X87.here hx rfl (hb hby at_151) rfl (l' := #[.val (.int ax), .val (.int bx), .val (.int cx), .val (.int dx), .val (.int ex), .val (.int fx), .val (.int v2), .val (.int v5), .val (.int r14), .val (.int v21), .val (.int v24), .val (.int v27), .val (.int r33), .val (.int r59), .val (.ref b81), .val (.int (own_im (own_f0 qn))), .unset, .unset]) rfl ?_
    exact k)
  obtain ⟨v90, hv90⟩ : ∃ z : Int32, z = (own_im (own_f0 qn)) := ⟨_, rfl⟩
  have P91 : Wy p.tables e below (s₁.setTop (entryFrame m #[(.int ax), (.int bx), (.int cx), (.int dx), (.int ex), (.int fx)] maxLocals)) (T87.setTop (mkF m 153 #[.val (.int ax), .val (.int bx), .val (.int cx), .val (.int dx), .val (.int ex), .val (.int fx), .val (.int v2), .val (.int v5), .val (.int r14), .val (.int v21), .val (.int v24), .val (.int v27), .val (.int r33), .val (.int r59), .val (.ref b81), .val (.int v90), .unset, .unset] [])) := fun t k => by subst hv90; exact P89 t k
  have P92 : Wy p.tables e below (s₁.setTop (entryFrame m #[(.int ax), (.int bx), (.int cx), (.int dx), (.int ex), (.int fx)] maxLocals)) (T87.setTop (mkF m 159 #[.val (.int ax), .val (.int bx), .val (.int cx), .val (.int dx), .val (.int ex), .val (.int fx), .val (.int v2), .val (.int v5), .val (.int r14), .val (.int v21), .val (.int v24), .val (.int v27), .val (.int r33), .val (.int r59), .val (.ref b81), .val (.int v90), .unset, .unset] [(.int r14), (.int v5), (.ref b81)])) := fun t k => P91 t (by
    show Steps p.tables e below (T87.setTop (mkF m 153 #[.val (.int ax), .val (.int bx), .val (.int cx), .val (.int dx), .val (.int ex), .val (.int fx), .val (.int v2), .val (.int v5), .val (.int r14), .val (.int v21), .val (.int v24), .val (.int v27), .val (.int r33), .val (.int r59), .val (.ref b81), .val (.int v90), .unset, .unset] [])) _
    refine XS.aload X87.here hx rfl (hb hby at_153) rfl rfl  ?_
    show Steps p.tables e below (T87.setTop (mkF m 155 #[.val (.int ax), .val (.int bx), .val (.int cx), .val (.int dx), .val (.int ex), .val (.int fx), .val (.int v2), .val (.int v5), .val (.int r14), .val (.int v21), .val (.int v24), .val (.int v27), .val (.int r33), .val (.int r59), .val (.ref b81), .val (.int v90), .unset, .unset] [(.ref b81)])) _
    refine XS.iload X87.here hx rfl (hb hby at_155) rfl  ?_
    show Steps p.tables e below (T87.setTop (mkF m 157 #[.val (.int ax), .val (.int bx), .val (.int cx), .val (.int dx), .val (.int ex), .val (.int fx), .val (.int v2), .val (.int v5), .val (.int r14), .val (.int v21), .val (.int v24), .val (.int v27), .val (.int r33), .val (.int r59), .val (.ref b81), .val (.int v90), .unset, .unset] [(.int v5), (.ref b81)])) _
    refine XS.iload X87.here hx rfl (hb hby at_157) rfl  ?_
    exact k)
  obtain ⟨cq93, kq93, q93a, q93b, q93c⟩ := isOf hZ e87 E84q
  obtain ⟨_, _, ⟨T93, L93, k93, n93⟩, -, X93, ⟨Lc93, hQ93, l93, y93, z93⟩, st93⟩ := X87.virtualBack hx (y := (⟨"com/example/eagerpair/eagerpair/graph/Matching", "match", "(II)V"⟩ : MethodName)) (z := (⟨"com/example/eagerpair/eagerpair/graph/Matching", "match", "(II)V"⟩ : MethodName)) hown (mvT hZ (hw _ (List.mem_of_getElem? (i := 22) rfl))) (mvT hZ (hw _ (List.mem_of_getElem? (i := 23) rfl))) (notFace_of_selects (args := #[]) (mvT hZ (hw _ (List.mem_of_getElem? (i := 25) rfl)))) (mvT hZ (hw _ (List.mem_of_getElem? (i := 25) rfl))) (mvT hZ (hw _ (List.mem_of_getElem? (i := 24) rfl))) (by decide) (backOf (W := 0) (rm5 l Z a0 hw [] b81 v5 r14 ad (0 : Int32) nn un vn own_f0 T84.heap n0 z84k E84q F84m F84s I84q g_b81 g_ad ne_ad hux hvx hu hv (own_b hn9) (own_ne hn9 hux hu hvx hv huv) rfl rfl) hZ (hw _ (List.mem_of_getElem? (i := 26) rfl)) (hw _ (List.mem_of_getElem? (i := 3) rfl)) (by decide) (by decide)) q93a q93c (g := (mkF m 159 #[.val (.int ax), .val (.int bx), .val (.int cx), .val (.int dx), .val (.int ex), .val (.int fx), .val (.int v2), .val (.int v5), .val (.int r14), .val (.int v21), .val (.int v24), .val (.int v27), .val (.int r33), .val (.int r59), .val (.ref b81), .val (.int v90), .unset, .unset] [(.int r14), (.int v5), (.ref b81)])) rfl (by rw [hml]; rfl) (Steps.refl _) (argsL := [(.int v5), (.int r14)]) (rest := []) (lenOf pd_lIIrV rfl) rfl (by show 2 * 0 + _ ≤ _; exact Nat.le_of_eq rfl) (hb hby at_159) (fun _ _ => ⟨rfl, e87, (by decide : 2 + 0 ≤ _), (by decide : 11 + 0 ≤ _)⟩)
  dsimp only [Pt.U, Pt.locs, Pt.cells, Pt.slots] at X93 l93 y93 z93 st93 hQ93
  subst l93 y93 z93
  obtain ⟨rfl, N93q, K93q, E93q, F93m, F93s, I93q⟩ := hQ93
  have N93 := Fr.app N87 N93q
  have z93k : n0 ≤ T93.heap.size := Nat.le_trans z84k K93q.1
  have A93_b81 := E84q.keep K93q
  have P94 : Wy p.tables e below (s₁.setTop (entryFrame m #[(.int ax), (.int bx), (.int cx), (.int dx), (.int ex), (.int fx)] maxLocals)) (T93.setTop (mkF m 162 #[.val (.int ax), .val (.int bx), .val (.int cx), .val (.int dx), .val (.int ex), .val (.int fx), .val (.int v2), .val (.int v5), .val (.int r14), .val (.int v21), .val (.int v24), .val (.int v27), .val (.int r33), .val (.int r59), .val (.ref b81), .val (.int v90), .unset, .unset] [])) := fun t k => P92 t (st93.trans k)
  have P95 : Wy p.tables e below (s₁.setTop (entryFrame m #[(.int ax), (.int bx), (.int cx), (.int dx), (.int ex), (.int fx)] maxLocals)) (T93.setTop (mkF m 164 #[.val (.int ax), .val (.int bx), .val (.int cx), .val (.int dx), .val (.int ex), .val (.int fx), .val (.int v2), .val (.int v5), .val (.int r14), .val (.int v21), .val (.int v24), .val (.int v27), .val (.int r33), .val (.int r59), .val (.ref b81), .val (.int v90), .unset, .unset] [(.int r59)])) := fun t k => P94 t (by
    show Steps p.tables e below (T93.setTop (mkF m 162 #[.val (.int ax), .val (.int bx), .val (.int cx), .val (.int dx), .val (.int ex), .val (.int fx), .val (.int v2), .val (.int v5), .val (.int r14), .val (.int v21), .val (.int v24), .val (.int v27), .val (.int r33), .val (.int r59), .val (.ref b81), .val (.int v90), .unset, .unset] [])) _
    refine XS.iload X93.here hx rfl (hb hby at_162) rfl  ?_
    exact k)
  by_cases hc164_96 : r59 = (0 : Int32)
  · have P97 : Wy p.tables e below (s₁.setTop (entryFrame m #[(.int ax), (.int bx), (.int cx), (.int dx), (.int ex), (.int fx)] maxLocals)) (T93.setTop (mkF m 180 #[.val (.int ax), .val (.int bx), .val (.int cx), .val (.int dx), .val (.int ex), .val (.int fx), .val (.int v2), .val (.int v5), .val (.int r14), .val (.int v21), .val (.int v24), .val (.int v27), .val (.int r33), .val (.int r59), .val (.ref b81), .val (.int v90), .unset, .unset] [(.int v21), (.ref b81)])) := fun t k => P95 t (by
      show Steps p.tables e below (T93.setTop (mkF m 164 #[.val (.int ax), .val (.int bx), .val (.int cx), .val (.int dx), .val (.int ex), .val (.int fx), .val (.int v2), .val (.int v5), .val (.int r14), .val (.int v21), .val (.int v24), .val (.int v27), .val (.int r33), .val (.int r59), .val (.ref b81), .val (.int v90), .unset, .unset] [(.int r59)])) _
      refine XS.ifYes X93.here hx rfl (pc0 := 164) (pc' := 176) rfl (hb hby at_164) rfl ((if0 _ _).trans (teq hc164_96).1) (by decide) (by decide) ?_
      show Steps p.tables e below (T93.setTop (mkF m 176 #[.val (.int ax), .val (.int bx), .val (.int cx), .val (.int dx), .val (.int ex), .val (.int fx), .val (.int v2), .val (.int v5), .val (.int r14), .val (.int v21), .val (.int v24), .val (.int v27), .val (.int r33), .val (.int r59), .val (.ref b81), .val (.int v90), .unset, .unset] [])) _
      refine XS.aload X93.here hx rfl (hb hby at_176) rfl rfl  ?_
      show Steps p.tables e below (T93.setTop (mkF m 178 #[.val (.int ax), .val (.int bx), .val (.int cx), .val (.int dx), .val (.int ex), .val (.int fx), .val (.int v2), .val (.int v5), .val (.int r14), .val (.int v21), .val (.int v24), .val (.int v27), .val (.int r33), .val (.int r59), .val (.ref b81), .val (.int v90), .unset, .unset] [(.ref b81)])) _
      refine XS.iload X93.here hx rfl (hb hby at_178) rfl  ?_
      exact k)
    obtain ⟨cq98, kq98, q98a, q98b, q98c⟩ := isOf hZ rfl E93q
    obtain ⟨_, _, ⟨T98, L98, k98, n98⟩, -, X98, ⟨Lc98, hQ98, l98, y98, z98⟩, st98⟩ := X93.virtualBack hx (y := (⟨"com/example/eagerpair/eagerpair/graph/Matching", "isMatched", "(I)Z"⟩ : MethodName)) (z := (⟨"com/example/eagerpair/eagerpair/graph/Matching", "isMatched", "(I)Z"⟩ : MethodName)) hown (mvT hZ (hw _ (List.mem_of_getElem? (i := 17) rfl))) (mvT hZ (hw _ (List.mem_of_getElem? (i := 18) rfl))) (notFace_of_selects (args := #[]) (mvT hZ (hw _ (List.mem_of_getElem? (i := 20) rfl)))) (mvT hZ (hw _ (List.mem_of_getElem? (i := 20) rfl))) (mvT hZ (hw _ (List.mem_of_getElem? (i := 19) rfl))) (by decide) (backOf (W := 0) (rm4 l Z a0 hw [] b81 v21 ad nn qn (own_upd (own_upd own_f0 un r14) vn v5) T93.heap n0 z93k F93m I93q hqx hq (own_b hn9)) hZ (hw _ (List.mem_of_getElem? (i := 21) rfl)) (hw _ (List.mem_of_getElem? (i := 3) rfl)) (by decide) (by decide)) q98a q98c (g := (mkF m 180 #[.val (.int ax), .val (.int bx), .val (.int cx), .val (.int dx), .val (.int ex), .val (.int fx), .val (.int v2), .val (.int v5), .val (.int r14), .val (.int v21), .val (.int v24), .val (.int v27), .val (.int r33), .val (.int r59), .val (.ref b81), .val (.int v90), .unset, .unset] [(.int v21), (.ref b81)])) rfl (by rw [hml]; rfl) (Steps.refl _) (argsL := [(.int v21)]) (rest := []) (lenOf pd_lIrZ rfl) rfl (by show 2 * 0 + _ ≤ _; exact Nat.le_of_eq rfl) (hb hby at_180) (fun _ _ => ⟨rfl, rfl, (by decide : 2 + 0 ≤ _), (by decide : 11 + 0 ≤ _)⟩)
    dsimp only [Pt.U, Pt.locs, Pt.cells, Pt.slots] at X98 l98 y98 z98 st98 hQ98
    subst l98 y98 z98
    obtain ⟨rfl, N98q, e98⟩ := hQ98
    have N98 := Fr.app N93 N98q
    have P99 : Wy p.tables e below (s₁.setTop (entryFrame m #[(.int ax), (.int bx), (.int cx), (.int dx), (.int ex), (.int fx)] maxLocals)) (T98.setTop (mkF m 183 #[.val (.int ax), .val (.int bx), .val (.int cx), .val (.int dx), .val (.int ex), .val (.int fx), .val (.int v2), .val (.int v5), .val (.int r14), .val (.int v21), .val (.int v24), .val (.int v27), .val (.int r33), .val (.int r59), .val (.ref b81), .val (.int v90), .unset, .unset] [(.int (own_im ((own_upd (own_upd own_f0 un r14) vn v5) qn)))])) := fun t k => P97 t (st98.trans k)
    have P100 : Wy p.tables e below (s₁.setTop (entryFrame m #[(.int ax), (.int bx), (.int cx), (.int dx), (.int ex), (.int fx)] maxLocals)) (T98.setTop (mkF m 185 #[.val (.int ax), .val (.int bx), .val (.int cx), .val (.int dx), .val (.int ex), .val (.int fx), .val (.int v2), .val (.int v5), .val (.int r14), .val (.int v21), .val (.int v24), .val (.int v27), .val (.int r33), .val (.int r59), .val (.ref b81), .val (.int v90), .val (.int (own_im ((own_upd (own_upd own_f0 un r14) vn v5) qn))), .unset] [])) := fun t k => P99 t (by
      show Steps p.tables e below (T98.setTop (mkF m 183 #[.val (.int ax), .val (.int bx), .val (.int cx), .val (.int dx), .val (.int ex), .val (.int fx), .val (.int v2), .val (.int v5), .val (.int r14), .val (.int v21), .val (.int v24), .val (.int v27), .val (.int r33), .val (.int r59), .val (.ref b81), .val (.int v90), .unset, .unset] [(.int (own_im ((own_upd (own_upd own_f0 un r14) vn v5) qn)))])) _
      refine XS.istore X98.here hx rfl (hb hby at_183) rfl (l' := #[.val (.int ax), .val (.int bx), .val (.int cx), .val (.int dx), .val (.int ex), .val (.int fx), .val (.int v2), .val (.int v5), .val (.int r14), .val (.int v21), .val (.int v24), .val (.int v27), .val (.int r33), .val (.int r59), .val (.ref b81), .val (.int v90), .val (.int (own_im ((own_upd (own_upd own_f0 un r14) vn v5) qn))), .unset]) rfl ?_
      exact k)
    obtain ⟨v101, hv101⟩ : ∃ z : Int32, z = (own_im ((own_upd (own_upd own_f0 un r14) vn v5) qn)) := ⟨_, rfl⟩
    have P102 : Wy p.tables e below (s₁.setTop (entryFrame m #[(.int ax), (.int bx), (.int cx), (.int dx), (.int ex), (.int fx)] maxLocals)) (T98.setTop (mkF m 185 #[.val (.int ax), .val (.int bx), .val (.int cx), .val (.int dx), .val (.int ex), .val (.int fx), .val (.int v2), .val (.int v5), .val (.int r14), .val (.int v21), .val (.int v24), .val (.int v27), .val (.int r33), .val (.int r59), .val (.ref b81), .val (.int v90), .val (.int v101), .unset] [])) := fun t k => by subst hv101; exact P100 t k
    obtain ⟨r110, hr110, P111⟩ : ∃ r110 : Int32, r110 = (if v21 = v5 then (1 : Int32) else (if v21 = r14 then (1 : Int32) else (0 : Int32))) ∧ Wy p.tables e below (s₁.setTop (entryFrame m #[(.int ax), (.int bx), (.int cx), (.int dx), (.int ex), (.int fx)] maxLocals)) (T98.setTop (mkF m 223 #[.val (.int ax), .val (.int bx), .val (.int cx), .val (.int dx), .val (.int ex), .val (.int fx), .val (.int v2), .val (.int v5), .val (.int r14), .val (.int v21), .val (.int v24), .val (.int v27), .val (.int r33), .val (.int r59), .val (.ref b81), .val (.int v90), .val (.int v101), .unset] [(.int r110)])) := by
      have P112 : Wy p.tables e below (s₁.setTop (entryFrame m #[(.int ax), (.int bx), (.int cx), (.int dx), (.int ex), (.int fx)] maxLocals)) (T98.setTop (mkF m 189 #[.val (.int ax), .val (.int bx), .val (.int cx), .val (.int dx), .val (.int ex), .val (.int fx), .val (.int v2), .val (.int v5), .val (.int r14), .val (.int v21), .val (.int v24), .val (.int v27), .val (.int r33), .val (.int r59), .val (.ref b81), .val (.int v90), .val (.int v101), .unset] [(.int v5), (.int v21)])) := fun t k => P102 t (by
        show Steps p.tables e below (T98.setTop (mkF m 185 #[.val (.int ax), .val (.int bx), .val (.int cx), .val (.int dx), .val (.int ex), .val (.int fx), .val (.int v2), .val (.int v5), .val (.int r14), .val (.int v21), .val (.int v24), .val (.int v27), .val (.int r33), .val (.int r59), .val (.ref b81), .val (.int v90), .val (.int v101), .unset] [])) _
        refine XS.iload X98.here hx rfl (hb hby at_185) rfl  ?_
        show Steps p.tables e below (T98.setTop (mkF m 187 #[.val (.int ax), .val (.int bx), .val (.int cx), .val (.int dx), .val (.int ex), .val (.int fx), .val (.int v2), .val (.int v5), .val (.int r14), .val (.int v21), .val (.int v24), .val (.int v27), .val (.int r33), .val (.int r59), .val (.ref b81), .val (.int v90), .val (.int v101), .unset] [(.int v21)])) _
        refine XS.iload X98.here hx rfl (hb hby at_187) rfl  ?_
        exact k)
      by_cases hc189_113 : v21 = v5
      · have P114 : Wy p.tables e below (s₁.setTop (entryFrame m #[(.int ax), (.int bx), (.int cx), (.int dx), (.int ex), (.int fx)] maxLocals)) (T98.setTop (mkF m 223 #[.val (.int ax), .val (.int bx), .val (.int cx), .val (.int dx), .val (.int ex), .val (.int fx), .val (.int v2), .val (.int v5), .val (.int r14), .val (.int v21), .val (.int v24), .val (.int v27), .val (.int r33), .val (.int r59), .val (.ref b81), .val (.int v90), .val (.int v101), .unset] [(.int (1 : Int32))])) := fun t k => P112 t (by
          show Steps p.tables e below (T98.setTop (mkF m 189 #[.val (.int ax), .val (.int bx), .val (.int cx), .val (.int dx), .val (.int ex), .val (.int fx), .val (.int v2), .val (.int v5), .val (.int r14), .val (.int v21), .val (.int v24), .val (.int v27), .val (.int r33), .val (.int r59), .val (.ref b81), .val (.int v90), .val (.int v101), .unset] [(.int v5), (.int v21)])) _
          refine XS.icmpYes X98.here hx rfl (pc0 := 189) (pc' := 218) rfl (hb hby at_189) rfl (teq hc189_113).1 (by decide) (by decide) ?_
          show Steps p.tables e below (T98.setTop (mkF m 218 #[.val (.int ax), .val (.int bx), .val (.int cx), .val (.int dx), .val (.int ex), .val (.int fx), .val (.int v2), .val (.int v5), .val (.int r14), .val (.int v21), .val (.int v24), .val (.int v27), .val (.int r33), .val (.int r59), .val (.ref b81), .val (.int v90), .val (.int v101), .unset] [])) _
          refine XS.iconst X98.here hx rfl (hb hby at_218) ?_
          show Steps p.tables e below (T98.setTop (mkF m 219 #[.val (.int ax), .val (.int bx), .val (.int cx), .val (.int dx), .val (.int ex), .val (.int fx), .val (.int v2), .val (.int v5), .val (.int r14), .val (.int v21), .val (.int v24), .val (.int v27), .val (.int r33), .val (.int r59), .val (.ref b81), .val (.int v90), .val (.int v101), .unset] [(.int (1 : Int32))])) _
          refine XS.goto X98.here hx rfl (pc0 := 219) (pc' := 223) rfl (hb hby at_219) (by decide) (by decide) ?_
          exact k)
        exact ⟨(1 : Int32), (by simp only [if_pos hc189_113]), P114⟩
      · have P115 : Wy p.tables e below (s₁.setTop (entryFrame m #[(.int ax), (.int bx), (.int cx), (.int dx), (.int ex), (.int fx)] maxLocals)) (T98.setTop (mkF m 196 #[.val (.int ax), .val (.int bx), .val (.int cx), .val (.int dx), .val (.int ex), .val (.int fx), .val (.int v2), .val (.int v5), .val (.int r14), .val (.int v21), .val (.int v24), .val (.int v27), .val (.int r33), .val (.int r59), .val (.ref b81), .val (.int v90), .val (.int v101), .unset] [(.int r14), (.int v21)])) := fun t k => P112 t (by
          show Steps p.tables e below (T98.setTop (mkF m 189 #[.val (.int ax), .val (.int bx), .val (.int cx), .val (.int dx), .val (.int ex), .val (.int fx), .val (.int v2), .val (.int v5), .val (.int r14), .val (.int v21), .val (.int v24), .val (.int v27), .val (.int r33), .val (.int r59), .val (.ref b81), .val (.int v90), .val (.int v101), .unset] [(.int v5), (.int v21)])) _
          refine XS.icmpNo X98.here hx rfl (hb hby at_189) rfl (feq hc189_113).1 ?_
          show Steps p.tables e below (T98.setTop (mkF m 192 #[.val (.int ax), .val (.int bx), .val (.int cx), .val (.int dx), .val (.int ex), .val (.int fx), .val (.int v2), .val (.int v5), .val (.int r14), .val (.int v21), .val (.int v24), .val (.int v27), .val (.int r33), .val (.int r59), .val (.ref b81), .val (.int v90), .val (.int v101), .unset] [])) _
          refine XS.iload X98.here hx rfl (hb hby at_192) rfl  ?_
          show Steps p.tables e below (T98.setTop (mkF m 194 #[.val (.int ax), .val (.int bx), .val (.int cx), .val (.int dx), .val (.int ex), .val (.int fx), .val (.int v2), .val (.int v5), .val (.int r14), .val (.int v21), .val (.int v24), .val (.int v27), .val (.int r33), .val (.int r59), .val (.ref b81), .val (.int v90), .val (.int v101), .unset] [(.int v21)])) _
          refine XS.iload X98.here hx rfl (hb hby at_194) rfl  ?_
          exact k)
        by_cases hc196_116 : v21 = r14
        · have P117 : Wy p.tables e below (s₁.setTop (entryFrame m #[(.int ax), (.int bx), (.int cx), (.int dx), (.int ex), (.int fx)] maxLocals)) (T98.setTop (mkF m 223 #[.val (.int ax), .val (.int bx), .val (.int cx), .val (.int dx), .val (.int ex), .val (.int fx), .val (.int v2), .val (.int v5), .val (.int r14), .val (.int v21), .val (.int v24), .val (.int v27), .val (.int r33), .val (.int r59), .val (.ref b81), .val (.int v90), .val (.int v101), .unset] [(.int (1 : Int32))])) := fun t k => P115 t (by
            show Steps p.tables e below (T98.setTop (mkF m 196 #[.val (.int ax), .val (.int bx), .val (.int cx), .val (.int dx), .val (.int ex), .val (.int fx), .val (.int v2), .val (.int v5), .val (.int r14), .val (.int v21), .val (.int v24), .val (.int v27), .val (.int r33), .val (.int r59), .val (.ref b81), .val (.int v90), .val (.int v101), .unset] [(.int r14), (.int v21)])) _
            refine XS.icmpYes X98.here hx rfl (pc0 := 196) (pc' := 218) rfl (hb hby at_196) rfl (teq hc196_116).1 (by decide) (by decide) ?_
            show Steps p.tables e below (T98.setTop (mkF m 218 #[.val (.int ax), .val (.int bx), .val (.int cx), .val (.int dx), .val (.int ex), .val (.int fx), .val (.int v2), .val (.int v5), .val (.int r14), .val (.int v21), .val (.int v24), .val (.int v27), .val (.int r33), .val (.int r59), .val (.ref b81), .val (.int v90), .val (.int v101), .unset] [])) _
            refine XS.iconst X98.here hx rfl (hb hby at_218) ?_
            show Steps p.tables e below (T98.setTop (mkF m 219 #[.val (.int ax), .val (.int bx), .val (.int cx), .val (.int dx), .val (.int ex), .val (.int fx), .val (.int v2), .val (.int v5), .val (.int r14), .val (.int v21), .val (.int v24), .val (.int v27), .val (.int r33), .val (.int r59), .val (.ref b81), .val (.int v90), .val (.int v101), .unset] [(.int (1 : Int32))])) _
            refine XS.goto X98.here hx rfl (pc0 := 219) (pc' := 223) rfl (hb hby at_219) (by decide) (by decide) ?_
            exact k)
          exact ⟨(1 : Int32), (by simp only [if_neg hc189_113, if_pos hc196_116]), P117⟩
        · have P118 : Wy p.tables e below (s₁.setTop (entryFrame m #[(.int ax), (.int bx), (.int cx), (.int dx), (.int ex), (.int fx)] maxLocals)) (T98.setTop (mkF m 223 #[.val (.int ax), .val (.int bx), .val (.int cx), .val (.int dx), .val (.int ex), .val (.int fx), .val (.int v2), .val (.int v5), .val (.int r14), .val (.int v21), .val (.int v24), .val (.int v27), .val (.int r33), .val (.int r59), .val (.ref b81), .val (.int v90), .val (.int v101), .unset] [(.int (0 : Int32))])) := fun t k => P115 t (by
            show Steps p.tables e below (T98.setTop (mkF m 196 #[.val (.int ax), .val (.int bx), .val (.int cx), .val (.int dx), .val (.int ex), .val (.int fx), .val (.int v2), .val (.int v5), .val (.int r14), .val (.int v21), .val (.int v24), .val (.int v27), .val (.int r33), .val (.int r59), .val (.ref b81), .val (.int v90), .val (.int v101), .unset] [(.int r14), (.int v21)])) _
            refine XS.icmpNo X98.here hx rfl (hb hby at_196) rfl (feq hc196_116).1 ?_
            show Steps p.tables e below (T98.setTop (mkF m 199 #[.val (.int ax), .val (.int bx), .val (.int cx), .val (.int dx), .val (.int ex), .val (.int fx), .val (.int v2), .val (.int v5), .val (.int r14), .val (.int v21), .val (.int v24), .val (.int v27), .val (.int r33), .val (.int r59), .val (.ref b81), .val (.int v90), .val (.int v101), .unset] [])) _
            refine XS.iload X98.here hx rfl (hb hby at_199) rfl  ?_
            show Steps p.tables e below (T98.setTop (mkF m 201 #[.val (.int ax), .val (.int bx), .val (.int cx), .val (.int dx), .val (.int ex), .val (.int fx), .val (.int v2), .val (.int v5), .val (.int r14), .val (.int v21), .val (.int v24), .val (.int v27), .val (.int r33), .val (.int r59), .val (.ref b81), .val (.int v90), .val (.int v101), .unset] [(.int r59)])) _
            refine XS.ifYes X98.here hx rfl (pc0 := 201) (pc' := 222) rfl (hb hby at_201) rfl ((if0 _ _).trans (teq hc164_96).1) (by decide) (by decide) ?_
            show Steps p.tables e below (T98.setTop (mkF m 222 #[.val (.int ax), .val (.int bx), .val (.int cx), .val (.int dx), .val (.int ex), .val (.int fx), .val (.int v2), .val (.int v5), .val (.int r14), .val (.int v21), .val (.int v24), .val (.int v27), .val (.int r33), .val (.int r59), .val (.ref b81), .val (.int v90), .val (.int v101), .unset] [])) _
            refine XS.iconst X98.here hx rfl (hb hby at_222) ?_
            exact k)
          exact ⟨(0 : Int32), (by simp only [if_neg hc189_113, if_neg hc196_116]), P118⟩
    have P119 : Wy p.tables e below (s₁.setTop (entryFrame m #[(.int ax), (.int bx), (.int cx), (.int dx), (.int ex), (.int fx)] maxLocals)) (T98.setTop (mkF m 242 #[.val (.int ax), .val (.int bx), .val (.int cx), .val (.int dx), .val (.int ex), .val (.int fx), .val (.int v2), .val (.int v5), .val (.int r14), .val (.int v21), .val (.int v24), .val (.int v27), .val (.int r33), .val (.int r59), .val (.ref b81), .val (.int v90), .val (.int v101), .val (.int r110)] [(.int (1 : Int32))])) := fun t k => P111 t (by
      show Steps p.tables e below (T98.setTop (mkF m 223 #[.val (.int ax), .val (.int bx), .val (.int cx), .val (.int dx), .val (.int ex), .val (.int fx), .val (.int v2), .val (.int v5), .val (.int r14), .val (.int v21), .val (.int v24), .val (.int v27), .val (.int r33), .val (.int r59), .val (.ref b81), .val (.int v90), .val (.int v101), .unset] [(.int r110)])) _
      refine XS.istore X98.here hx rfl (hb hby at_223) rfl (l' := #[.val (.int ax), .val (.int bx), .val (.int cx), .val (.int dx), .val (.int ex), .val (.int fx), .val (.int v2), .val (.int v5), .val (.int r14), .val (.int v21), .val (.int v24), .val (.int v27), .val (.int r33), .val (.int r59), .val (.ref b81), .val (.int v90), .val (.int v101), .val (.int r110)]) rfl ?_
      show Steps p.tables e below (T98.setTop (mkF m 225 #[.val (.int ax), .val (.int bx), .val (.int cx), .val (.int dx), .val (.int ex), .val (.int fx), .val (.int v2), .val (.int v5), .val (.int r14), .val (.int v21), .val (.int v24), .val (.int v27), .val (.int r33), .val (.int r59), .val (.ref b81), .val (.int v90), .val (.int v101), .val (.int r110)] [])) _
      refine XS.iload X98.here hx rfl (hb hby at_225) rfl  ?_
      show Steps p.tables e below (T98.setTop (mkF m 227 #[.val (.int ax), .val (.int bx), .val (.int cx), .val (.int dx), .val (.int ex), .val (.int fx), .val (.int v2), .val (.int v5), .val (.int r14), .val (.int v21), .val (.int v24), .val (.int v27), .val (.int r33), .val (.int r59), .val (.ref b81), .val (.int v90), .val (.int v101), .val (.int r110)] [(.int v90)])) _
      refine XS.ifNo X98.here hx rfl (hb hby at_227) rfl ((if0 _ _).trans (teq (by rw [hv90]; rfl : v90 = (0 : Int32))).2) ?_
      show Steps p.tables e below (T98.setTop (mkF m 230 #[.val (.int ax), .val (.int bx), .val (.int cx), .val (.int dx), .val (.int ex), .val (.int fx), .val (.int v2), .val (.int v5), .val (.int r14), .val (.int v21), .val (.int v24), .val (.int v27), .val (.int r33), .val (.int r59), .val (.ref b81), .val (.int v90), .val (.int v101), .val (.int r110)] [])) _
      refine XS.iload X98.here hx rfl (hb hby at_230) rfl  ?_
      show Steps p.tables e below (T98.setTop (mkF m 232 #[.val (.int ax), .val (.int bx), .val (.int cx), .val (.int dx), .val (.int ex), .val (.int fx), .val (.int v2), .val (.int v5), .val (.int r14), .val (.int v21), .val (.int v24), .val (.int v27), .val (.int r33), .val (.int r59), .val (.ref b81), .val (.int v90), .val (.int v101), .val (.int r110)] [(.int v101)])) _
      refine XS.iload X98.here hx rfl (hb hby at_232) rfl  ?_
      show Steps p.tables e below (T98.setTop (mkF m 234 #[.val (.int ax), .val (.int bx), .val (.int cx), .val (.int dx), .val (.int ex), .val (.int fx), .val (.int v2), .val (.int v5), .val (.int r14), .val (.int v21), .val (.int v24), .val (.int v27), .val (.int r33), .val (.int r59), .val (.ref b81), .val (.int v90), .val (.int v101), .val (.int r110)] [(.int r110), (.int v101)])) _
      refine XS.icmpNo X98.here hx rfl (hb hby at_234) rfl (teq (own_fin1 hn9 hux hu hvx hv hqx hq hv101 hr110 : v101 = r110)).2 ?_
      show Steps p.tables e below (T98.setTop (mkF m 237 #[.val (.int ax), .val (.int bx), .val (.int cx), .val (.int dx), .val (.int ex), .val (.int fx), .val (.int v2), .val (.int v5), .val (.int r14), .val (.int v21), .val (.int v24), .val (.int v27), .val (.int r33), .val (.int r59), .val (.ref b81), .val (.int v90), .val (.int v101), .val (.int r110)] [])) _
      refine XS.iconst X98.here hx rfl (hb hby at_237) ?_
      show Steps p.tables e below (T98.setTop (mkF m 238 #[.val (.int ax), .val (.int bx), .val (.int cx), .val (.int dx), .val (.int ex), .val (.int fx), .val (.int v2), .val (.int v5), .val (.int r14), .val (.int v21), .val (.int v24), .val (.int v27), .val (.int r33), .val (.int r59), .val (.ref b81), .val (.int v90), .val (.int v101), .val (.int r110)] [(.int (1 : Int32))])) _
      refine XS.goto X98.here hx rfl (pc0 := 238) (pc' := 242) rfl (hb hby at_238) (by decide) (by decide) ?_
      exact k)
    obtain ⟨fs, hr, hrun, hended, hW, hsame⟩ := X98.leave (v := some (.int (nar .boolean (1 : Int32)))) (fun h => by rw [Bd.returns] at h; cases h)
    refine ⟨_, _, P119 _ ?_, hrun, hended, _, _, rfl, ?_, ⟨_, rfl⟩, hW, hsame.mono (by decide) (by decide)⟩
    · show Steps p.tables e below (T98.setTop (mkF m 242 #[.val (.int ax), .val (.int bx), .val (.int cx), .val (.int dx), .val (.int ex), .val (.int fx), .val (.int v2), .val (.int v5), .val (.int r14), .val (.int v21), .val (.int v24), .val (.int v27), .val (.int r33), .val (.int r59), .val (.ref b81), .val (.int v90), .val (.int v101), .val (.int r110)] [(.int (1 : Int32))])) _
      exact retN X98 hx (t := .boolean) Bd.returns (by simp) (hb hby at_242) hr
    · show Q0 Z ax bx cx dx ex fx h0 n0 _ T98.heap _
      rw [e98]
      exact ⟨rfl, N98⟩
  · have P120 : Wy p.tables e below (s₁.setTop (entryFrame m #[(.int ax), (.int bx), (.int cx), (.int dx), (.int ex), (.int fx)] maxLocals)) (T93.setTop (mkF m 173 #[.val (.int ax), .val (.int bx), .val (.int cx), .val (.int dx), .val (.int ex), .val (.int fx), .val (.int v2), .val (.int v5), .val (.int r14), .val (.int v21), .val (.int v24), .val (.int v27), .val (.int r33), .val (.int r59), .val (.ref b81), .val (.int v90), .unset, .unset] [(.int v27), (.int v24), (.ref b81)])) := fun t k => P95 t (by
      show Steps p.tables e below (T93.setTop (mkF m 164 #[.val (.int ax), .val (.int bx), .val (.int cx), .val (.int dx), .val (.int ex), .val (.int fx), .val (.int v2), .val (.int v5), .val (.int r14), .val (.int v21), .val (.int v24), .val (.int v27), .val (.int r33), .val (.int r59), .val (.ref b81), .val (.int v90), .unset, .unset] [(.int r59)])) _
      refine XS.ifNo X93.here hx rfl (hb hby at_164) rfl ((if0 _ _).trans (feq hc164_96).1) ?_
      show Steps p.tables e below (T93.setTop (mkF m 167 #[.val (.int ax), .val (.int bx), .val (.int cx), .val (.int dx), .val (.int ex), .val (.int fx), .val (.int v2), .val (.int v5), .val (.int r14), .val (.int v21), .val (.int v24), .val (.int v27), .val (.int r33), .val (.int r59), .val (.ref b81), .val (.int v90), .unset, .unset] [])) _
      refine XS.aload X93.here hx rfl (hb hby at_167) rfl rfl  ?_
      show Steps p.tables e below (T93.setTop (mkF m 169 #[.val (.int ax), .val (.int bx), .val (.int cx), .val (.int dx), .val (.int ex), .val (.int fx), .val (.int v2), .val (.int v5), .val (.int r14), .val (.int v21), .val (.int v24), .val (.int v27), .val (.int r33), .val (.int r59), .val (.ref b81), .val (.int v90), .unset, .unset] [(.ref b81)])) _
      refine XS.iload X93.here hx rfl (hb hby at_169) rfl  ?_
      show Steps p.tables e below (T93.setTop (mkF m 171 #[.val (.int ax), .val (.int bx), .val (.int cx), .val (.int dx), .val (.int ex), .val (.int fx), .val (.int v2), .val (.int v5), .val (.int r14), .val (.int v21), .val (.int v24), .val (.int v27), .val (.int r33), .val (.int r59), .val (.ref b81), .val (.int v90), .unset, .unset] [(.int v24), (.ref b81)])) _
      refine XS.iload X93.here hx rfl (hb hby at_171) rfl  ?_
      exact k)
    obtain ⟨cq121, kq121, q121a, q121b, q121c⟩ := isOf hZ rfl E93q
    obtain ⟨_, _, ⟨T121, L121, k121, n121⟩, -, X121, ⟨Lc121, hQ121, l121, y121, z121⟩, st121⟩ := X93.virtualBack hx (y := (⟨"com/example/eagerpair/eagerpair/graph/Matching", "match", "(II)V"⟩ : MethodName)) (z := (⟨"com/example/eagerpair/eagerpair/graph/Matching", "match", "(II)V"⟩ : MethodName)) hown (mvT hZ (hw _ (List.mem_of_getElem? (i := 22) rfl))) (mvT hZ (hw _ (List.mem_of_getElem? (i := 23) rfl))) (notFace_of_selects (args := #[]) (mvT hZ (hw _ (List.mem_of_getElem? (i := 25) rfl)))) (mvT hZ (hw _ (List.mem_of_getElem? (i := 25) rfl))) (mvT hZ (hw _ (List.mem_of_getElem? (i := 24) rfl))) (by decide) (backOf (W := 0) (rm5 l Z a0 hw [] b81 v24 v27 ad ((0 : Int32) + (1 : Int32)) nn xn yn (own_upd (own_upd own_f0 un r14) vn v5) T93.heap n0 z93k E93q F93m F93s I93q g_b81 g_ad ne_ad hxx hyx hx1 hy1 (own_b hn9) (own_s1 hr59 hc164_96) (own_s2 hn9 hux hu hvx hv hxx hx1 hr59 hc164_96) (own_s3 hn9 hux hu hvx hv hyx hy1 hr59 hc164_96)) hZ (hw _ (List.mem_of_getElem? (i := 26) rfl)) (hw _ (List.mem_of_getElem? (i := 3) rfl)) (by decide) (by decide)) q121a q121c (g := (mkF m 173 #[.val (.int ax), .val (.int bx), .val (.int cx), .val (.int dx), .val (.int ex), .val (.int fx), .val (.int v2), .val (.int v5), .val (.int r14), .val (.int v21), .val (.int v24), .val (.int v27), .val (.int r33), .val (.int r59), .val (.ref b81), .val (.int v90), .unset, .unset] [(.int v27), (.int v24), (.ref b81)])) rfl (by rw [hml]; rfl) (Steps.refl _) (argsL := [(.int v24), (.int v27)]) (rest := []) (lenOf pd_lIIrV rfl) rfl (by show 2 * 0 + _ ≤ _; exact Nat.le_of_eq rfl) (hb hby at_173) (fun _ _ => ⟨rfl, rfl, (by decide : 2 + 0 ≤ _), (by decide : 11 + 0 ≤ _)⟩)
    dsimp only [Pt.U, Pt.locs, Pt.cells, Pt.slots] at X121 l121 y121 z121 st121 hQ121
    subst l121 y121 z121
    obtain ⟨rfl, N121q, K121q, E121q, F121m, F121s, I121q⟩ := hQ121
    have N121 := Fr.app N93 N121q
    have z121k : n0 ≤ T121.heap.size := Nat.le_trans z93k K121q.1
    have A121_b81 := E93q.keep K121q
    have P122 : Wy p.tables e below (s₁.setTop (entryFrame m #[(.int ax), (.int bx), (.int cx), (.int dx), (.int ex), (.int fx)] maxLocals)) (T121.setTop (mkF m 176 #[.val (.int ax), .val (.int bx), .val (.int cx), .val (.int dx), .val (.int ex), .val (.int fx), .val (.int v2), .val (.int v5), .val (.int r14), .val (.int v21), .val (.int v24), .val (.int v27), .val (.int r33), .val (.int r59), .val (.ref b81), .val (.int v90), .unset, .unset] [])) := fun t k => P120 t (st121.trans k)
    have P123 : Wy p.tables e below (s₁.setTop (entryFrame m #[(.int ax), (.int bx), (.int cx), (.int dx), (.int ex), (.int fx)] maxLocals)) (T121.setTop (mkF m 180 #[.val (.int ax), .val (.int bx), .val (.int cx), .val (.int dx), .val (.int ex), .val (.int fx), .val (.int v2), .val (.int v5), .val (.int r14), .val (.int v21), .val (.int v24), .val (.int v27), .val (.int r33), .val (.int r59), .val (.ref b81), .val (.int v90), .unset, .unset] [(.int v21), (.ref b81)])) := fun t k => P122 t (by
      show Steps p.tables e below (T121.setTop (mkF m 176 #[.val (.int ax), .val (.int bx), .val (.int cx), .val (.int dx), .val (.int ex), .val (.int fx), .val (.int v2), .val (.int v5), .val (.int r14), .val (.int v21), .val (.int v24), .val (.int v27), .val (.int r33), .val (.int r59), .val (.ref b81), .val (.int v90), .unset, .unset] [])) _
      refine XS.aload X121.here hx rfl (hb hby at_176) rfl rfl  ?_
      show Steps p.tables e below (T121.setTop (mkF m 178 #[.val (.int ax), .val (.int bx), .val (.int cx), .val (.int dx), .val (.int ex), .val (.int fx), .val (.int v2), .val (.int v5), .val (.int r14), .val (.int v21), .val (.int v24), .val (.int v27), .val (.int r33), .val (.int r59), .val (.ref b81), .val (.int v90), .unset, .unset] [(.ref b81)])) _
      refine XS.iload X121.here hx rfl (hb hby at_178) rfl  ?_
      exact k)
    obtain ⟨cq124, kq124, q124a, q124b, q124c⟩ := isOf hZ rfl E121q
    obtain ⟨_, _, ⟨T124, L124, k124, n124⟩, -, X124, ⟨Lc124, hQ124, l124, y124, z124⟩, st124⟩ := X121.virtualBack hx (y := (⟨"com/example/eagerpair/eagerpair/graph/Matching", "isMatched", "(I)Z"⟩ : MethodName)) (z := (⟨"com/example/eagerpair/eagerpair/graph/Matching", "isMatched", "(I)Z"⟩ : MethodName)) hown (mvT hZ (hw _ (List.mem_of_getElem? (i := 17) rfl))) (mvT hZ (hw _ (List.mem_of_getElem? (i := 18) rfl))) (notFace_of_selects (args := #[]) (mvT hZ (hw _ (List.mem_of_getElem? (i := 20) rfl)))) (mvT hZ (hw _ (List.mem_of_getElem? (i := 20) rfl))) (mvT hZ (hw _ (List.mem_of_getElem? (i := 19) rfl))) (by decide) (backOf (W := 0) (rm4 l Z a0 hw [] b81 v21 ad nn qn (own_upd (own_upd (own_upd (own_upd own_f0 un r14) vn v5) xn v27) yn v24) T121.heap n0 z121k F121m I121q hqx hq (own_b hn9)) hZ (hw _ (List.mem_of_getElem? (i := 21) rfl)) (hw _ (List.mem_of_getElem? (i := 3) rfl)) (by decide) (by decide)) q124a q124c (g := (mkF m 180 #[.val (.int ax), .val (.int bx), .val (.int cx), .val (.int dx), .val (.int ex), .val (.int fx), .val (.int v2), .val (.int v5), .val (.int r14), .val (.int v21), .val (.int v24), .val (.int v27), .val (.int r33), .val (.int r59), .val (.ref b81), .val (.int v90), .unset, .unset] [(.int v21), (.ref b81)])) rfl (by rw [hml]; rfl) (Steps.refl _) (argsL := [(.int v21)]) (rest := []) (lenOf pd_lIrZ rfl) rfl (by show 2 * 0 + _ ≤ _; exact Nat.le_of_eq rfl) (hb hby at_180) (fun _ _ => ⟨rfl, rfl, (by decide : 2 + 0 ≤ _), (by decide : 11 + 0 ≤ _)⟩)
    dsimp only [Pt.U, Pt.locs, Pt.cells, Pt.slots] at X124 l124 y124 z124 st124 hQ124
    subst l124 y124 z124
    obtain ⟨rfl, N124q, e124⟩ := hQ124
    have N124 := Fr.app N121 N124q
    have P125 : Wy p.tables e below (s₁.setTop (entryFrame m #[(.int ax), (.int bx), (.int cx), (.int dx), (.int ex), (.int fx)] maxLocals)) (T124.setTop (mkF m 183 #[.val (.int ax), .val (.int bx), .val (.int cx), .val (.int dx), .val (.int ex), .val (.int fx), .val (.int v2), .val (.int v5), .val (.int r14), .val (.int v21), .val (.int v24), .val (.int v27), .val (.int r33), .val (.int r59), .val (.ref b81), .val (.int v90), .unset, .unset] [(.int (own_im ((own_upd (own_upd (own_upd (own_upd own_f0 un r14) vn v5) xn v27) yn v24) qn)))])) := fun t k => P123 t (st124.trans k)
    have P126 : Wy p.tables e below (s₁.setTop (entryFrame m #[(.int ax), (.int bx), (.int cx), (.int dx), (.int ex), (.int fx)] maxLocals)) (T124.setTop (mkF m 185 #[.val (.int ax), .val (.int bx), .val (.int cx), .val (.int dx), .val (.int ex), .val (.int fx), .val (.int v2), .val (.int v5), .val (.int r14), .val (.int v21), .val (.int v24), .val (.int v27), .val (.int r33), .val (.int r59), .val (.ref b81), .val (.int v90), .val (.int (own_im ((own_upd (own_upd (own_upd (own_upd own_f0 un r14) vn v5) xn v27) yn v24) qn))), .unset] [])) := fun t k => P125 t (by
      show Steps p.tables e below (T124.setTop (mkF m 183 #[.val (.int ax), .val (.int bx), .val (.int cx), .val (.int dx), .val (.int ex), .val (.int fx), .val (.int v2), .val (.int v5), .val (.int r14), .val (.int v21), .val (.int v24), .val (.int v27), .val (.int r33), .val (.int r59), .val (.ref b81), .val (.int v90), .unset, .unset] [(.int (own_im ((own_upd (own_upd (own_upd (own_upd own_f0 un r14) vn v5) xn v27) yn v24) qn)))])) _
      refine XS.istore X124.here hx rfl (hb hby at_183) rfl (l' := #[.val (.int ax), .val (.int bx), .val (.int cx), .val (.int dx), .val (.int ex), .val (.int fx), .val (.int v2), .val (.int v5), .val (.int r14), .val (.int v21), .val (.int v24), .val (.int v27), .val (.int r33), .val (.int r59), .val (.ref b81), .val (.int v90), .val (.int (own_im ((own_upd (own_upd (own_upd (own_upd own_f0 un r14) vn v5) xn v27) yn v24) qn))), .unset]) rfl ?_
      exact k)
    obtain ⟨v127, hv127⟩ : ∃ z : Int32, z = (own_im ((own_upd (own_upd (own_upd (own_upd own_f0 un r14) vn v5) xn v27) yn v24) qn)) := ⟨_, rfl⟩
    have P128 : Wy p.tables e below (s₁.setTop (entryFrame m #[(.int ax), (.int bx), (.int cx), (.int dx), (.int ex), (.int fx)] maxLocals)) (T124.setTop (mkF m 185 #[.val (.int ax), .val (.int bx), .val (.int cx), .val (.int dx), .val (.int ex), .val (.int fx), .val (.int v2), .val (.int v5), .val (.int r14), .val (.int v21), .val (.int v24), .val (.int v27), .val (.int r33), .val (.int r59), .val (.ref b81), .val (.int v90), .val (.int v127), .unset] [])) := fun t k => by subst hv127; exact P126 t k
    obtain ⟨r142, hr142, P143⟩ : ∃ r142 : Int32, r142 = (if v21 = v5 then (1 : Int32) else (if v21 = r14 then (1 : Int32) else (if v21 = v24 then (1 : Int32) else (if v21 = v27 then (1 : Int32) else (0 : Int32))))) ∧ Wy p.tables e below (s₁.setTop (entryFrame m #[(.int ax), (.int bx), (.int cx), (.int dx), (.int ex), (.int fx)] maxLocals)) (T124.setTop (mkF m 223 #[.val (.int ax), .val (.int bx), .val (.int cx), .val (.int dx), .val (.int ex), .val (.int fx), .val (.int v2), .val (.int v5), .val (.int r14), .val (.int v21), .val (.int v24), .val (.int v27), .val (.int r33), .val (.int r59), .val (.ref b81), .val (.int v90), .val (.int v127), .unset] [(.int r142)])) := by
      have P144 : Wy p.tables e below (s₁.setTop (entryFrame m #[(.int ax), (.int bx), (.int cx), (.int dx), (.int ex), (.int fx)] maxLocals)) (T124.setTop (mkF m 189 #[.val (.int ax), .val (.int bx), .val (.int cx), .val (.int dx), .val (.int ex), .val (.int fx), .val (.int v2), .val (.int v5), .val (.int r14), .val (.int v21), .val (.int v24), .val (.int v27), .val (.int r33), .val (.int r59), .val (.ref b81), .val (.int v90), .val (.int v127), .unset] [(.int v5), (.int v21)])) := fun t k => P128 t (by
        show Steps p.tables e below (T124.setTop (mkF m 185 #[.val (.int ax), .val (.int bx), .val (.int cx), .val (.int dx), .val (.int ex), .val (.int fx), .val (.int v2), .val (.int v5), .val (.int r14), .val (.int v21), .val (.int v24), .val (.int v27), .val (.int r33), .val (.int r59), .val (.ref b81), .val (.int v90), .val (.int v127), .unset] [])) _
        refine XS.iload X124.here hx rfl (hb hby at_185) rfl  ?_
        show Steps p.tables e below (T124.setTop (mkF m 187 #[.val (.int ax), .val (.int bx), .val (.int cx), .val (.int dx), .val (.int ex), .val (.int fx), .val (.int v2), .val (.int v5), .val (.int r14), .val (.int v21), .val (.int v24), .val (.int v27), .val (.int r33), .val (.int r59), .val (.ref b81), .val (.int v90), .val (.int v127), .unset] [(.int v21)])) _
        refine XS.iload X124.here hx rfl (hb hby at_187) rfl  ?_
        exact k)
      by_cases hc189_145 : v21 = v5
      · have P146 : Wy p.tables e below (s₁.setTop (entryFrame m #[(.int ax), (.int bx), (.int cx), (.int dx), (.int ex), (.int fx)] maxLocals)) (T124.setTop (mkF m 223 #[.val (.int ax), .val (.int bx), .val (.int cx), .val (.int dx), .val (.int ex), .val (.int fx), .val (.int v2), .val (.int v5), .val (.int r14), .val (.int v21), .val (.int v24), .val (.int v27), .val (.int r33), .val (.int r59), .val (.ref b81), .val (.int v90), .val (.int v127), .unset] [(.int (1 : Int32))])) := fun t k => P144 t (by
          show Steps p.tables e below (T124.setTop (mkF m 189 #[.val (.int ax), .val (.int bx), .val (.int cx), .val (.int dx), .val (.int ex), .val (.int fx), .val (.int v2), .val (.int v5), .val (.int r14), .val (.int v21), .val (.int v24), .val (.int v27), .val (.int r33), .val (.int r59), .val (.ref b81), .val (.int v90), .val (.int v127), .unset] [(.int v5), (.int v21)])) _
          refine XS.icmpYes X124.here hx rfl (pc0 := 189) (pc' := 218) rfl (hb hby at_189) rfl (teq hc189_145).1 (by decide) (by decide) ?_
          show Steps p.tables e below (T124.setTop (mkF m 218 #[.val (.int ax), .val (.int bx), .val (.int cx), .val (.int dx), .val (.int ex), .val (.int fx), .val (.int v2), .val (.int v5), .val (.int r14), .val (.int v21), .val (.int v24), .val (.int v27), .val (.int r33), .val (.int r59), .val (.ref b81), .val (.int v90), .val (.int v127), .unset] [])) _
          refine XS.iconst X124.here hx rfl (hb hby at_218) ?_
          show Steps p.tables e below (T124.setTop (mkF m 219 #[.val (.int ax), .val (.int bx), .val (.int cx), .val (.int dx), .val (.int ex), .val (.int fx), .val (.int v2), .val (.int v5), .val (.int r14), .val (.int v21), .val (.int v24), .val (.int v27), .val (.int r33), .val (.int r59), .val (.ref b81), .val (.int v90), .val (.int v127), .unset] [(.int (1 : Int32))])) _
          refine XS.goto X124.here hx rfl (pc0 := 219) (pc' := 223) rfl (hb hby at_219) (by decide) (by decide) ?_
          exact k)
        exact ⟨(1 : Int32), (by simp only [if_pos hc189_145]), P146⟩
      · have P147 : Wy p.tables e below (s₁.setTop (entryFrame m #[(.int ax), (.int bx), (.int cx), (.int dx), (.int ex), (.int fx)] maxLocals)) (T124.setTop (mkF m 196 #[.val (.int ax), .val (.int bx), .val (.int cx), .val (.int dx), .val (.int ex), .val (.int fx), .val (.int v2), .val (.int v5), .val (.int r14), .val (.int v21), .val (.int v24), .val (.int v27), .val (.int r33), .val (.int r59), .val (.ref b81), .val (.int v90), .val (.int v127), .unset] [(.int r14), (.int v21)])) := fun t k => P144 t (by
          show Steps p.tables e below (T124.setTop (mkF m 189 #[.val (.int ax), .val (.int bx), .val (.int cx), .val (.int dx), .val (.int ex), .val (.int fx), .val (.int v2), .val (.int v5), .val (.int r14), .val (.int v21), .val (.int v24), .val (.int v27), .val (.int r33), .val (.int r59), .val (.ref b81), .val (.int v90), .val (.int v127), .unset] [(.int v5), (.int v21)])) _
          refine XS.icmpNo X124.here hx rfl (hb hby at_189) rfl (feq hc189_145).1 ?_
          show Steps p.tables e below (T124.setTop (mkF m 192 #[.val (.int ax), .val (.int bx), .val (.int cx), .val (.int dx), .val (.int ex), .val (.int fx), .val (.int v2), .val (.int v5), .val (.int r14), .val (.int v21), .val (.int v24), .val (.int v27), .val (.int r33), .val (.int r59), .val (.ref b81), .val (.int v90), .val (.int v127), .unset] [])) _
          refine XS.iload X124.here hx rfl (hb hby at_192) rfl  ?_
          show Steps p.tables e below (T124.setTop (mkF m 194 #[.val (.int ax), .val (.int bx), .val (.int cx), .val (.int dx), .val (.int ex), .val (.int fx), .val (.int v2), .val (.int v5), .val (.int r14), .val (.int v21), .val (.int v24), .val (.int v27), .val (.int r33), .val (.int r59), .val (.ref b81), .val (.int v90), .val (.int v127), .unset] [(.int v21)])) _
          refine XS.iload X124.here hx rfl (hb hby at_194) rfl  ?_
          exact k)
        by_cases hc196_148 : v21 = r14
        · have P149 : Wy p.tables e below (s₁.setTop (entryFrame m #[(.int ax), (.int bx), (.int cx), (.int dx), (.int ex), (.int fx)] maxLocals)) (T124.setTop (mkF m 223 #[.val (.int ax), .val (.int bx), .val (.int cx), .val (.int dx), .val (.int ex), .val (.int fx), .val (.int v2), .val (.int v5), .val (.int r14), .val (.int v21), .val (.int v24), .val (.int v27), .val (.int r33), .val (.int r59), .val (.ref b81), .val (.int v90), .val (.int v127), .unset] [(.int (1 : Int32))])) := fun t k => P147 t (by
            show Steps p.tables e below (T124.setTop (mkF m 196 #[.val (.int ax), .val (.int bx), .val (.int cx), .val (.int dx), .val (.int ex), .val (.int fx), .val (.int v2), .val (.int v5), .val (.int r14), .val (.int v21), .val (.int v24), .val (.int v27), .val (.int r33), .val (.int r59), .val (.ref b81), .val (.int v90), .val (.int v127), .unset] [(.int r14), (.int v21)])) _
            refine XS.icmpYes X124.here hx rfl (pc0 := 196) (pc' := 218) rfl (hb hby at_196) rfl (teq hc196_148).1 (by decide) (by decide) ?_
            show Steps p.tables e below (T124.setTop (mkF m 218 #[.val (.int ax), .val (.int bx), .val (.int cx), .val (.int dx), .val (.int ex), .val (.int fx), .val (.int v2), .val (.int v5), .val (.int r14), .val (.int v21), .val (.int v24), .val (.int v27), .val (.int r33), .val (.int r59), .val (.ref b81), .val (.int v90), .val (.int v127), .unset] [])) _
            refine XS.iconst X124.here hx rfl (hb hby at_218) ?_
            show Steps p.tables e below (T124.setTop (mkF m 219 #[.val (.int ax), .val (.int bx), .val (.int cx), .val (.int dx), .val (.int ex), .val (.int fx), .val (.int v2), .val (.int v5), .val (.int r14), .val (.int v21), .val (.int v24), .val (.int v27), .val (.int r33), .val (.int r59), .val (.ref b81), .val (.int v90), .val (.int v127), .unset] [(.int (1 : Int32))])) _
            refine XS.goto X124.here hx rfl (pc0 := 219) (pc' := 223) rfl (hb hby at_219) (by decide) (by decide) ?_
            exact k)
          exact ⟨(1 : Int32), (by simp only [if_neg hc189_145, if_pos hc196_148]), P149⟩
        · have P150 : Wy p.tables e below (s₁.setTop (entryFrame m #[(.int ax), (.int bx), (.int cx), (.int dx), (.int ex), (.int fx)] maxLocals)) (T124.setTop (mkF m 208 #[.val (.int ax), .val (.int bx), .val (.int cx), .val (.int dx), .val (.int ex), .val (.int fx), .val (.int v2), .val (.int v5), .val (.int r14), .val (.int v21), .val (.int v24), .val (.int v27), .val (.int r33), .val (.int r59), .val (.ref b81), .val (.int v90), .val (.int v127), .unset] [(.int v24), (.int v21)])) := fun t k => P147 t (by
            show Steps p.tables e below (T124.setTop (mkF m 196 #[.val (.int ax), .val (.int bx), .val (.int cx), .val (.int dx), .val (.int ex), .val (.int fx), .val (.int v2), .val (.int v5), .val (.int r14), .val (.int v21), .val (.int v24), .val (.int v27), .val (.int r33), .val (.int r59), .val (.ref b81), .val (.int v90), .val (.int v127), .unset] [(.int r14), (.int v21)])) _
            refine XS.icmpNo X124.here hx rfl (hb hby at_196) rfl (feq hc196_148).1 ?_
            show Steps p.tables e below (T124.setTop (mkF m 199 #[.val (.int ax), .val (.int bx), .val (.int cx), .val (.int dx), .val (.int ex), .val (.int fx), .val (.int v2), .val (.int v5), .val (.int r14), .val (.int v21), .val (.int v24), .val (.int v27), .val (.int r33), .val (.int r59), .val (.ref b81), .val (.int v90), .val (.int v127), .unset] [])) _
            refine XS.iload X124.here hx rfl (hb hby at_199) rfl  ?_
            show Steps p.tables e below (T124.setTop (mkF m 201 #[.val (.int ax), .val (.int bx), .val (.int cx), .val (.int dx), .val (.int ex), .val (.int fx), .val (.int v2), .val (.int v5), .val (.int r14), .val (.int v21), .val (.int v24), .val (.int v27), .val (.int r33), .val (.int r59), .val (.ref b81), .val (.int v90), .val (.int v127), .unset] [(.int r59)])) _
            refine XS.ifNo X124.here hx rfl (hb hby at_201) rfl ((if0 _ _).trans (feq hc164_96).1) ?_
            show Steps p.tables e below (T124.setTop (mkF m 204 #[.val (.int ax), .val (.int bx), .val (.int cx), .val (.int dx), .val (.int ex), .val (.int fx), .val (.int v2), .val (.int v5), .val (.int r14), .val (.int v21), .val (.int v24), .val (.int v27), .val (.int r33), .val (.int r59), .val (.ref b81), .val (.int v90), .val (.int v127), .unset] [])) _
            refine XS.iload X124.here hx rfl (hb hby at_204) rfl  ?_
            show Steps p.tables e below (T124.setTop (mkF m 206 #[.val (.int ax), .val (.int bx), .val (.int cx), .val (.int dx), .val (.int ex), .val (.int fx), .val (.int v2), .val (.int v5), .val (.int r14), .val (.int v21), .val (.int v24), .val (.int v27), .val (.int r33), .val (.int r59), .val (.ref b81), .val (.int v90), .val (.int v127), .unset] [(.int v21)])) _
            refine XS.iload X124.here hx rfl (hb hby at_206) rfl  ?_
            exact k)
          by_cases hc208_151 : v21 = v24
          · have P152 : Wy p.tables e below (s₁.setTop (entryFrame m #[(.int ax), (.int bx), (.int cx), (.int dx), (.int ex), (.int fx)] maxLocals)) (T124.setTop (mkF m 223 #[.val (.int ax), .val (.int bx), .val (.int cx), .val (.int dx), .val (.int ex), .val (.int fx), .val (.int v2), .val (.int v5), .val (.int r14), .val (.int v21), .val (.int v24), .val (.int v27), .val (.int r33), .val (.int r59), .val (.ref b81), .val (.int v90), .val (.int v127), .unset] [(.int (1 : Int32))])) := fun t k => P150 t (by
              show Steps p.tables e below (T124.setTop (mkF m 208 #[.val (.int ax), .val (.int bx), .val (.int cx), .val (.int dx), .val (.int ex), .val (.int fx), .val (.int v2), .val (.int v5), .val (.int r14), .val (.int v21), .val (.int v24), .val (.int v27), .val (.int r33), .val (.int r59), .val (.ref b81), .val (.int v90), .val (.int v127), .unset] [(.int v24), (.int v21)])) _
              refine XS.icmpYes X124.here hx rfl (pc0 := 208) (pc' := 218) rfl (hb hby at_208) rfl (teq hc208_151).1 (by decide) (by decide) ?_
              show Steps p.tables e below (T124.setTop (mkF m 218 #[.val (.int ax), .val (.int bx), .val (.int cx), .val (.int dx), .val (.int ex), .val (.int fx), .val (.int v2), .val (.int v5), .val (.int r14), .val (.int v21), .val (.int v24), .val (.int v27), .val (.int r33), .val (.int r59), .val (.ref b81), .val (.int v90), .val (.int v127), .unset] [])) _
              refine XS.iconst X124.here hx rfl (hb hby at_218) ?_
              show Steps p.tables e below (T124.setTop (mkF m 219 #[.val (.int ax), .val (.int bx), .val (.int cx), .val (.int dx), .val (.int ex), .val (.int fx), .val (.int v2), .val (.int v5), .val (.int r14), .val (.int v21), .val (.int v24), .val (.int v27), .val (.int r33), .val (.int r59), .val (.ref b81), .val (.int v90), .val (.int v127), .unset] [(.int (1 : Int32))])) _
              refine XS.goto X124.here hx rfl (pc0 := 219) (pc' := 223) rfl (hb hby at_219) (by decide) (by decide) ?_
              exact k)
            exact ⟨(1 : Int32), (by simp only [if_neg hc189_145, if_neg hc196_148, if_pos hc208_151]), P152⟩
          · have P153 : Wy p.tables e below (s₁.setTop (entryFrame m #[(.int ax), (.int bx), (.int cx), (.int dx), (.int ex), (.int fx)] maxLocals)) (T124.setTop (mkF m 215 #[.val (.int ax), .val (.int bx), .val (.int cx), .val (.int dx), .val (.int ex), .val (.int fx), .val (.int v2), .val (.int v5), .val (.int r14), .val (.int v21), .val (.int v24), .val (.int v27), .val (.int r33), .val (.int r59), .val (.ref b81), .val (.int v90), .val (.int v127), .unset] [(.int v27), (.int v21)])) := fun t k => P150 t (by
              show Steps p.tables e below (T124.setTop (mkF m 208 #[.val (.int ax), .val (.int bx), .val (.int cx), .val (.int dx), .val (.int ex), .val (.int fx), .val (.int v2), .val (.int v5), .val (.int r14), .val (.int v21), .val (.int v24), .val (.int v27), .val (.int r33), .val (.int r59), .val (.ref b81), .val (.int v90), .val (.int v127), .unset] [(.int v24), (.int v21)])) _
              refine XS.icmpNo X124.here hx rfl (hb hby at_208) rfl (feq hc208_151).1 ?_
              show Steps p.tables e below (T124.setTop (mkF m 211 #[.val (.int ax), .val (.int bx), .val (.int cx), .val (.int dx), .val (.int ex), .val (.int fx), .val (.int v2), .val (.int v5), .val (.int r14), .val (.int v21), .val (.int v24), .val (.int v27), .val (.int r33), .val (.int r59), .val (.ref b81), .val (.int v90), .val (.int v127), .unset] [])) _
              refine XS.iload X124.here hx rfl (hb hby at_211) rfl  ?_
              show Steps p.tables e below (T124.setTop (mkF m 213 #[.val (.int ax), .val (.int bx), .val (.int cx), .val (.int dx), .val (.int ex), .val (.int fx), .val (.int v2), .val (.int v5), .val (.int r14), .val (.int v21), .val (.int v24), .val (.int v27), .val (.int r33), .val (.int r59), .val (.ref b81), .val (.int v90), .val (.int v127), .unset] [(.int v21)])) _
              refine XS.iload X124.here hx rfl (hb hby at_213) rfl  ?_
              exact k)
            by_cases hc215_154 : v21 = v27
            · have P155 : Wy p.tables e below (s₁.setTop (entryFrame m #[(.int ax), (.int bx), (.int cx), (.int dx), (.int ex), (.int fx)] maxLocals)) (T124.setTop (mkF m 223 #[.val (.int ax), .val (.int bx), .val (.int cx), .val (.int dx), .val (.int ex), .val (.int fx), .val (.int v2), .val (.int v5), .val (.int r14), .val (.int v21), .val (.int v24), .val (.int v27), .val (.int r33), .val (.int r59), .val (.ref b81), .val (.int v90), .val (.int v127), .unset] [(.int (1 : Int32))])) := fun t k => P153 t (by
                show Steps p.tables e below (T124.setTop (mkF m 215 #[.val (.int ax), .val (.int bx), .val (.int cx), .val (.int dx), .val (.int ex), .val (.int fx), .val (.int v2), .val (.int v5), .val (.int r14), .val (.int v21), .val (.int v24), .val (.int v27), .val (.int r33), .val (.int r59), .val (.ref b81), .val (.int v90), .val (.int v127), .unset] [(.int v27), (.int v21)])) _
                refine XS.icmpNo X124.here hx rfl (hb hby at_215) rfl (teq hc215_154).2 ?_
                show Steps p.tables e below (T124.setTop (mkF m 218 #[.val (.int ax), .val (.int bx), .val (.int cx), .val (.int dx), .val (.int ex), .val (.int fx), .val (.int v2), .val (.int v5), .val (.int r14), .val (.int v21), .val (.int v24), .val (.int v27), .val (.int r33), .val (.int r59), .val (.ref b81), .val (.int v90), .val (.int v127), .unset] [])) _
                refine XS.iconst X124.here hx rfl (hb hby at_218) ?_
                show Steps p.tables e below (T124.setTop (mkF m 219 #[.val (.int ax), .val (.int bx), .val (.int cx), .val (.int dx), .val (.int ex), .val (.int fx), .val (.int v2), .val (.int v5), .val (.int r14), .val (.int v21), .val (.int v24), .val (.int v27), .val (.int r33), .val (.int r59), .val (.ref b81), .val (.int v90), .val (.int v127), .unset] [(.int (1 : Int32))])) _
                refine XS.goto X124.here hx rfl (pc0 := 219) (pc' := 223) rfl (hb hby at_219) (by decide) (by decide) ?_
                exact k)
              exact ⟨(1 : Int32), (by simp only [if_neg hc189_145, if_neg hc196_148, if_neg hc208_151, if_pos hc215_154]), P155⟩
            · have P156 : Wy p.tables e below (s₁.setTop (entryFrame m #[(.int ax), (.int bx), (.int cx), (.int dx), (.int ex), (.int fx)] maxLocals)) (T124.setTop (mkF m 223 #[.val (.int ax), .val (.int bx), .val (.int cx), .val (.int dx), .val (.int ex), .val (.int fx), .val (.int v2), .val (.int v5), .val (.int r14), .val (.int v21), .val (.int v24), .val (.int v27), .val (.int r33), .val (.int r59), .val (.ref b81), .val (.int v90), .val (.int v127), .unset] [(.int (0 : Int32))])) := fun t k => P153 t (by
                show Steps p.tables e below (T124.setTop (mkF m 215 #[.val (.int ax), .val (.int bx), .val (.int cx), .val (.int dx), .val (.int ex), .val (.int fx), .val (.int v2), .val (.int v5), .val (.int r14), .val (.int v21), .val (.int v24), .val (.int v27), .val (.int r33), .val (.int r59), .val (.ref b81), .val (.int v90), .val (.int v127), .unset] [(.int v27), (.int v21)])) _
                refine XS.icmpYes X124.here hx rfl (pc0 := 215) (pc' := 222) rfl (hb hby at_215) rfl (feq hc215_154).2 (by decide) (by decide) ?_
                show Steps p.tables e below (T124.setTop (mkF m 222 #[.val (.int ax), .val (.int bx), .val (.int cx), .val (.int dx), .val (.int ex), .val (.int fx), .val (.int v2), .val (.int v5), .val (.int r14), .val (.int v21), .val (.int v24), .val (.int v27), .val (.int r33), .val (.int r59), .val (.ref b81), .val (.int v90), .val (.int v127), .unset] [])) _
                refine XS.iconst X124.here hx rfl (hb hby at_222) ?_
                exact k)
              exact ⟨(0 : Int32), (by simp only [if_neg hc189_145, if_neg hc196_148, if_neg hc208_151, if_neg hc215_154]), P156⟩
    have P157 : Wy p.tables e below (s₁.setTop (entryFrame m #[(.int ax), (.int bx), (.int cx), (.int dx), (.int ex), (.int fx)] maxLocals)) (T124.setTop (mkF m 242 #[.val (.int ax), .val (.int bx), .val (.int cx), .val (.int dx), .val (.int ex), .val (.int fx), .val (.int v2), .val (.int v5), .val (.int r14), .val (.int v21), .val (.int v24), .val (.int v27), .val (.int r33), .val (.int r59), .val (.ref b81), .val (.int v90), .val (.int v127), .val (.int r142)] [(.int (1 : Int32))])) := fun t k => P143 t (by
      show Steps p.tables e below (T124.setTop (mkF m 223 #[.val (.int ax), .val (.int bx), .val (.int cx), .val (.int dx), .val (.int ex), .val (.int fx), .val (.int v2), .val (.int v5), .val (.int r14), .val (.int v21), .val (.int v24), .val (.int v27), .val (.int r33), .val (.int r59), .val (.ref b81), .val (.int v90), .val (.int v127), .unset] [(.int r142)])) _
      refine XS.istore X124.here hx rfl (hb hby at_223) rfl (l' := #[.val (.int ax), .val (.int bx), .val (.int cx), .val (.int dx), .val (.int ex), .val (.int fx), .val (.int v2), .val (.int v5), .val (.int r14), .val (.int v21), .val (.int v24), .val (.int v27), .val (.int r33), .val (.int r59), .val (.ref b81), .val (.int v90), .val (.int v127), .val (.int r142)]) rfl ?_
      show Steps p.tables e below (T124.setTop (mkF m 225 #[.val (.int ax), .val (.int bx), .val (.int cx), .val (.int dx), .val (.int ex), .val (.int fx), .val (.int v2), .val (.int v5), .val (.int r14), .val (.int v21), .val (.int v24), .val (.int v27), .val (.int r33), .val (.int r59), .val (.ref b81), .val (.int v90), .val (.int v127), .val (.int r142)] [])) _
      refine XS.iload X124.here hx rfl (hb hby at_225) rfl  ?_
      show Steps p.tables e below (T124.setTop (mkF m 227 #[.val (.int ax), .val (.int bx), .val (.int cx), .val (.int dx), .val (.int ex), .val (.int fx), .val (.int v2), .val (.int v5), .val (.int r14), .val (.int v21), .val (.int v24), .val (.int v27), .val (.int r33), .val (.int r59), .val (.ref b81), .val (.int v90), .val (.int v127), .val (.int r142)] [(.int v90)])) _
      refine XS.ifNo X124.here hx rfl (hb hby at_227) rfl ((if0 _ _).trans (teq (by rw [hv90]; rfl : v90 = (0 : Int32))).2) ?_
      show Steps p.tables e below (T124.setTop (mkF m 230 #[.val (.int ax), .val (.int bx), .val (.int cx), .val (.int dx), .val (.int ex), .val (.int fx), .val (.int v2), .val (.int v5), .val (.int r14), .val (.int v21), .val (.int v24), .val (.int v27), .val (.int r33), .val (.int r59), .val (.ref b81), .val (.int v90), .val (.int v127), .val (.int r142)] [])) _
      refine XS.iload X124.here hx rfl (hb hby at_230) rfl  ?_
      show Steps p.tables e below (T124.setTop (mkF m 232 #[.val (.int ax), .val (.int bx), .val (.int cx), .val (.int dx), .val (.int ex), .val (.int fx), .val (.int v2), .val (.int v5), .val (.int r14), .val (.int v21), .val (.int v24), .val (.int v27), .val (.int r33), .val (.int r59), .val (.ref b81), .val (.int v90), .val (.int v127), .val (.int r142)] [(.int v127)])) _
      refine XS.iload X124.here hx rfl (hb hby at_232) rfl  ?_
      show Steps p.tables e below (T124.setTop (mkF m 234 #[.val (.int ax), .val (.int bx), .val (.int cx), .val (.int dx), .val (.int ex), .val (.int fx), .val (.int v2), .val (.int v5), .val (.int r14), .val (.int v21), .val (.int v24), .val (.int v27), .val (.int r33), .val (.int r59), .val (.ref b81), .val (.int v90), .val (.int v127), .val (.int r142)] [(.int r142), (.int v127)])) _
      refine XS.icmpNo X124.here hx rfl (hb hby at_234) rfl (teq (own_fin2 hn9 hux hu hvx hv hqx hq hxx hx1 hyx hy1 hv127 hr142 : v127 = r142)).2 ?_
      show Steps p.tables e below (T124.setTop (mkF m 237 #[.val (.int ax), .val (.int bx), .val (.int cx), .val (.int dx), .val (.int ex), .val (.int fx), .val (.int v2), .val (.int v5), .val (.int r14), .val (.int v21), .val (.int v24), .val (.int v27), .val (.int r33), .val (.int r59), .val (.ref b81), .val (.int v90), .val (.int v127), .val (.int r142)] [])) _
      refine XS.iconst X124.here hx rfl (hb hby at_237) ?_
      show Steps p.tables e below (T124.setTop (mkF m 238 #[.val (.int ax), .val (.int bx), .val (.int cx), .val (.int dx), .val (.int ex), .val (.int fx), .val (.int v2), .val (.int v5), .val (.int r14), .val (.int v21), .val (.int v24), .val (.int v27), .val (.int r33), .val (.int r59), .val (.ref b81), .val (.int v90), .val (.int v127), .val (.int r142)] [(.int (1 : Int32))])) _
      refine XS.goto X124.here hx rfl (pc0 := 238) (pc' := 242) rfl (hb hby at_238) (by decide) (by decide) ?_
      exact k)
    obtain ⟨fs, hr, hrun, hended, hW, hsame⟩ := X124.leave (v := some (.int (nar .boolean (1 : Int32)))) (fun h => by rw [Bd.returns] at h; cases h)
    refine ⟨_, _, P157 _ ?_, hrun, hended, _, _, rfl, ?_, ⟨_, rfl⟩, hW, hsame.mono (by decide) (by decide)⟩
    · show Steps p.tables e below (T124.setTop (mkF m 242 #[.val (.int ax), .val (.int bx), .val (.int cx), .val (.int dx), .val (.int ex), .val (.int fx), .val (.int v2), .val (.int v5), .val (.int r14), .val (.int v21), .val (.int v24), .val (.int v27), .val (.int r33), .val (.int r59), .val (.ref b81), .val (.int v90), .val (.int v127), .val (.int r142)] [(.int (1 : Int32))])) _
      exact retN X124 hx (t := .boolean) Bd.returns (by simp) (hb hby at_242) hr
    · show Q0 Z ax bx cx dx ex fx h0 n0 _ T124.heap _
      rw [e124]
      exact ⟨rfl, N124⟩
set_option maxRecDepth 65536 in
set_option maxHeartbeats 40000000 in
theorem comes_1 {Post : Tables → Env → Array Value → State → Outcome → State → Prop} (hpost : ∀ tb e args s v u, (limb_1_1.after args s (.returned v) u = true ∧ limb_1_2.after args s (.returned v) u = true ∧ True) → FrameEnd s (.returned v) u (Jvm.fieldLocs frame_1_writes args s ++ Jvm.arrayLocs frame_1_arrays args s ++ Jvm.staticLocs frame_1_statics s) 16 128 → Post tb e args s (.returned v) u) :
    ArmFor flags0 classFile x code maxLocals ret World_1 tables_1 room_1 Calls_1 rest_1 Pre_1 Post := by
  intro l hfl _ _ p e ha hc hk s m args below hf hA hF happ hP
  obtain ⟨hcalls, hrest, hpre⟩ := hP
  obtain ⟨-, -, -, hnamed, -, -, -, hat⟩ := (Spec.applies_iff hf).mp happ
  obtain ⟨hg, hn⟩ := and_e (Cond.before_iff.mp (show (Jvm.Cond.and given_1 narrow_1).before args s = true from hpre))
  obtain ⟨g1, g2⟩ := and_e hg
  obtain ⟨g3, g4⟩ := and_e g2
  obtain ⟨g5, g6⟩ := and_e g4
  obtain ⟨g7, g8⟩ := and_e g6
  obtain ⟨g9, g10⟩ := and_e g8
  obtain ⟨g11, g12⟩ := and_e g10
  obtain ⟨w0, w1, w2, w3, w4, w5, rfl⟩ : ∃ w0 w1 w2 w3 w4 w5 : Value, args = #[w0, w1, w2, w3, w4, w5] := by
    have hs : args.size = 6 := by simpa [Cond.value, given_1] using g1
    obtain ⟨L⟩ := args
    match L, hs with
    | [w0, w1, w2, w3, w4, w5], _ => exact ⟨w0, w1, w2, w3, w4, w5, rfl⟩
  have hw := fun d (hd : d ∈ tables_1) => atoms_spec (ws := Jvm.Cond.code x code maxLocals ret :: tables_1) hat d (List.mem_cons_of_mem _ hd)
  have hfit : Fit s := fun {y c} hc i hi => by
    obtain ⟨ha, rfl⟩ := Array.getElem?_eq_some_iff.mp hc
    have q := List.all_eq_true.mp ((Array.all_eq_true_iff_forall_mem.mp hF) _ (Array.getElem_mem ha)) i (List.mem_range.mpr hi)
    simpa [Array.getElem?_eq_getElem hi] using q
  obtain ⟨i0, ei0⟩ := is_v g3
  obtain rfl : w0 = (.int i0) := Option.some.inj ei0
  obtain ⟨i1, ei1⟩ := is_v g5
  obtain rfl : w1 = (.int i1) := Option.some.inj ei1
  obtain ⟨i2, ei2⟩ := is_v g7
  obtain rfl : w2 = (.int i2) := Option.some.inj ei2
  obtain ⟨i3, ei3⟩ := is_v g9
  obtain rfl : w3 = (.int i3) := Option.some.inj ei3
  obtain ⟨i4, ei4⟩ := is_v g11
  obtain rfl : w4 = (.int i4) := Option.some.inj ei4
  obtain ⟨i5, ei5⟩ := is_v g12
  obtain rfl : w5 = (.int i5) := Option.some.inj ei5
  obtain ⟨n, o, h1, h2, h3, _, L, rfl, ⟨rfl, N⟩, hq⟩ := rm0 l s _ hw tables_1 i0 i1 i2 i3 i4 i5 s.heap s.heap.size (Nat.le_refl _)  p e ha hc hk s m _ below hf ((Spec.applies_iff_loose hf).mp happ).1 ⟨rfl, State.Warmed39.refl s, rfl⟩ trivial
  refine ⟨n, _, h1, h2, h3, hpost _ _ _ _ _ _ ⟨Cond.after_iff.mpr rfl, Cond.after_iff.mpr (eq_i res_at (Term.int_eval (1)) rfl), trivial⟩ ⟨hq.1, hq.2.1, (hq.2.2.sift fun y hy => Or.inr (N y hy)).mono (by decide) (by decide)⟩⟩
theorem main_1_1 : Claimed_1_1 := comes_1 fun _ _ _ _ _ _ h hF => ⟨h.1, hF⟩
theorem main_1_2 : Claimed_1_2 := comes_1 fun _ _ _ _ _ _ h hF => ⟨h.2.1, hF⟩
end Jvm.Pilot.@@N@@
namespace Jvm.Pilot.@@N@@
open Jvm Jvm.ClassFile Sem Op Lib Jvm.Free Jvm.Stand Jvm.Pilot.@@N@@.Jvm.D
/-! MADE BY PROGRAM (witnessworld.py) out of the Statement's table words and the real class files: 10 classes; the members and pool entries that the words name. The judged class is class 1, her method 1. -/
namespace start1
open Jvm.ClassFile
def u (s : String) : CpInfo := .utf8 (stringToUtf16 s)
/-- a pool by its gaps: so many unusable entries, then the entry; so many at the end -/
def gap : Nat → List CpInfo → List CpInfo
  | 0, r => r
  | n + 1, r => .unusable :: gap n r
def poolList (es : List (Nat × CpInfo)) (last : Nat) : List CpInfo := es.foldr (fun e r => gap e.1 (e.2 :: r)) (gap last [])
def pool (es : List (Nat × CpInfo)) (last : Nat) : Array CpInfo := ⟨poolList es last⟩
def fileOf (pool : Array CpInfo) (this : Nat) (attrs : Array Attribute := #[]) (ms : Array MethodInfo := #[]) (fl : Nat := 33) (sup : Nat := 0) (ifs : Array Nat := #[]) (fds : Array FieldInfo := #[]) : ClassFile where
  minorVersion := 0
  majorVersion := 65
  constantPool := pool
  accessFlags := fl
  thisClass := this
  superClass := sup
  interfaces := ifs
  fields := fds
  methods := ms
  attributes := attrs
def plain (name : String) (sup : Option ClassId) : Class where
  name := name
  kind := .ordinary
  loader := none
  accessFlags := 33
  super := sup
  interfaces := #[]
  cf := none
  fields := #[]
  methods := #[]
  instanceTypes := #[]
  staticTypes := #[]
  resolved := #[]
  callSites := []
  init := .initialized
  statics := none
  mirror := none

def pool0 : Array CpInfo := pool [(5, u "<init>"), (0, u "()V"), (1, .class_ 10), (1, u "java/lang/Object")] 113

def k0c0 : Code := { maxStack := 0, maxLocals := 1, code := object_method_1_code, exceptionTable := #[], attributes := #[] }
def k0m0 : Method := { name := "<init>", desc := "()V", sig := { parameters := [], returnType := none }, accessFlags := 1, code := some k0c0 }
/-- java/lang/Object -/
def k0 : Class := { plain "java/lang/Object" none with
  accessFlags := 33
  interfaces := #[]
  cf := some (fileOf pool0 8 #[] #[{ accessFlags := 1, nameIndex := 5, descriptorIndex := 6, attributes := #[] }] 33 0 #[] #[])
  fields := #[]
  methods := #[k0m0]
  instanceTypes := #[]
  staticTypes := #[]
  resolved := Array.replicate 124 none
  statics := none }

def pool1 : Array CpInfo := pool [(2, .class_ 4), (1, u "java/lang/Object"), (0, u "<init>"), (0, u "()V"), (0, .integer 2147483647), (0, .class_ 9), (0, u "com/example/eagerpair/eagerpair/graph/Matching"), (0, .methodref 8 11), (0, .nameAndType 5 12), (0, u "(I)V"), (0, .methodref 8 14), (0, .nameAndType 15 16), (0, u "isMatched"), (0, u "(I)Z"), (0, .methodref 8 18), (0, .nameAndType 19 20), (0, u "match"), (0, u "(II)V"), (0, .class_ 22), (0, u "com/example/eagerpair/eagerpair/graph/MatchingIsMatchedPinLaw"), (2, u "law"), (0, u "(IIIIII)Z")] 3

def k1m0 : Method := { name := "<init>", desc := "()V", sig := { parameters := [], returnType := none }, accessFlags := 1, code := none }
def k1c1 : Code := { maxStack := 3, maxLocals := 18, code := code, exceptionTable := #[], attributes := #[] }
def k1m1 : Method := { name := "law", desc := "(IIIIII)Z", sig := { parameters := [.int, .int, .int, .int, .int, .int], returnType := some .boolean }, accessFlags := 9, code := some k1c1 }
/-- com/example/eagerpair/eagerpair/graph/MatchingIsMatchedPinLaw -/
def k1 : Class := { plain "com/example/eagerpair/eagerpair/graph/MatchingIsMatchedPinLaw" (some 0) with
  accessFlags := 49
  interfaces := #[]
  cf := some (fileOf pool1 21 #[] #[{ accessFlags := 1, nameIndex := 5, descriptorIndex := 6, attributes := #[] }, { accessFlags := 9, nameIndex := 25, descriptorIndex := 26, attributes := #[] }] 49 2 #[] #[])
  fields := #[]
  methods := #[k1m0, k1m1]
  instanceTypes := #[]
  staticTypes := #[]
  resolved := Array.replicate 30 none
  statics := none }

def pool2 : Array CpInfo := pool [(1, .methodref 2 3), (0, .class_ 4), (0, .nameAndType 5 6), (0, u "java/lang/Object"), (0, u "<init>"), (0, u "()V"), (0, .fieldref 8 9), (0, .class_ 10), (0, .nameAndType 11 12), (0, u "com/example/eagerpair/eagerpair/graph/Matching"), (0, u "mates"), (0, u "[I"), (0, .methodref 14 15), (0, .class_ 16), (0, .nameAndType 17 18), (0, u "java/util/Arrays"), (0, u "fill"), (0, u "([II)V"), (0, .fieldref 8 20), (0, .nameAndType 21 22), (0, u "size"), (0, u "I"), (0, .methodref 8 24), (0, .nameAndType 25 26), (0, u "isMatched"), (0, u "(I)Z"), (9, u "FREE"), (2, u "(I)V"), (7, u "match"), (0, u "(II)V")] 17

def k2c0 : Code := { maxStack := 2, maxLocals := 2, code := prog_43_method_1_code, exceptionTable := #[], attributes := #[] }
def k2m0 : Method := { name := "<init>", desc := "(I)V", sig := { parameters := [.int], returnType := none }, accessFlags := 1, code := some k2c0 }
def k2c1 : Code := { maxStack := 2, maxLocals := 2, code := prog_43_method_4_code, exceptionTable := #[], attributes := #[] }
def k2m1 : Method := { name := "isMatched", desc := "(I)Z", sig := { parameters := [.int], returnType := some .boolean }, accessFlags := 1, code := some k2c1 }
def k2c2 : Code := { maxStack := 4, maxLocals := 3, code := prog_43_method_6_code, exceptionTable := #[], attributes := #[] }
def k2m2 : Method := { name := "match", desc := "(II)V", sig := { parameters := [.int, .int], returnType := none }, accessFlags := 1, code := some k2c2 }
/-- com/example/eagerpair/eagerpair/graph/Matching -/
def k2 : Class := { plain "com/example/eagerpair/eagerpair/graph/Matching" (some 0) with
  accessFlags := 49
  interfaces := #[]
  cf := some (fileOf pool2 8 #[] #[{ accessFlags := 1, nameIndex := 5, descriptorIndex := 39, attributes := #[] }, { accessFlags := 1, nameIndex := 25, descriptorIndex := 26, attributes := #[] }, { accessFlags := 1, nameIndex := 47, descriptorIndex := 48, attributes := #[] }] 49 2 #[] #[{ accessFlags := 26, nameIndex := 36, descriptorIndex := 22, attributes := #[] }, { accessFlags := 18, nameIndex := 11, descriptorIndex := 12, attributes := #[] }, { accessFlags := 2, nameIndex := 21, descriptorIndex := 22, attributes := #[] }])
  fields := #[{ name := "FREE", type := .int, accessFlags := 26, slot := 0, constantValue := 0 }, { name := "mates", type := (.array .int), accessFlags := 18, slot := 0, constantValue := 0 }, { name := "size", type := .int, accessFlags := 2, slot := 1, constantValue := 0 }]
  methods := #[k2m0, k2m1, k2m2]
  instanceTypes := #[(.array .int), .int]
  staticTypes := #[.int]
  resolved := Array.replicate 66 none
  statics := none }

def pool3 : Array CpInfo := pool [(2, .class_ 4), (1, u "java/lang/Object"), (0, u "<init>"), (0, u "()V"), (7, .class_ 16), (1, u "java/util/Arrays"), (57, .class_ 76), (1, u "java/util/Arrays$NaturalOrder"), (36, .class_ 115), (1, u "java/util/Arrays$LegacyMergeSort"), (1, u "Z"), (257, .class_ 376), (0, u "java/util/Arrays$ArrayList"), (68, u "$assertionsDisabled"), (269, u "MIN_ARRAY_SORT_GRAN"), (0, u "I"), (2, u "INSERTIONSORT_THRESHOLD"), (120, u "fill"), (4, u "([II)V"), (129, .class_ 976), (0, u "java/util/Arrays$ArrayItr")] 52

def k3m0 : Method := { name := "<init>", desc := "()V", sig := { parameters := [], returnType := none }, accessFlags := 2, code := none }
def k3c1 : Code := { maxStack := 3, maxLocals := 4, code := jdk_65_method_103_code, exceptionTable := #[], attributes := #[] }
def k3m1 : Method := { name := "fill", desc := "([II)V", sig := { parameters := [(.array .int), .int], returnType := none }, accessFlags := 9, code := some k3c1 }
/-- java/util/Arrays -/
def k3 : Class := { plain "java/util/Arrays" (some 0) with
  accessFlags := 49
  interfaces := #[]
  cf := some (fileOf pool3 14 #[.nestMembers #[975, 375, 113, 74]] #[{ accessFlags := 2, nameIndex := 5, descriptorIndex := 6, attributes := #[] }, { accessFlags := 9, nameIndex := 840, descriptorIndex := 845, attributes := #[] }] 49 2 #[] #[{ accessFlags := 26, nameIndex := 715, descriptorIndex := 716, attributes := #[] }, { accessFlags := 26, nameIndex := 719, descriptorIndex := 716, attributes := #[] }, { accessFlags := 4120, nameIndex := 445, descriptorIndex := 117, attributes := #[] }])
  fields := #[{ name := "MIN_ARRAY_SORT_GRAN", type := .int, accessFlags := 26, slot := 0, constantValue := 0 }, { name := "INSERTIONSORT_THRESHOLD", type := .int, accessFlags := 26, slot := 1, constantValue := 0 }, { name := "$assertionsDisabled", type := .boolean, accessFlags := 4120, slot := 2, constantValue := 0 }]
  methods := #[k3m0, k3m1]
  instanceTypes := #[]
  staticTypes := #[.int, .int, .boolean]
  resolved := Array.replicate 1029 none
  statics := none }

def pool4 : Array CpInfo := pool [(1, u "java/lang/Cloneable"), (0, .class_ 1), (0, u "java/lang/Object"), (0, .class_ 3)] 3

/-- java/lang/Cloneable -/
def k4 : Class := { plain "java/lang/Cloneable" (some 0) with
  accessFlags := 1537
  interfaces := #[]
  cf := some (fileOf pool4 2 #[] #[] 1537 4 #[] #[])
  fields := #[]
  methods := #[]
  instanceTypes := #[]
  staticTypes := #[]
  resolved := Array.replicate 8 none
  statics := none }

def pool5 : Array CpInfo := pool [(1, u "java/io/Serializable"), (0, .class_ 1), (0, u "java/lang/Object"), (0, .class_ 3)] 3

/-- java/io/Serializable -/
def k5 : Class := { plain "java/io/Serializable" (some 0) with
  accessFlags := 1537
  interfaces := #[]
  cf := some (fileOf pool5 2 #[] #[] 1537 4 #[] #[])
  fields := #[]
  methods := #[]
  instanceTypes := #[]
  staticTypes := #[]
  resolved := Array.replicate 8 none
  statics := none }

/-- the primitive byte -/
def k6 : Class := { plain "byte" none with kind := .primitive 'B', accessFlags := 0x411 }
/-- [B -/
def k7 : Class := { plain "[B" (some 0) with kind := .array 6 .byte, interfaces := #[4, 5], accessFlags := 1041 }

/-- the primitive int -/
def k8 : Class := { plain "int" none with kind := .primitive 'I', accessFlags := 0x411 }
/-- [I -/
def k9 : Class := { plain "[I" (some 0) with kind := .array 8 .int, interfaces := #[4, 5], accessFlags := 1041 }

def heap : Heap := #[]
def classes : Array Class := #[k0, k1, k2, k3, k4, k5, k6, k7, k8, k9]
def interned : List (Array UInt16 × Addr) := []
def slotsUsed : Nat := 0
def theMethod : MethodId := ⟨1, 1⟩
def args0 : Array Value := #[.int 5, .int 7, .int 5, .int 7, .int 5, .int 9]
def aboutOver (below : List Frame) : State where
  vm := { classes := classes, interned := interned.toArray }
  heap := heap
  slotsUsed := slotsUsed
  threads := #[{ frames := .invoking theMethod args0 :: below }]
def below0 : List Frame := [.native { method := ⟨0, 0⟩, args := #[] }]
def about1 : State := aboutOver below0
def p0 : Program := .bare "" "" ""
def e0 : Env := launch0.env 0 0 0
theorem w_frames : about1.frames = Frame.invoking theMethod args0 :: below0 := rfl
set_option maxRecDepth 65536 in
theorem w_args : argsFit about1.vm theMethod args0 = true := by decide +kernel
set_option maxRecDepth 65536 in
theorem w_heap : heapFits about1 = true := by decide +kernel
set_option maxRecDepth 65536 in
theorem w_runnable : about1.curStatus? = some .runnable := by decide +kernel
set_option maxRecDepth 65536 in
theorem w_alone : about1.alone = true := by decide +kernel
set_option maxRecDepth 65536 in
theorem w_named : about1.methodNamed? x = some theMethod := by decide +kernel
set_option maxRecDepth 65536 in
theorem w_hears : about1.hears theMethod below0 = true := by decide +kernel
set_option maxRecDepth 65536 in
theorem w_ripe : about1.ripe theMethod args0 below0 = true := by decide +kernel
theorem w_running : about1.status = .running := rfl
set_option maxRecDepth 65536 in
theorem w_room : about1.hasRoom e0.platform room_1 = true :=
  launch0.hasRoom_least _ room_1 (by decide +kernel) (by decide +kernel) (by decide +kernel) (by decide +kernel) (by decide +kernel) (by decide +kernel)
theorem allAtoms_all (ts : List Jvm.Cond) (a : Array Jvm.Value) (st : Jvm.State) : (allAtoms ts).before a st = ts.all (fun c => c.before a st) := by
  induction ts with
  | nil => rfl
  | cons c t ih =>
    show (Jvm.Cond.and c (allAtoms t)).before a st = _
    rw [Jvm.Cond.before_and, ih, List.all_cons]
def words1 : List Jvm.Cond := Jvm.Cond.code x code maxLocals ret :: tables_1
/-- a 'code' word, met by the world's own term for the bytes: nothing is compared byte by byte -/
theorem code_word {y : MethodName} {bytes : ByteArray} {mx : Nat} {rt : Option FieldType} {a : Array Value} {s : State} {m : MethodId} {meth : Method} {c : Code} (h1 : s.methodNamed? y = some m) (h2 : s.vm.method? m = some meth) (h3 : meth.code = some c) (h4 : c.code = bytes)
    (h5 : (c.maxLocals == mx && c.exceptionTable.isEmpty && decide (c.maxStack ≤ mostOperands) && decide (meth.sig.returnType = rt) && !meth.locks && decide (parseMethodDescriptor y.desc = some meth.sig)) = true) : (Jvm.Cond.code y bytes mx rt).before a s = true := by
  simp only [Bool.and_eq_true, beq_iff_eq, Bool.not_eq_true', decide_eq_true_eq] at h5
  obtain ⟨⟨⟨⟨⟨g1, g2⟩, g3⟩, g4⟩, g5⟩, g6⟩ := h5
  simp [Cond.before, Cond.holds, Cond.value, h1, h2, h3, h4, g1, g2, g3, g4, g5, g6]
def isCode : Jvm.Cond → Bool
  | .code _ _ _ _ => true
  | _ => false
theorem all_split {L : List Jvm.Cond} {P : Jvm.Cond → Bool} (h1 : L.all (fun c => isCode c || P c) = true) (h2 : ∀ c ∈ L.filter isCode, P c = true) : L.all P = true := by
  refine List.all_eq_true.mpr fun c hc => ?_
  have h := List.all_eq_true.mp h1 c hc
  rcases Bool.eq_false_or_eq_true (isCode c) with hi | hi
  · exact h2 c (List.mem_filter.mpr ⟨hc, hi⟩)
  · simpa [hi] using h
set_option maxRecDepth 65536 in
theorem w_c0 : (Jvm.Cond.code x code maxLocals ret).before args0 about1 = true := code_word (m := ⟨1, 1⟩) (meth := k1m1) (c := k1c1) (by decide +kernel) rfl rfl rfl (by decide +kernel)
set_option maxRecDepth 65536 in
theorem w_c1 : (Jvm.Cond.code ({ cls := "com/example/eagerpair/eagerpair/graph/Matching", name := "<init>", desc := "(I)V" } : Jvm.MethodName) prog_43_method_1_code (2 : Nat) (Option.none : Option Jvm.ClassFile.FieldType)).before args0 about1 = true := code_word (m := ⟨2, 0⟩) (meth := k2m0) (c := k2c0) (by decide +kernel) rfl rfl rfl (by decide +kernel)
set_option maxRecDepth 65536 in
theorem w_c2 : (Jvm.Cond.code ({ cls := "java/lang/Object", name := "<init>", desc := "()V" } : Jvm.MethodName) object_method_1_code (1 : Nat) (Option.none : Option Jvm.ClassFile.FieldType)).before args0 about1 = true := code_word (m := ⟨0, 0⟩) (meth := k0m0) (c := k0c0) (by decide +kernel) rfl rfl rfl (by decide +kernel)
set_option maxRecDepth 65536 in
theorem w_c3 : (Jvm.Cond.code ({ cls := "java/util/Arrays", name := "fill", desc := "([II)V" } : Jvm.MethodName) jdk_65_method_103_code (4 : Nat) (Option.none : Option Jvm.ClassFile.FieldType)).before args0 about1 = true := code_word (m := ⟨3, 1⟩) (meth := k3m1) (c := k3c1) (by decide +kernel) rfl rfl rfl (by decide +kernel)
set_option maxRecDepth 65536 in
theorem w_c4 : (Jvm.Cond.code ({ cls := "com/example/eagerpair/eagerpair/graph/Matching", name := "isMatched", desc := "(I)Z" } : Jvm.MethodName) prog_43_method_4_code (2 : Nat) (Option.some Jvm.ClassFile.FieldType.boolean)).before args0 about1 = true := code_word (m := ⟨2, 1⟩) (meth := k2m1) (c := k2c1) (by decide +kernel) rfl rfl rfl (by decide +kernel)
set_option maxRecDepth 65536 in
theorem w_c5 : (Jvm.Cond.code ({ cls := "com/example/eagerpair/eagerpair/graph/Matching", name := "match", desc := "(II)V" } : Jvm.MethodName) prog_43_method_6_code (3 : Nat) (Option.none : Option Jvm.ClassFile.FieldType)).before args0 about1 = true := code_word (m := ⟨2, 2⟩) (meth := k2m2) (c := k2c2) (by decide +kernel) rfl rfl rfl (by decide +kernel)
def codes1 : List Jvm.Cond := [Jvm.Cond.code x code maxLocals ret, Jvm.Cond.code ({ cls := "com/example/eagerpair/eagerpair/graph/Matching", name := "<init>", desc := "(I)V" } : Jvm.MethodName) prog_43_method_1_code (2 : Nat) (Option.none : Option Jvm.ClassFile.FieldType), Jvm.Cond.code ({ cls := "java/lang/Object", name := "<init>", desc := "()V" } : Jvm.MethodName) object_method_1_code (1 : Nat) (Option.none : Option Jvm.ClassFile.FieldType), Jvm.Cond.code ({ cls := "java/util/Arrays", name := "fill", desc := "([II)V" } : Jvm.MethodName) jdk_65_method_103_code (4 : Nat) (Option.none : Option Jvm.ClassFile.FieldType), Jvm.Cond.code ({ cls := "com/example/eagerpair/eagerpair/graph/Matching", name := "isMatched", desc := "(I)Z" } : Jvm.MethodName) prog_43_method_4_code (2 : Nat) (Option.some Jvm.ClassFile.FieldType.boolean), Jvm.Cond.code ({ cls := "com/example/eagerpair/eagerpair/graph/Matching", name := "match", desc := "(II)V" } : Jvm.MethodName) prog_43_method_6_code (3 : Nat) (Option.none : Option Jvm.ClassFile.FieldType)]
set_option maxRecDepth 65536 in
theorem codes_eq : words1.filter isCode = codes1 := rfl
theorem w_codes : ∀ c ∈ words1.filter isCode, c.before args0 about1 = true := by
  rw [codes_eq]
  intro c hc
  simp only [codes1, List.mem_cons, List.not_mem_nil, or_false] at hc
  rcases hc with rfl | rfl | rfl | rfl | rfl | rfl
  · exact w_c0
  · exact w_c1
  · exact w_c2
  · exact w_c3
  · exact w_c4
  · exact w_c5
set_option maxRecDepth 65536 in
theorem w_t1 : (words1.take 24).all (fun c => isCode c || c.before args0 about1) = true := by decide +kernel
set_option maxRecDepth 65536 in
theorem w_t2 : (words1.drop 24).all (fun c => isCode c || c.before args0 about1) = true := by decide +kernel
theorem w_tables : (allAtoms (Jvm.Cond.code x code maxLocals ret :: tables_1)).before args0 about1 = true := by
  rw [allAtoms_all]
  show words1.all (fun c => c.before args0 about1) = true
  refine all_split ?_ w_codes
  rw [← List.take_append_drop 24 words1, List.all_append, w_t1, w_t2]
  rfl
set_option maxRecDepth 65536 in
theorem w_case : (Jvm.Cond.and given_1 narrow_1).before args0 about1 = true := by decide +kernel
theorem w_applies : (headSpec (Jvm.Cond.code x code maxLocals ret :: tables_1) room_1).applies x e0.platform about1 = true :=
  (Spec.applies_iff w_frames).mpr ⟨w_running, w_runnable, w_alone, w_named, w_hears, w_ripe, w_room, w_tables⟩
theorem atStart : AtStart classFile x code maxLocals ret World_1 tables_1 room_1 Calls_1 rest_1 Pre_1 launch0 p0 e0 about1 theMethod args0 below0 :=
  ⟨lists_1, trivial, launch0.admits_env _ _ _, launch0.least_env, fairChoices_fair.cas, fairChoices_fair.clock, w_frames, w_args, w_heap, w_applies, trivial, trivial, w_case⟩
end start1
theorem witness_1 : WitnessClaimed_1 := ⟨start1.p0, start1.e0, start1.about1, start1.theMethod, start1.args0, start1.below0, start1.atStart⟩
end Jvm.Pilot.@@N@@
