import JvmDerived
import JvmDerived.Pilot.@@N@@Statement
import JvmDerived.Pilot.@@N@@Code
set_option linter.unusedVariables false
set_option linter.unusedSimpArgs false
namespace Jvm.RoadKit
open Sem ClassFile Op Lib Jvm.Stand Jvm.Free Jvm.LawKit
section New
variable {p : Program} {l : Launch} {e : Env} {R : Room} {s : State} {m : MethodId} {args : Array Value} {below : List Frame} {meth : Method} {c : Code} {T : State} {locs : List Loc} {cells slots : Nat}
theorem retI (X : Stand p l e R s m args below meth c T locs cells slots) (hx : p.tables.exec = Jvm.exec) {pc : Nat} {Ls : Array Slot} {z : Int32} {rest : List Value} (hret : meth.sig.returnType = some .int) (hd : decode c.code pc = .ok (.ireturn, 1)) {fs : List Frame}
    (hl : ∀ (f : JFrame) (acts : List Action), f.method = m → f.locked = none → f.entered = [] → (doReturn e (T.setTop f) acts (some (.int z))).1 = T.setFrames fs) : Steps p.tables e below (T.setTop (mkF m pc Ls (.int z :: rest))) (T.setFrames fs) := by
  have hm' : T.vm.method? m = some meth := X.method'
  have hn : narrow .int (.int z) = .int z := rfl
  show Steps p.tables e below (T.setTop { method := m, pc := pc, locals := Ls, stack := _ :: rest, locked := none }) _
  jvm_step X.here [X.here.top, hx, hd, hm', hret, hn]
  first | (intro acts; rw [hl _ acts rfl rfl rfl]) | rw [hl _ _ rfl rfl rfl]
  exact Steps.refl _
theorem retJ (X : Stand p l e R s m args below meth c T locs cells slots) (hx : p.tables.exec = Jvm.exec) {pc : Nat} {Ls : Array Slot} {z : Int64} {rest : List Value} (hret : meth.sig.returnType = some .long) (hd : decode c.code pc = .ok (.lreturn, 1)) {fs : List Frame}
    (hl : ∀ (f : JFrame) (acts : List Action), f.method = m → f.locked = none → f.entered = [] → (doReturn e (T.setTop f) acts (some (.long z))).1 = T.setFrames fs) : Steps p.tables e below (T.setTop (mkF m pc Ls (.long z :: rest))) (T.setFrames fs) := by
  have hm' : T.vm.method? m = some meth := X.method'
  have hn : narrow .long (.long z) = .long z := rfl
  show Steps p.tables e below (T.setTop { method := m, pc := pc, locals := Ls, stack := _ :: rest, locked := none }) _
  jvm_step X.here [X.here.top, hx, hd, hm', hret, hn]
  first | (intro acts; rw [hl _ acts rfl rfl rfl]) | rw [hl _ _ rfl rfl rfl]
  exact Steps.refl _
end New
end Jvm.RoadKit
namespace Jvm.Pilot.@@N@@
open Jvm Jvm.ClassFile Sem Op Lib Jvm.Free Jvm.Stand Jvm.LawKit Jvm.RoadKit Bundle Jvm.Pilot.@@N@@.Jvm.D
def bF (i f t : Int32) (w x : Int64) : Int32 := if i < f then (0 : Int32) else (if i < t then (if x < w then (1 : Int32) else (0 : Int32)) else (0 : Int32))
def prF (x : Int64) (s : Int32) : Int64 := if s = (0 : Int32) then x else ((x.toUInt64 >>> ((s - (1 : Int32)) &&& 0x3f).toInt64.toUInt64).toInt64)
def inF (u : Int64) (i s : Int32) (noise : Int64) : Int64 := ((u <<< (s &&& 0x3f).toInt64) ||| ((noise * (((2 : Int64) * (i.toInt64)) + (1 : Int64))) &&& (((1 : Int64) <<< (s &&& 0x3f).toInt64) - (1 : Int64))))
def Inv (U : Nat → Int64) (w : Int64) (f t bs ln : Int32) : Prop := f.toInt ≤ bs.toInt ∧ 0 ≤ ln.toInt ∧ bs.toInt + ln.toInt ≤ t.toInt ∧ (∀ i : Nat, f.toInt ≤ (i : Int) → (i : Int) < bs.toInt → (U i).toInt < w.toInt) ∧ (∀ i : Nat, bs.toInt + ln.toInt ≤ (i : Int) → (i : Int) < t.toInt → w.toInt ≤ (U i).toInt)
def Got (U : Nat → Int64) (w : Int64) (f t r : Int32) : Prop := f.toInt ≤ r.toInt ∧ r.toInt ≤ t.toInt ∧ (∀ i : Nat, f.toInt ≤ (i : Int) → (i : Int) < r.toInt → (U i).toInt < w.toInt) ∧ (∀ i : Nat, r.toInt ≤ (i : Int) → (i : Int) < t.toInt → w.toInt ≤ (U i).toInt)
theorem own_lt {a b : Int32} : a < b ↔ a.toInt < b.toInt := Int32.lt_iff_toInt_lt
theorem own_add {x y : Int32} {a b : Int} (hx : x.toInt = a) (hy : y.toInt = b) (h1 : -2147483648 ≤ a + b) (h2 : a + b < 2147483648) : (x + y).toInt = a + b := by
  have := c_iadd x y; have r := rng32 (x + y); rw [hx, hy] at this; omega
theorem own_sub {x y : Int32} {a b : Int} (hx : x.toInt = a) (hy : y.toInt = b) (h1 : -2147483648 ≤ a - b) (h2 : a - b < 2147483648) : (x - y).toInt = a - b := by
  have := c_isub x y; have r := rng32 (x - y); rw [hx, hy] at this; omega
theorem own_mul {x y : Int32} {a b : Int} (hx : x.toInt = a) (hy : y.toInt = b) (h1 : -2147483648 ≤ a * b) (h2 : a * b < 2147483648) : (x * y).toInt = a * b := by
  have := c_imul x y; have r := rng32 (x * y); rw [hx, hy] at this; generalize a * b = z at *; omega
theorem own_place {j : Int32} {a : Int} (h : j.toInt = a) (h0 : 0 ≤ a) (h1 : a < 16) : ¬ j < 0 ∧ j < (16 : Int32) ∧ j.toNatClampNeg < 16 ∧ (j.toNatClampNeg : Int) = a := by
  have e : (j.toNatClampNeg : Int) = a := by rw [← h]; exact (nat_of (by rw [own_lt, h]; show ¬ a < 0; omega)).symm
  refine ⟨by rw [own_lt, h]; show ¬ a < 0; omega, by rw [own_lt, h]; exact h1, by omega, e⟩
theorem own_half {ln hf : Int32} (h0 : 0 ≤ ln.toInt) (e : hf = ((ln.toUInt32 >>> ((1 : Int32) &&& 31).toUInt32).toInt32)) : hf.toInt = ln.toInt / 2 := by
  have h := c_iushr ln 1 1 (by decide) (by decide)
  rw [e, h, Int.emod_eq_of_lt h0 (by have := rng32 ln; omega)]; rfl
theorem own_i2 {U : Nat → Int64} {w : Int64} {f t bs ln hf : Int32} (hI : Inv U w f t bs ln) (hf0 : 0 ≤ f.toInt) (ht16 : t.toInt ≤ 16) (h : (1 : Int32) < ln) (e : hf = ((ln.toUInt32 >>> ((1 : Int32) &&& 31).toUInt32).toInt32)) :
    ¬ ((bs + hf) - (1 : Int32)) < 0 ∧ ((bs + hf) - (1 : Int32)) < (16 : Int32) ∧ (((bs + hf) - (1 : Int32))).toNatClampNeg < 16 := by
  obtain ⟨a1, a2, a3, -, -⟩ := hI
  have h' : (1 : Int) < ln.toInt := own_lt.mp h
  have eh := own_half a2 e
  have e1 : (bs + hf).toInt = bs.toInt + ln.toInt / 2 := own_add rfl eh (by omega) (by omega)
  have e2 : ((bs + hf) - (1 : Int32)).toInt = bs.toInt + ln.toInt / 2 - 1 := own_sub e1 (show (1 : Int32).toInt = 1 by decide) (by omega) (by omega)
  have := own_place e2 (by omega) (by omega)
  exact ⟨this.1, this.2.1, this.2.2.1⟩
theorem own_sgn {u w : Int64} (hu : 0 ≤ u.toInt) (hw : 0 ≤ w.toInt) : (u - w).toInt = u.toInt - w.toInt := by
  have := c_lsub u w; have r := rng64 (u - w); have r1 := rng64 u; have r2 := rng64 w; omega
theorem own_sg {u w : Int64} {c : Int32} (hu : 0 ≤ u.toInt) (hw : 0 ≤ w.toInt) (e : c = (((u - w).toUInt64 >>> ((63 : Int32) &&& 0x3f).toInt64.toUInt64).toInt64).toInt32) : (u.toInt < w.toInt ∧ c.toInt = 1) ∨ (w.toInt ≤ u.toInt ∧ c.toInt = 0) := by
  have h := c_lushr (u - w) 63 63 (by decide) (by decide)
  have hs := own_sgn hu hw
  have r1 := rng64 u; have r2 := rng64 w
  have h2 := c_l2i ((((u - w).toUInt64 >>> ((63 : Int32) &&& 0x3f).toInt64.toUInt64).toInt64))
  have r := rng32 c
  rw [← e, h, hs] at h2
  have e63 : ((2 ^ 63 : Nat) : Int) = 9223372036854775808 := by decide
  rw [e63] at h2
  omega
theorem own_mask {u w : Int64} {hf : Int32} (hu : 0 ≤ u.toInt) (hw : 0 ≤ w.toInt) : (u.toInt < w.toInt ∧ (hf &&& ((u - w) >>> ((63 : Int32) &&& 0x3f).toInt64).toInt32) = hf) ∨ (w.toInt ≤ u.toInt ∧ (hf &&& ((u - w) >>> ((63 : Int32) &&& 0x3f).toInt64).toInt32) = 0) := by
  have h := c_lshr (u - w) 63 63 (by decide)
  have hs := own_sgn hu hw
  have r1 := rng64 u; have r2 := rng64 w
  have h2 := c_l2i ((u - w) >>> ((63 : Int32) &&& 0x3f).toInt64)
  have r := rng32 (((u - w) >>> ((63 : Int32) &&& 0x3f).toInt64).toInt32)
  have e63 : ((2 ^ 63 : Nat) : Int) = 9223372036854775808 := by decide
  rw [h, hs, e63] at h2
  generalize ((u - w) >>> ((63 : Int32) &&& 0x3f).toInt64).toInt32 = z at *
  by_cases q : u.toInt < w.toInt
  · left
    have : z = -1 := Int32.toInt_inj.mp (by show z.toInt = -1; omega)
    exact ⟨q, by rw [this]; simp⟩
  · right
    have : z = 0 := Int32.toInt_inj.mp (by show z.toInt = 0; omega)
    exact ⟨by omega, by rw [this]; simp⟩
theorem own_t2 {U : Nat → Int64} {w : Int64} {f t bs ln hf b l : Int32} (hI : Inv U w f t bs ln) (hs : ∀ i j : Nat, i ≤ j → j < 16 → (U i).toInt ≤ (U j).toInt) (hnn : ∀ i : Nat, i < 16 → 0 ≤ (U i).toInt) (hw0 : 0 ≤ w.toInt) (hf0 : 0 ≤ f.toInt) (ht16 : t.toInt ≤ 16) (h : (1 : Int32) < ln)
    (e : hf = ((ln.toUInt32 >>> ((1 : Int32) &&& 31).toUInt32).toInt32)) (eb : b = (bs + (hf &&& ((((U (((bs + hf) - (1 : Int32))).toNatClampNeg) - w) >>> ((63 : Int32) &&& 0x3f).toInt64).toInt32)))) (el : l = (ln - hf)) : Inv U w f t b l ∧ l.toInt < ln.toInt := by
  obtain ⟨a1, a2, a3, a4, a5⟩ := hI
  have h' : (1 : Int) < ln.toInt := own_lt.mp h
  have eh := own_half a2 e
  have e1 : (bs + hf).toInt = bs.toInt + ln.toInt / 2 := own_add rfl eh (by omega) (by omega)
  have e2 : ((bs + hf) - (1 : Int32)).toInt = bs.toInt + ln.toInt / 2 - 1 := own_sub e1 (show (1 : Int32).toInt = 1 by decide) (by omega) (by omega)
  obtain ⟨-, -, p3, p4⟩ := own_place e2 (by omega) (by omega)
  have hl : l.toInt = ln.toInt - ln.toInt / 2 := by rw [el]; exact own_sub rfl eh (by omega) (by omega)
  generalize (((bs + hf) - (1 : Int32))).toNatClampNeg = k at *
  rcases own_mask (hf := hf) (hnn k p3) hw0 with ⟨q1, q2⟩ | ⟨q1, q2⟩
  · rw [q2] at eb
    have hb : b.toInt = bs.toInt + ln.toInt / 2 := by rw [eb]; exact own_add rfl eh (by omega) (by omega)
    refine ⟨⟨by omega, by omega, by omega, fun i i1 i2 => ?_, fun i i1 i2 => a5 i (by omega) i2⟩, by omega⟩
    have := hs i k (by omega) p3
    omega
  · rw [q2] at eb
    have hb : b.toInt = bs.toInt := by rw [eb]; simp
    refine ⟨⟨by omega, by omega, by omega, fun i i1 i2 => a4 i i1 (by omega), fun i i1 i2 => ?_⟩, by omega⟩
    have := hs k i (by omega) (by omega)
    omega
theorem own_01 {U : Nat → Int64} {w : Int64} {f t bs ln : Int32} (hI : Inv U w f t bs ln) (h : ¬ (1 : Int32) < ln) : ln = 0 ∨ ln = 1 := by
  obtain ⟨-, a2, -⟩ := hI
  have h' : ¬ (1 : Int) < ln.toInt := fun q => h (own_lt.mpr q)
  simp only [← Int32.toInt_inj]
  show ln.toInt = 0 ∨ ln.toInt = 1
  omega
theorem own_inv0 {U : Nat → Int64} {w : Int64} {f t v : Int32} (hf0 : 0 ≤ f.toInt) (hft : f.toInt ≤ t.toInt) (e : v = (t - f)) : Inv U w f t f v := by
  have r := rng32 t
  have hv : v.toInt = t.toInt - f.toInt := by rw [e]; exact own_sub rfl rfl (by omega) (by omega)
  exact ⟨by omega, by omega, by omega, fun i i1 i2 => by omega, fun i i1 i2 => by omega⟩
theorem own_step8 {U : Nat → Int64} {w : Int64} {f t bs ln sp : Int32} (hI : Inv U w f t bs ln) (hf0 : 0 ≤ f.toInt) (ht16 : t.toInt ≤ 16) (h8 : (8 : Int32) < ln) (e : sp = (ln / (8 : Int32))) : (8 : Int) < ln.toInt ∧ ln.toInt ≤ 16 ∧ sp.toInt = ln.toInt / 8 := by
  obtain ⟨a1, a2, a3, -, -⟩ := hI
  have h' : (8 : Int) < ln.toInt := own_lt.mp h8
  exact ⟨h', by omega, by rw [e]; exact (c_idiv ln 8 8 (by decide) (by decide)).1 (by omega)⟩
theorem own_i1 {U : Nat → Int64} {w : Int64} {f t bs ln sp : Int32} (hI : Inv U w f t bs ln) (hf0 : 0 ≤ f.toInt) (ht16 : t.toInt ≤ 16) (h8 : (8 : Int32) < ln) (e : sp = (ln / (8 : Int32))) (k : Int32) (kn : Int) (hk : k.toInt = kn) (k1 : 1 ≤ kn) (k7 : kn ≤ 7) :
    ¬ ((bs + (k * sp)) - (1 : Int32)) < 0 ∧ ((bs + (k * sp)) - (1 : Int32)) < (16 : Int32) ∧ (((bs + (k * sp)) - (1 : Int32))).toNatClampNeg < 16 := by
  obtain ⟨q1, q2, q3⟩ := own_step8 hI hf0 ht16 h8 e
  obtain ⟨a1, a2, a3, -, -⟩ := hI
  have m : 1 ≤ kn * (ln.toInt / 8) ∧ kn * (ln.toInt / 8) ≤ 7 * (ln.toInt / 8) := by
    have : ln.toInt / 8 = 1 ∨ ln.toInt / 8 = 2 := by omega
    rcases this with r | r <;> rw [r] <;> omega
  have e0 : (k * sp).toInt = kn * (ln.toInt / 8) := own_mul hk q3 (by omega) (by omega)
  generalize kn * (ln.toInt / 8) = M at *
  have e1 : (bs + (k * sp)).toInt = bs.toInt + M := own_add rfl e0 (by omega) (by omega)
  have e2 : ((bs + (k * sp)) - (1 : Int32)).toInt = bs.toInt + M - 1 := own_sub e1 (show (1 : Int32).toInt = 1 by decide) (by omega) (by omega)
  have := own_place e2 (by omega) (by omega)
  exact ⟨this.1, this.2.1, this.2.2.1⟩
theorem own_p1 {bs sp k : Int32} {kn B S : Int} (hb : bs.toInt = B) (hsp : sp.toInt = S) (hk : k.toInt = kn) (h0 : 0 ≤ B) (h1 : 1 ≤ kn * S) (h2 : B + kn * S ≤ 16) : ((((bs + (k * sp)) - (1 : Int32))).toNatClampNeg : Int) = B + kn * S - 1 := by
  have e0 : (k * sp).toInt = kn * S := own_mul hk hsp (by omega) (by omega)
  generalize kn * S = M at *
  have e1 : (bs + (k * sp)).toInt = B + M := own_add hb e0 (by omega) (by omega)
  have e2 : ((bs + (k * sp)) - (1 : Int32)).toInt = B + M - 1 := own_sub e1 (show (1 : Int32).toInt = 1 by decide) (by omega) (by omega)
  exact (own_place e2 (by omega) (by omega)).2.2.2
theorem own_c {c w u : Int} (s : (u < w ∧ c = 1) ∨ (w ≤ u ∧ c = 0)) : (0 ≤ c ∧ c ≤ 1) ∧ (c = 1 → u < w) ∧ (c = 0 → w ≤ u) := by
  rcases s with ⟨a, b⟩ | ⟨a, b⟩
  · exact ⟨by omega, fun _ => a, fun q => by omega⟩
  · exact ⟨by omega, fun q => by omega, fun _ => a⟩
theorem own_cc {c d w u v : Int} (s : (u < w ∧ c = 1) ∨ (w ≤ u ∧ c = 0)) (r : (v < w ∧ d = 1) ∨ (w ≤ v ∧ d = 0)) (h : u ≤ v) : d ≤ c := by
  rcases s with ⟨a, b⟩ | ⟨a, b⟩ <;> rcases r with ⟨a', b'⟩ | ⟨a', b'⟩ <;> omega
set_option maxHeartbeats 8000000 in
theorem own_t1 {U : Nat → Int64} {w : Int64} {f t bs ln sp c1 c2 c3 c4 c5 c6 c7 bl l b : Int32} (hI : Inv U w f t bs ln) (hs : ∀ i j : Nat, i ≤ j → j < 16 → (U i).toInt ≤ (U j).toInt) (hf0 : 0 ≤ f.toInt) (ht16 : t.toInt ≤ 16) (h8 : (8 : Int32) < ln) (e : sp = (ln / (8 : Int32)))
    (s1 : ((U (((bs + ((1 : Int32) * sp)) - (1 : Int32))).toNatClampNeg).toInt < w.toInt ∧ c1.toInt = 1) ∨ (w.toInt ≤ (U (((bs + ((1 : Int32) * sp)) - (1 : Int32))).toNatClampNeg).toInt ∧ c1.toInt = 0))
    (s2 : ((U (((bs + ((2 : Int32) * sp)) - (1 : Int32))).toNatClampNeg).toInt < w.toInt ∧ c2.toInt = 1) ∨ (w.toInt ≤ (U (((bs + ((2 : Int32) * sp)) - (1 : Int32))).toNatClampNeg).toInt ∧ c2.toInt = 0))
    (s3 : ((U (((bs + ((3 : Int32) * sp)) - (1 : Int32))).toNatClampNeg).toInt < w.toInt ∧ c3.toInt = 1) ∨ (w.toInt ≤ (U (((bs + ((3 : Int32) * sp)) - (1 : Int32))).toNatClampNeg).toInt ∧ c3.toInt = 0))
    (s4 : ((U (((bs + ((4 : Int32) * sp)) - (1 : Int32))).toNatClampNeg).toInt < w.toInt ∧ c4.toInt = 1) ∨ (w.toInt ≤ (U (((bs + ((4 : Int32) * sp)) - (1 : Int32))).toNatClampNeg).toInt ∧ c4.toInt = 0))
    (s5 : ((U (((bs + ((5 : Int32) * sp)) - (1 : Int32))).toNatClampNeg).toInt < w.toInt ∧ c5.toInt = 1) ∨ (w.toInt ≤ (U (((bs + ((5 : Int32) * sp)) - (1 : Int32))).toNatClampNeg).toInt ∧ c5.toInt = 0))
    (s6 : ((U (((bs + ((6 : Int32) * sp)) - (1 : Int32))).toNatClampNeg).toInt < w.toInt ∧ c6.toInt = 1) ∨ (w.toInt ≤ (U (((bs + ((6 : Int32) * sp)) - (1 : Int32))).toNatClampNeg).toInt ∧ c6.toInt = 0))
    (s7 : ((U (((bs + ((7 : Int32) * sp)) - (1 : Int32))).toNatClampNeg).toInt < w.toInt ∧ c7.toInt = 1) ∨ (w.toInt ≤ (U (((bs + ((7 : Int32) * sp)) - (1 : Int32))).toNatClampNeg).toInt ∧ c7.toInt = 0))
    (ebl : bl = ((((((((0 : Int32) + c1) + c2) + c3) + c4) + c5) + c6) + c7)) (el : l = (if bl = (7 : Int32) then (ln - (bl * sp)) else sp)) (eb : b = (bs + (bl * sp))) : Inv U w f t b l ∧ l.toInt ≤ 8 := by
  obtain ⟨q1, q2, q3⟩ := own_step8 hI hf0 ht16 h8 e
  obtain ⟨a1, a2, a3, a4, a5⟩ := hI
  obtain ⟨S, hS⟩ : ∃ S : Int, S = ln.toInt / 8 := ⟨_, rfl⟩
  rw [← hS] at q3
  have hS12 : S = 1 ∨ S = 2 := by omega
  have S7 : 7 * S ≤ ln.toInt := by omega
  have b0 : 0 ≤ bs.toInt := by omega
  have i1 := own_p1 (k := (1 : Int32)) (kn := 1) rfl q3 (by decide) b0 (by omega) (by omega)
  have i2 := own_p1 (k := (2 : Int32)) (kn := 2) rfl q3 (by decide) b0 (by omega) (by omega)
  have i3 := own_p1 (k := (3 : Int32)) (kn := 3) rfl q3 (by decide) b0 (by omega) (by omega)
  have i4 := own_p1 (k := (4 : Int32)) (kn := 4) rfl q3 (by decide) b0 (by omega) (by omega)
  have i5 := own_p1 (k := (5 : Int32)) (kn := 5) rfl q3 (by decide) b0 (by omega) (by omega)
  have i6 := own_p1 (k := (6 : Int32)) (kn := 6) rfl q3 (by decide) b0 (by omega) (by omega)
  have i7 := own_p1 (k := (7 : Int32)) (kn := 7) rfl q3 (by decide) b0 (by omega) (by omega)
  generalize (((bs + ((1 : Int32) * sp)) - (1 : Int32))).toNatClampNeg = k1 at *
  generalize (((bs + ((2 : Int32) * sp)) - (1 : Int32))).toNatClampNeg = k2 at *
  generalize (((bs + ((3 : Int32) * sp)) - (1 : Int32))).toNatClampNeg = k3 at *
  generalize (((bs + ((4 : Int32) * sp)) - (1 : Int32))).toNatClampNeg = k4 at *
  generalize (((bs + ((5 : Int32) * sp)) - (1 : Int32))).toNatClampNeg = k5 at *
  generalize (((bs + ((6 : Int32) * sp)) - (1 : Int32))).toNatClampNeg = k6 at *
  generalize (((bs + ((7 : Int32) * sp)) - (1 : Int32))).toNatClampNeg = k7 at *
  have m1 := own_cc s1 s2 (hs k1 k2 (by omega) (by omega))
  have m2 := own_cc s2 s3 (hs k2 k3 (by omega) (by omega))
  have m3 := own_cc s3 s4 (hs k3 k4 (by omega) (by omega))
  have m4 := own_cc s4 s5 (hs k4 k5 (by omega) (by omega))
  have m5 := own_cc s5 s6 (hs k5 k6 (by omega) (by omega))
  have m6 := own_cc s6 s7 (hs k6 k7 (by omega) (by omega))
  obtain ⟨z1, o1, n1⟩ := own_c s1
  obtain ⟨z2, o2, n2⟩ := own_c s2
  obtain ⟨z3, o3, n3⟩ := own_c s3
  obtain ⟨z4, o4, n4⟩ := own_c s4
  obtain ⟨z5, o5, n5⟩ := own_c s5
  obtain ⟨z6, o6, n6⟩ := own_c s6
  obtain ⟨z7, o7, n7⟩ := own_c s7
  clear s1 s2 s3 s4 s5 s6 s7 e h8
  obtain ⟨B, hB⟩ : ∃ B : Int, B = c1.toInt + c2.toInt + c3.toInt + c4.toInt + c5.toInt + c6.toInt + c7.toInt := ⟨_, rfl⟩
  have hbl : bl.toInt = B := by
    have z0 : (0 : Int32).toInt = 0 := by decide
    have t1 := own_add z0 (rfl : c1.toInt = _) (by omega) (by omega)
    have t2 := own_add t1 (rfl : c2.toInt = _) (by omega) (by omega)
    have t3 := own_add t2 (rfl : c3.toInt = _) (by omega) (by omega)
    have t4 := own_add t3 (rfl : c4.toInt = _) (by omega) (by omega)
    have t5 := own_add t4 (rfl : c5.toInt = _) (by omega) (by omega)
    have t6 := own_add t5 (rfl : c6.toInt = _) (by omega) (by omega)
    have t7 := own_add t6 (rfl : c7.toInt = _) (by omega) (by omega)
    rw [ebl, t7, hB]; omega
  have B0 : 0 ≤ B ∧ B ≤ 7 := by omega
  have hm : 0 ≤ B * S ∧ B * S ≤ 14 := by rcases hS12 with r | r <;> rw [r] <;> omega
  have hbs := own_mul hbl q3 (by omega) (by omega)
  have hb : b.toInt = bs.toInt + B * S := by rw [eb]; exact own_add rfl hbs (by omega) (by omega)
  have hl : (B = 7 ∧ l.toInt = ln.toInt - B * S) ∨ (B < 7 ∧ l.toInt = S) := by
    by_cases h7 : bl = (7 : Int32)
    · left
      rw [if_pos h7] at el
      refine ⟨by rw [← hbl, h7]; decide, by rw [el]; exact own_sub rfl hbs (by omega) (by omega)⟩
    · right
      rw [if_neg h7] at el
      refine ⟨?_, by rw [el]; exact q3⟩
      have : B ≠ 7 := fun q => h7 (Int32.toInt_inj.mp (by rw [hbl, q]; decide))
      omega
  -- below the new base all are below w; from its end on none is
  have low : ∀ i : Nat, f.toInt ≤ (i : Int) → (i : Int) < bs.toInt + B * S → (U i).toInt < w.toInt := by
    intro i h1 h2
    by_cases hi : (i : Int) < bs.toInt
    · exact a4 i h1 hi
    · have hc : B = 0 ∨ B = 1 ∨ B = 2 ∨ B = 3 ∨ B = 4 ∨ B = 5 ∨ B = 6 ∨ B = 7 := by omega
      rcases hc with r | r | r | r | r | r | r | r <;> rw [r] at h2
      · omega
      · exact Int.lt_of_le_of_lt (hs i k1 (by omega) (by omega)) (o1 (by omega))
      · exact Int.lt_of_le_of_lt (hs i k2 (by omega) (by omega)) (o2 (by omega))
      · exact Int.lt_of_le_of_lt (hs i k3 (by omega) (by omega)) (o3 (by omega))
      · exact Int.lt_of_le_of_lt (hs i k4 (by omega) (by omega)) (o4 (by omega))
      · exact Int.lt_of_le_of_lt (hs i k5 (by omega) (by omega)) (o5 (by omega))
      · exact Int.lt_of_le_of_lt (hs i k6 (by omega) (by omega)) (o6 (by omega))
      · exact Int.lt_of_le_of_lt (hs i k7 (by omega) (by omega)) (o7 (by omega))
  rcases hl with ⟨r7, hl⟩ | ⟨r7, hl⟩
  · have hM : B * S = 7 * S := by rw [r7]
    refine ⟨⟨by omega, by omega, by omega, fun i h1 h2 => low i h1 (by omega), fun i h1 h2 => a5 i (by omega) h2⟩, by omega⟩
  · have hBS : B * S + S ≤ 7 * S := by rcases hS12 with r | r <;> rw [r] <;> omega
    refine ⟨⟨by omega, by omega, by omega, fun i h1 h2 => low i h1 (by omega), fun i h1 h2 => ?_⟩, by omega⟩
    rw [hb, hl] at h1
    have hc : B = 0 ∨ B = 1 ∨ B = 2 ∨ B = 3 ∨ B = 4 ∨ B = 5 ∨ B = 6 := by omega
    rcases hc with r | r | r | r | r | r | r <;> rw [r] at h1
    · exact Int.le_trans (n1 (by omega)) (hs k1 i (by omega) (by omega))
    · exact Int.le_trans (n2 (by omega)) (hs k2 i (by omega) (by omega))
    · exact Int.le_trans (n3 (by omega)) (hs k3 i (by omega) (by omega))
    · exact Int.le_trans (n4 (by omega)) (hs k4 i (by omega) (by omega))
    · exact Int.le_trans (n5 (by omega)) (hs k5 i (by omega) (by omega))
    · exact Int.le_trans (n6 (by omega)) (hs k6 i (by omega) (by omega))
    · exact Int.le_trans (n7 (by omega)) (hs k7 i (by omega) (by omega))
theorem own_le16 {U : Nat → Int64} {w : Int64} {f t bs ln : Int32} (hI : Inv U w f t bs ln) (hf0 : 0 ≤ f.toInt) (ht16 : t.toInt ≤ 16) : ln.toInt ≤ ((16 : Nat) : Int) := by
  obtain ⟨a1, a2, a3, -, -⟩ := hI
  omega
theorem own_i3 {U : Nat → Int64} {w : Int64} {f t bs : Int32} (hI : Inv U w f t bs 1) (hf0 : 0 ≤ f.toInt) (ht16 : t.toInt ≤ 16) : ¬ bs < 0 ∧ bs < (16 : Int32) ∧ (bs).toNatClampNeg < 16 := by
  obtain ⟨a1, a2, a3, -, -⟩ := hI
  have e1 : (1 : Int32).toInt = 1 := by decide
  have := own_place (j := bs) rfl (by omega) (by omega)
  exact ⟨this.1, this.2.1, this.2.2.1⟩
theorem own_end0 {U : Nat → Int64} {w : Int64} {f t bs : Int32} (hI : Inv U w f t bs 0) : Got U w f t bs := by
  obtain ⟨a1, a2, a3, a4, a5⟩ := hI
  have e0 : (0 : Int32).toInt = 0 := by decide
  exact ⟨a1, by omega, a4, fun i h1 h2 => a5 i (by omega) h2⟩
theorem own_end1 {U : Nat → Int64} {w : Int64} {f t bs c : Int32} (hI : Inv U w f t bs 1) (hs : ∀ i j : Nat, i ≤ j → j < 16 → (U i).toInt ≤ (U j).toInt) (hf0 : 0 ≤ f.toInt) (ht16 : t.toInt ≤ 16) (sc : ((U (bs).toNatClampNeg).toInt < w.toInt ∧ c.toInt = 1) ∨ (w.toInt ≤ (U (bs).toNatClampNeg).toInt ∧ c.toInt = 0)) : Got U w f t (bs + c) := by
  obtain ⟨a1, a2, a3, a4, a5⟩ := hI
  have e1 : (1 : Int32).toInt = 1 := by decide
  have hp := (own_place (j := bs) rfl (by omega) (by omega)).2.2.2
  have hc : (bs + c).toInt = bs.toInt + c.toInt := own_add rfl rfl (by omega) (by omega)
  generalize (bs).toNatClampNeg = k at *
  refine ⟨by omega, by omega, fun i h1 h2 => ?_, fun i h1 h2 => ?_⟩
  · by_cases hi : (i : Int) < bs.toInt
    · exact a4 i h1 hi
    · have := hs i k (by omega) (by omega); omega
  · by_cases hi : bs.toInt + 1 ≤ (i : Int)
    · exact a5 i (by omega) h2
    · have := hs k i (by omega) (by omega); omega
theorem own_from {x v : Int32} (e : v = (x &&& (15 : Int32))) : 0 ≤ v.toInt ∧ v.toInt ≤ 15 := by
  have h := c_mask x 15 4 (by decide) (by decide)
  have h' : v.toInt = x.toInt % 16 := by rw [e]; exact h
  omega
theorem own_17 {x v : Int32} (e : v = (x &&& (15 : Int32))) : ((17 : Int32) - v) ≠ 0 := fun q => by
  have := own_from e
  have h : ((17 : Int32) - v).toInt = 17 - v.toInt := own_sub (by decide) rfl (by omega) (by omega)
  rw [q] at h
  have e0 : (0 : Int32).toInt = 0 := by decide
  omega
theorem own_to {x v t : Int32} (e : v = (x &&& (15 : Int32))) (et : t = (v + ((((x.toUInt32 >>> ((4 : Int32) &&& 31).toUInt32).toInt32) &&& (268435455 : Int32)) % ((17 : Int32) - v)))) : v.toInt ≤ t.toInt ∧ t.toInt ≤ 16 := by
  have h := own_from e
  have h17 : ((17 : Int32) - v).toInt = 17 - v.toInt := own_sub (by decide) rfl (by omega) (by omega)
  generalize ((x.toUInt32 >>> ((4 : Int32) &&& 31).toUInt32).toInt32) = y at *
  have hm := c_mask y 268435455 28 (by decide) (by decide)
  have hm0 : 0 ≤ (y &&& (268435455 : Int32)).toInt := by rw [hm]; exact Int.emod_nonneg _ (by decide)
  have hr := (c_iremV (y &&& (268435455 : Int32)) ((17 : Int32) - v)).1 hm0 (by omega)
  have ht : t.toInt = v.toInt + ((y &&& (268435455 : Int32)) % ((17 : Int32) - v)).toInt := by rw [et]; exact own_add rfl rfl (by omega) (by omega)
  omega
theorem own_j {x : Int64} {z : Int32} (e : z = ((x &&& (15 : Int64)).toInt32)) : ¬ z < 0 ∧ z < (16 : Int32) ∧ (z).toNatClampNeg < 16 := by
  have h := c_maskL x 15 4 (by decide) (by decide)
  have h2 := c_l2i (x &&& 15)
  have r := rng32 z
  rw [← e, h] at h2
  have e16 : ((2 ^ 4 : Nat) : Int) = 16 := by decide
  rw [e16] at h2
  have := own_place (j := z) rfl (by omega) (by omega)
  exact ⟨this.1, this.2.1, this.2.2.1⟩
theorem own_at {us : List Int64} {i : Nat} (hi : i < 16) : (us.map Value.long).getD i (.long (0 : Int64)) = .long (us.getD i 0) := by
  simp only [List.getD_eq_getElem?_getD, List.getElem?_map]
  cases us[i]? <;> rfl
theorem own_mono (U : Nat → Int64) (h : ∀ i : Nat, i < 15 → (U i).toInt ≤ (U (i + 1)).toInt) : ∀ i j : Nat, i ≤ j → j < 16 → (U i).toInt ≤ (U j).toInt := by
  intro i j hij hj
  induction j with
  | zero => have : i = 0 := by omega
            subst this; exact Int.le_refl _
  | succ j ih =>
    by_cases q : i = j + 1
    · subst q; exact Int.le_refl _
    · exact Int.le_trans (ih (by omega) (by omega)) (h j (by omega))
theorem own_raw (x : Int64) : 0 ≤ (x &&& (9223372036854775807 : Int64)).toInt := by
  have h := c_maskL x 9223372036854775807 63 (by decide) (by decide)
  rw [h]; exact Int.emod_nonneg _ (by decide)
theorem own_base {x v : Int64} (e : v = (x &&& (9223372036854775807 : Int64))) : 0 ≤ v.toInt := by rw [e]; exact own_raw x
theorem d1_0 : decode method_3_code 0 = .ok (.lload_n 2, 1) := by decide +kernel
theorem d1_1 : decode method_3_code 1 = .ok (.iconst 4, 1) := by decide +kernel
theorem d1_2 : decode method_3_code 2 = .ok (.iload 4, 2) := by decide +kernel
theorem d1_4 : decode method_3_code 4 = .ok (.imul, 1) := by decide +kernel
theorem d1_5 : decode method_3_code 5 = .ok (.lushr, 1) := by decide +kernel
theorem d1_6 : decode method_3_code 6 = .ok (.ldc2_w 22, 3) := by decide +kernel
theorem d1_9 : decode method_3_code 9 = .ok (.land, 1) := by decide +kernel
theorem d1_10 : decode method_3_code 10 = .ok (.iload 5, 2) := by decide +kernel
theorem d1_12 : decode method_3_code 12 = .ok (.lshl, 1) := by decide +kernel
theorem d1_13 : decode method_3_code 13 = .ok (.lstore 6, 2) := by decide +kernel
theorem d1_15 : decode method_3_code 15 = .ok (.lload_n 0, 1) := by decide +kernel
theorem d1_16 : decode method_3_code 16 = .ok (.ldc2_w 10, 3) := by decide +kernel
theorem d1_19 : decode method_3_code 19 = .ok (.lload 6, 2) := by decide +kernel
theorem d1_21 : decode method_3_code 21 = .ok (.lsub, 1) := by decide +kernel
theorem d1_22 : decode method_3_code 22 = .ok (.lcmp, 1) := by decide +kernel
theorem d1_23 : decode method_3_code 23 = .ok (.ifCond .le 9, 3) := by decide +kernel
theorem d1_26 : decode method_3_code 26 = .ok (.ldc2_w 10, 3) := by decide +kernel
theorem d1_29 : decode method_3_code 29 = .ok (.goto 7, 3) := by decide +kernel
theorem d1_36 : decode method_3_code 36 = .ok (.lreturn, 1) := by decide +kernel
theorem d1_32 : decode method_3_code 32 = .ok (.lload_n 0, 1) := by decide +kernel
theorem d1_33 : decode method_3_code 33 = .ok (.lload 6, 2) := by decide +kernel
theorem d1_35 : decode method_3_code 35 = .ok (.ladd, 1) := by decide +kernel
def nextF (q0 : Int64) (q1 : Int64) (p2 : Int32) (p3 : Int32) : Int64 := (if ((9223372036854775807 : Int64) - ((((q1.toUInt64 >>> (((4 : Int32) * p2) &&& 0x3f).toInt64.toUInt64).toInt64) &&& (15 : Int64)) <<< (p3 &&& 0x3f).toInt64)) < q0 then (9223372036854775807 : Int64) else (q0 + ((((q1.toUInt64 >>> (((4 : Int32) * p2) &&& 0x3f).toInt64.toUInt64).toInt64) &&& (15 : Int64)) <<< (p3 &&& 0x3f).toInt64)))
def Q1 (Z : State) (q0 : Int64) (q1 : Int64) (p2 : Int32) (p3 : Int32) (h0 : Heap) (n0 : Nat) (v : Option Value) (h : Heap) (L : List Loc) : Prop := v = some (.long (nextF q0 q1 p2 p3)) ∧ Fr n0 L ∧ h = h0
theorem pn_com_example_copyleaf_copyleaf_page_PageFirstAtLeastPinLaw : plainName "com/example/copyleaf/copyleaf/page/PageFirstAtLeastPinLaw" = true := by first | (simp [plainName, overriddenIn]; done) | decide +kernel
theorem ef_1 (m : MethodId) (q0 : Int64) (q1 : Int64) (p2 : Int32) (p3 : Int32) : entryFrame m #[(.long q0), (.long q1), (.int p2), (.int p3)] 8 = mkF m 0 #[.val (.long q0), .second, .val (.long q1), .second, .val (.int p2), .val (.int p3), .unset, .unset] [] := by first | (simp [entryFrame, mkF, argsToLocals, Value.category]; done) | rfl
set_option maxRecDepth 65536 in
set_option maxHeartbeats 40000000 in
theorem rm1 (l : Launch) (Z : State) (a0 : Array Value) (hw : ∀ d ∈ tables_1, d.before a0 Z = true) (ws : List Jvm.Cond) (q0 : Int64) (q1 : Int64) (p2 : Int32) (p3 : Int32)  (h0 : Heap) (n0 : Nat) (Z0 : n0 ≤ h0.size)  :
    MetFree l (⟨"com/example/copyleaf/copyleaf/page/PageFirstAtLeastPinLaw", "next", "(JJII)J"⟩ : MethodName) (head1 (Jvm.Cond.code (⟨"com/example/copyleaf/copyleaf/page/PageFirstAtLeastPinLaw", "next", "(JJII)J"⟩ : MethodName) method_3_code 8 (some .long) :: ws) ({ frames := 0, cells := 0, slots := 0, locals := 0 } : Room)) (fun a U => a = #[(.long q0), (.long q1), (.int p2), (.int p3)] ∧ Z.Warmed39 U.vm ∧ U.heap = h0) (fun _ _ _ _ _ => True) (fun _ U o U' => ∃ v L, o = .returned v ∧ Q1 Z q0 q1 p2 p3 h0 n0 v U'.heap L ∧ FrameEnd U o U' L ({ frames := 0, cells := 0, slots := 0, locals := 0 } : Room).cells ({ frames := 0, cells := 0, slots := 0, locals := 0 } : Room).slots) := by
  refine MetFree.of_bodySF (plainFor_of_name pn_com_example_copyleaf_copyleaf_page_PageFirstAtLeastPinLaw) hisR ?_
  intro p e s m args below meth c s₁ Bd hml0 hP hK
  obtain ⟨rfl, hZ, hh⟩ := hP
  have hx := Bd.exec
  have hby := Bd.bytes
  have hml : c.maxLocals = 8 := hml0
  have hown : s.vm.findClass "com/example/copyleaf/copyleaf/page/PageFirstAtLeastPinLaw" = some m.cls := findClass_of_methodNamed Bd.named
  have hnm := (name_of_methodNamed Bd.named Bd.method).1
  have X0 : Stand p l e ({ frames := 0, cells := 0, slots := 0, locals := 0 } : Room) s m #[(.long q0), (.long q1), (.int p2), (.int p3)] below meth c s₁ [] 0 0 := Stand.of_body Bd
  have e0 : s₁.heap = h0 := by rw [← hh, Bd.state]; rfl
  have N0 := Fr.nil n0
  have pre0 : ∀ t, Steps p.tables e below (s₁.setTop (mkF m 0 #[.val (.long q0), .second, .val (.long q1), .second, .val (.int p2), .val (.int p3), .unset, .unset] [])) t → Steps p.tables e below (s₁.setTop (entryFrame m #[(.long q0), (.long q1), (.int p2), (.int p3)] 8)) t := fun t k => castTop (ef_1 m q0 q1 p2 p3) k
  have pre1 : ∀ t, Steps p.tables e below (s₁.setTop (mkF m 23 #[.val (.long q0), .second, .val (.long q1), .second, .val (.int p2), .val (.int p3), .val (.long ((((q1.toUInt64 >>> (((4 : Int32) * p2) &&& 0x3f).toInt64.toUInt64).toInt64) &&& (15 : Int64)) <<< (p3 &&& 0x3f).toInt64)), .second] [(.int (lcmpW q0 ((9223372036854775807 : Int64) - ((((q1.toUInt64 >>> (((4 : Int32) * p2) &&& 0x3f).toInt64.toUInt64).toInt64) &&& (15 : Int64)) <<< (p3 &&& 0x3f).toInt64))))])) t → Steps p.tables e below (s₁.setTop (entryFrame m #[(.long q0), (.long q1), (.int p2), (.int p3)] 8)) t := fun t kk => pre0 t (by
    show Steps p.tables e below (s₁.setTop (mkF m 0 #[.val (.long q0), .second, .val (.long q1), .second, .val (.int p2), .val (.int p3), .unset, .unset] [])) _
    refine XS.lloadN X0.here hx rfl (hb hby d1_0) rfl ?_
    show Steps p.tables e below (s₁.setTop (mkF m 1 #[.val (.long q0), .second, .val (.long q1), .second, .val (.int p2), .val (.int p3), .unset, .unset] [(.long q1)])) _
    refine XS.iconst X0.here hx rfl (hb hby d1_1) ?_
    show Steps p.tables e below (s₁.setTop (mkF m 2 #[.val (.long q0), .second, .val (.long q1), .second, .val (.int p2), .val (.int p3), .unset, .unset] [(.int (4 : Int32)), (.long q1)])) _
    refine XS.iload X0.here hx rfl (hb hby d1_2) rfl ?_
    show Steps p.tables e below (s₁.setTop (mkF m 4 #[.val (.long q0), .second, .val (.long q1), .second, .val (.int p2), .val (.int p3), .unset, .unset] [(.int p2), (.int (4 : Int32)), (.long q1)])) _
    refine XS.imul X0.here hx rfl (hb hby d1_4) rfl ?_
    show Steps p.tables e below (s₁.setTop (mkF m 5 #[.val (.long q0), .second, .val (.long q1), .second, .val (.int p2), .val (.int p3), .unset, .unset] [(.int ((4 : Int32) * p2)), (.long q1)])) _
    refine XS.lushr X0.here hx rfl (hb hby d1_5) rfl ?_
    show Steps p.tables e below (s₁.setTop (mkF m 6 #[.val (.long q0), .second, .val (.long q1), .second, .val (.int p2), .val (.int p3), .unset, .unset] [(.long ((q1.toUInt64 >>> (((4 : Int32) * p2) &&& 0x3f).toInt64.toUInt64).toInt64))])) _
    refine X0.ldc2Long hx hown (mvT hZ (hw _ (List.mem_of_getElem? (i := 7) rfl))) (g := (mkF m 6 #[.val (.long q0), .second, .val (.long q1), .second, .val (.int p2), .val (.int p3), .unset, .unset] [(.long ((q1.toUInt64 >>> (((4 : Int32) * p2) &&& 0x3f).toInt64.toUInt64).toInt64))])) rfl (hb hby d1_6) _ ?_
    show Steps p.tables e below (s₁.setTop (mkF m 9 #[.val (.long q0), .second, .val (.long q1), .second, .val (.int p2), .val (.int p3), .unset, .unset] [(.long (15 : Int64)), (.long ((q1.toUInt64 >>> (((4 : Int32) * p2) &&& 0x3f).toInt64.toUInt64).toInt64))])) _
    refine XS.land X0.here hx rfl (hb hby d1_9) rfl ?_
    show Steps p.tables e below (s₁.setTop (mkF m 10 #[.val (.long q0), .second, .val (.long q1), .second, .val (.int p2), .val (.int p3), .unset, .unset] [(.long (((q1.toUInt64 >>> (((4 : Int32) * p2) &&& 0x3f).toInt64.toUInt64).toInt64) &&& (15 : Int64)))])) _
    refine XS.iload X0.here hx rfl (hb hby d1_10) rfl ?_
    show Steps p.tables e below (s₁.setTop (mkF m 12 #[.val (.long q0), .second, .val (.long q1), .second, .val (.int p2), .val (.int p3), .unset, .unset] [(.int p3), (.long (((q1.toUInt64 >>> (((4 : Int32) * p2) &&& 0x3f).toInt64.toUInt64).toInt64) &&& (15 : Int64)))])) _
    refine XS.lshl X0.here hx rfl (hb hby d1_12) rfl ?_
    show Steps p.tables e below (s₁.setTop (mkF m 13 #[.val (.long q0), .second, .val (.long q1), .second, .val (.int p2), .val (.int p3), .unset, .unset] [(.long ((((q1.toUInt64 >>> (((4 : Int32) * p2) &&& 0x3f).toInt64.toUInt64).toInt64) &&& (15 : Int64)) <<< (p3 &&& 0x3f).toInt64))])) _
    refine XS.lstore X0.here hx rfl (hb hby d1_13) rfl (l' := #[.val (.long q0), .second, .val (.long q1), .second, .val (.int p2), .val (.int p3), .val (.long ((((q1.toUInt64 >>> (((4 : Int32) * p2) &&& 0x3f).toInt64.toUInt64).toInt64) &&& (15 : Int64)) <<< (p3 &&& 0x3f).toInt64)), .second]) rfl ?_
    show Steps p.tables e below (s₁.setTop (mkF m 15 #[.val (.long q0), .second, .val (.long q1), .second, .val (.int p2), .val (.int p3), .val (.long ((((q1.toUInt64 >>> (((4 : Int32) * p2) &&& 0x3f).toInt64.toUInt64).toInt64) &&& (15 : Int64)) <<< (p3 &&& 0x3f).toInt64)), .second] [])) _
    refine XS.lloadN X0.here hx rfl (hb hby d1_15) rfl ?_
    show Steps p.tables e below (s₁.setTop (mkF m 16 #[.val (.long q0), .second, .val (.long q1), .second, .val (.int p2), .val (.int p3), .val (.long ((((q1.toUInt64 >>> (((4 : Int32) * p2) &&& 0x3f).toInt64.toUInt64).toInt64) &&& (15 : Int64)) <<< (p3 &&& 0x3f).toInt64)), .second] [(.long q0)])) _
    refine X0.ldc2Long hx hown (mvT hZ (hw _ (List.mem_of_getElem? (i := 2) rfl))) (g := (mkF m 16 #[.val (.long q0), .second, .val (.long q1), .second, .val (.int p2), .val (.int p3), .val (.long ((((q1.toUInt64 >>> (((4 : Int32) * p2) &&& 0x3f).toInt64.toUInt64).toInt64) &&& (15 : Int64)) <<< (p3 &&& 0x3f).toInt64)), .second] [(.long q0)])) rfl (hb hby d1_16) _ ?_
    show Steps p.tables e below (s₁.setTop (mkF m 19 #[.val (.long q0), .second, .val (.long q1), .second, .val (.int p2), .val (.int p3), .val (.long ((((q1.toUInt64 >>> (((4 : Int32) * p2) &&& 0x3f).toInt64.toUInt64).toInt64) &&& (15 : Int64)) <<< (p3 &&& 0x3f).toInt64)), .second] [(.long (9223372036854775807 : Int64)), (.long q0)])) _
    refine XS.lload X0.here hx rfl (hb hby d1_19) rfl ?_
    show Steps p.tables e below (s₁.setTop (mkF m 21 #[.val (.long q0), .second, .val (.long q1), .second, .val (.int p2), .val (.int p3), .val (.long ((((q1.toUInt64 >>> (((4 : Int32) * p2) &&& 0x3f).toInt64.toUInt64).toInt64) &&& (15 : Int64)) <<< (p3 &&& 0x3f).toInt64)), .second] [(.long ((((q1.toUInt64 >>> (((4 : Int32) * p2) &&& 0x3f).toInt64.toUInt64).toInt64) &&& (15 : Int64)) <<< (p3 &&& 0x3f).toInt64)), (.long (9223372036854775807 : Int64)), (.long q0)])) _
    refine XS.lsub X0.here hx rfl (hb hby d1_21) rfl ?_
    show Steps p.tables e below (s₁.setTop (mkF m 22 #[.val (.long q0), .second, .val (.long q1), .second, .val (.int p2), .val (.int p3), .val (.long ((((q1.toUInt64 >>> (((4 : Int32) * p2) &&& 0x3f).toInt64.toUInt64).toInt64) &&& (15 : Int64)) <<< (p3 &&& 0x3f).toInt64)), .second] [(.long ((9223372036854775807 : Int64) - ((((q1.toUInt64 >>> (((4 : Int32) * p2) &&& 0x3f).toInt64.toUInt64).toInt64) &&& (15 : Int64)) <<< (p3 &&& 0x3f).toInt64))), (.long q0)])) _
    refine XS.lcmp X0.here hx rfl (hb hby d1_22) rfl ?_
    exact kk)
  by_cases hc2 : ((9223372036854775807 : Int64) - ((((q1.toUInt64 >>> (((4 : Int32) * p2) &&& 0x3f).toInt64.toUInt64).toInt64) &&& (15 : Int64)) <<< (p3 &&& 0x3f).toInt64)) < q0
  · obtain ⟨fs, hr, hrun, hended, hW, hsame⟩ := X0.leave (v := some (.long (9223372036854775807 : Int64))) (fun h => by rw [Bd.returns] at h; cases h)
    refine ⟨_, _, pre1 _ ?_, hrun, hended, _, _, rfl, ?_, ⟨_, rfl⟩, hW, hsame.mono (by decide) (by decide)⟩
    · show Steps p.tables e below (s₁.setTop (mkF m 23 #[.val (.long q0), .second, .val (.long q1), .second, .val (.int p2), .val (.int p3), .val (.long ((((q1.toUInt64 >>> (((4 : Int32) * p2) &&& 0x3f).toInt64.toUInt64).toInt64) &&& (15 : Int64)) <<< (p3 &&& 0x3f).toInt64)), .second] [(.int (lcmpW q0 ((9223372036854775807 : Int64) - ((((q1.toUInt64 >>> (((4 : Int32) * p2) &&& 0x3f).toInt64.toUInt64).toInt64) &&& (15 : Int64)) <<< (p3 &&& 0x3f).toInt64))))])) _
      refine XS.ifNo X0.here hx rfl (hb hby d1_23) rfl ((if0 _ _).trans (tlt ((lw_gt _ _).mpr hc2)).2.2.2) ?_
      show Steps p.tables e below (s₁.setTop (mkF m 26 #[.val (.long q0), .second, .val (.long q1), .second, .val (.int p2), .val (.int p3), .val (.long ((((q1.toUInt64 >>> (((4 : Int32) * p2) &&& 0x3f).toInt64.toUInt64).toInt64) &&& (15 : Int64)) <<< (p3 &&& 0x3f).toInt64)), .second] [])) _
      refine X0.ldc2Long hx hown (mvT hZ (hw _ (List.mem_of_getElem? (i := 2) rfl))) (g := (mkF m 26 #[.val (.long q0), .second, .val (.long q1), .second, .val (.int p2), .val (.int p3), .val (.long ((((q1.toUInt64 >>> (((4 : Int32) * p2) &&& 0x3f).toInt64.toUInt64).toInt64) &&& (15 : Int64)) <<< (p3 &&& 0x3f).toInt64)), .second] [])) rfl (hb hby d1_26) _ ?_
      show Steps p.tables e below (s₁.setTop (mkF m 29 #[.val (.long q0), .second, .val (.long q1), .second, .val (.int p2), .val (.int p3), .val (.long ((((q1.toUInt64 >>> (((4 : Int32) * p2) &&& 0x3f).toInt64.toUInt64).toInt64) &&& (15 : Int64)) <<< (p3 &&& 0x3f).toInt64)), .second] [(.long (9223372036854775807 : Int64))])) _
      refine XS.goto X0.here hx rfl (pc0 := 29) (pc' := 36) rfl (hb hby d1_29) (by decide) (by decide) ?_
      show Steps p.tables e below (s₁.setTop (mkF m 36 #[.val (.long q0), .second, .val (.long q1), .second, .val (.int p2), .val (.int p3), .val (.long ((((q1.toUInt64 >>> (((4 : Int32) * p2) &&& 0x3f).toInt64.toUInt64).toInt64) &&& (15 : Int64)) <<< (p3 &&& 0x3f).toInt64)), .second] [(.long (9223372036854775807 : Int64))])) _
      exact retJ X0 hx Bd.returns (hb hby d1_36) hr
    · show Q1 Z q0 q1 p2 p3 h0 n0 _ s₁.heap _
      rw [e0]
      exact ⟨congrArg (fun z => some (Value.long z)) (by unfold nextF; rw [if_pos hc2]), N0, rfl⟩
  · obtain ⟨fs, hr, hrun, hended, hW, hsame⟩ := X0.leave (v := some (.long (q0 + ((((q1.toUInt64 >>> (((4 : Int32) * p2) &&& 0x3f).toInt64.toUInt64).toInt64) &&& (15 : Int64)) <<< (p3 &&& 0x3f).toInt64)))) (fun h => by rw [Bd.returns] at h; cases h)
    refine ⟨_, _, pre1 _ ?_, hrun, hended, _, _, rfl, ?_, ⟨_, rfl⟩, hW, hsame.mono (by decide) (by decide)⟩
    · show Steps p.tables e below (s₁.setTop (mkF m 23 #[.val (.long q0), .second, .val (.long q1), .second, .val (.int p2), .val (.int p3), .val (.long ((((q1.toUInt64 >>> (((4 : Int32) * p2) &&& 0x3f).toInt64.toUInt64).toInt64) &&& (15 : Int64)) <<< (p3 &&& 0x3f).toInt64)), .second] [(.int (lcmpW q0 ((9223372036854775807 : Int64) - ((((q1.toUInt64 >>> (((4 : Int32) * p2) &&& 0x3f).toInt64.toUInt64).toInt64) &&& (15 : Int64)) <<< (p3 &&& 0x3f).toInt64))))])) _
      refine XS.ifYes X0.here hx rfl (pc0 := 23) (pc' := 32) rfl (hb hby d1_23) rfl ((if0 _ _).trans (flt (fun q => hc2 ((lw_gt _ _).mp q))).2.2.2) (by decide) (by decide) ?_
      show Steps p.tables e below (s₁.setTop (mkF m 32 #[.val (.long q0), .second, .val (.long q1), .second, .val (.int p2), .val (.int p3), .val (.long ((((q1.toUInt64 >>> (((4 : Int32) * p2) &&& 0x3f).toInt64.toUInt64).toInt64) &&& (15 : Int64)) <<< (p3 &&& 0x3f).toInt64)), .second] [])) _
      refine XS.lloadN X0.here hx rfl (hb hby d1_32) rfl ?_
      show Steps p.tables e below (s₁.setTop (mkF m 33 #[.val (.long q0), .second, .val (.long q1), .second, .val (.int p2), .val (.int p3), .val (.long ((((q1.toUInt64 >>> (((4 : Int32) * p2) &&& 0x3f).toInt64.toUInt64).toInt64) &&& (15 : Int64)) <<< (p3 &&& 0x3f).toInt64)), .second] [(.long q0)])) _
      refine XS.lload X0.here hx rfl (hb hby d1_33) rfl ?_
      show Steps p.tables e below (s₁.setTop (mkF m 35 #[.val (.long q0), .second, .val (.long q1), .second, .val (.int p2), .val (.int p3), .val (.long ((((q1.toUInt64 >>> (((4 : Int32) * p2) &&& 0x3f).toInt64.toUInt64).toInt64) &&& (15 : Int64)) <<< (p3 &&& 0x3f).toInt64)), .second] [(.long ((((q1.toUInt64 >>> (((4 : Int32) * p2) &&& 0x3f).toInt64.toUInt64).toInt64) &&& (15 : Int64)) <<< (p3 &&& 0x3f).toInt64)), (.long q0)])) _
      refine XS.ladd X0.here hx rfl (hb hby d1_35) rfl ?_
      show Steps p.tables e below (s₁.setTop (mkF m 36 #[.val (.long q0), .second, .val (.long q1), .second, .val (.int p2), .val (.int p3), .val (.long ((((q1.toUInt64 >>> (((4 : Int32) * p2) &&& 0x3f).toInt64.toUInt64).toInt64) &&& (15 : Int64)) <<< (p3 &&& 0x3f).toInt64)), .second] [(.long (q0 + ((((q1.toUInt64 >>> (((4 : Int32) * p2) &&& 0x3f).toInt64.toUInt64).toInt64) &&& (15 : Int64)) <<< (p3 &&& 0x3f).toInt64)))])) _
      exact retJ X0 hx Bd.returns (hb hby d1_36) hr
    · show Q1 Z q0 q1 p2 p3 h0 n0 _ s₁.heap _
      rw [e0]
      exact ⟨congrArg (fun z => some (Value.long z)) (by unfold nextF; rw [if_neg hc2]), N0, rfl⟩
theorem d5_0 : decode method_5_code 0 = .ok (.iload_n 2, 1) := by decide +kernel
theorem d5_1 : decode method_5_code 1 = .ok (.ifCond .ge 17, 3) := by decide +kernel
theorem d5_4 : decode method_5_code 4 = .ok (.lload_n 0, 1) := by decide +kernel
theorem d5_5 : decode method_5_code 5 = .ok (.lconst 0, 1) := by decide +kernel
theorem d5_6 : decode method_5_code 6 = .ok (.lcmp, 1) := by decide +kernel
theorem d5_7 : decode method_5_code 7 = .ok (.ifCond .ne 7, 3) := by decide +kernel
theorem d5_10 : decode method_5_code 10 = .ok (.lconst 0, 1) := by decide +kernel
theorem d5_11 : decode method_5_code 11 = .ok (.goto 6, 3) := by decide +kernel
theorem d5_17 : decode method_5_code 17 = .ok (.lreturn, 1) := by decide +kernel
theorem d5_14 : decode method_5_code 14 = .ok (.lload_n 0, 1) := by decide +kernel
theorem d5_15 : decode method_5_code 15 = .ok (.lconst 1, 1) := by decide +kernel
theorem d5_16 : decode method_5_code 16 = .ok (.lsub, 1) := by decide +kernel
theorem d5_18 : decode method_5_code 18 = .ok (.lload_n 0, 1) := by decide +kernel
theorem d5_19 : decode method_5_code 19 = .ok (.ldc2_w 10, 3) := by decide +kernel
theorem d5_22 : decode method_5_code 22 = .ok (.iload_n 2, 1) := by decide +kernel
theorem d5_23 : decode method_5_code 23 = .ok (.i2l, 1) := by decide +kernel
theorem d5_24 : decode method_5_code 24 = .ok (.lsub, 1) := by decide +kernel
theorem d5_25 : decode method_5_code 25 = .ok (.lcmp, 1) := by decide +kernel
theorem d5_26 : decode method_5_code 26 = .ok (.ifCond .le 9, 3) := by decide +kernel
theorem d5_29 : decode method_5_code 29 = .ok (.ldc2_w 10, 3) := by decide +kernel
theorem d5_32 : decode method_5_code 32 = .ok (.goto 7, 3) := by decide +kernel
theorem d5_39 : decode method_5_code 39 = .ok (.lreturn, 1) := by decide +kernel
theorem d5_35 : decode method_5_code 35 = .ok (.lload_n 0, 1) := by decide +kernel
theorem d5_36 : decode method_5_code 36 = .ok (.iload_n 2, 1) := by decide +kernel
theorem d5_37 : decode method_5_code 37 = .ok (.i2l, 1) := by decide +kernel
theorem d5_38 : decode method_5_code 38 = .ok (.ladd, 1) := by decide +kernel
def shiftF (q0 : Int64) (p1 : Int32) : Int64 := (if p1 < (0 : Int32) then (if q0 = (0 : Int64) then (0 : Int64) else (q0 - (1 : Int64))) else (if ((9223372036854775807 : Int64) - (p1.toInt64)) < q0 then (9223372036854775807 : Int64) else (q0 + (p1.toInt64))))
def Q5 (Z : State) (q0 : Int64) (p1 : Int32) (h0 : Heap) (n0 : Nat) (v : Option Value) (h : Heap) (L : List Loc) : Prop := v = some (.long (shiftF q0 p1)) ∧ Fr n0 L ∧ h = h0
theorem ef_5 (m : MethodId) (q0 : Int64) (p1 : Int32) : entryFrame m #[(.long q0), (.int p1)] 3 = mkF m 0 #[.val (.long q0), .second, .val (.int p1)] [] := by first | (simp [entryFrame, mkF, argsToLocals, Value.category]; done) | rfl
set_option maxRecDepth 65536 in
set_option maxHeartbeats 40000000 in
theorem rm5 (l : Launch) (Z : State) (a0 : Array Value) (hw : ∀ d ∈ tables_1, d.before a0 Z = true) (ws : List Jvm.Cond) (q0 : Int64) (p1 : Int32)  (h0 : Heap) (n0 : Nat) (Z0 : n0 ≤ h0.size)  :
    MetFree l (⟨"com/example/copyleaf/copyleaf/page/PageFirstAtLeastPinLaw", "shifted", "(JI)J"⟩ : MethodName) (head1 (Jvm.Cond.code (⟨"com/example/copyleaf/copyleaf/page/PageFirstAtLeastPinLaw", "shifted", "(JI)J"⟩ : MethodName) method_5_code 3 (some .long) :: ws) ({ frames := 0, cells := 0, slots := 0, locals := 0 } : Room)) (fun a U => a = #[(.long q0), (.int p1)] ∧ Z.Warmed39 U.vm ∧ U.heap = h0) (fun _ _ _ _ _ => True) (fun _ U o U' => ∃ v L, o = .returned v ∧ Q5 Z q0 p1 h0 n0 v U'.heap L ∧ FrameEnd U o U' L ({ frames := 0, cells := 0, slots := 0, locals := 0 } : Room).cells ({ frames := 0, cells := 0, slots := 0, locals := 0 } : Room).slots) := by
  refine MetFree.of_bodySF (plainFor_of_name pn_com_example_copyleaf_copyleaf_page_PageFirstAtLeastPinLaw) hisR ?_
  intro p e s m args below meth c s₁ Bd hml0 hP hK
  obtain ⟨rfl, hZ, hh⟩ := hP
  have hx := Bd.exec
  have hby := Bd.bytes
  have hml : c.maxLocals = 3 := hml0
  have hown : s.vm.findClass "com/example/copyleaf/copyleaf/page/PageFirstAtLeastPinLaw" = some m.cls := findClass_of_methodNamed Bd.named
  have hnm := (name_of_methodNamed Bd.named Bd.method).1
  have X0 : Stand p l e ({ frames := 0, cells := 0, slots := 0, locals := 0 } : Room) s m #[(.long q0), (.int p1)] below meth c s₁ [] 0 0 := Stand.of_body Bd
  have e0 : s₁.heap = h0 := by rw [← hh, Bd.state]; rfl
  have N0 := Fr.nil n0
  have pre0 : ∀ t, Steps p.tables e below (s₁.setTop (mkF m 0 #[.val (.long q0), .second, .val (.int p1)] [])) t → Steps p.tables e below (s₁.setTop (entryFrame m #[(.long q0), (.int p1)] 3)) t := fun t k => castTop (ef_5 m q0 p1) k
  have pre1 : ∀ t, Steps p.tables e below (s₁.setTop (mkF m 1 #[.val (.long q0), .second, .val (.int p1)] [(.int p1)])) t → Steps p.tables e below (s₁.setTop (entryFrame m #[(.long q0), (.int p1)] 3)) t := fun t kk => pre0 t (by
    show Steps p.tables e below (s₁.setTop (mkF m 0 #[.val (.long q0), .second, .val (.int p1)] [])) _
    refine XS.iloadN X0.here hx rfl (hb hby d5_0) rfl ?_
    exact kk)
  by_cases hc2 : p1 < (0 : Int32)
  · have pre3 : ∀ t, Steps p.tables e below (s₁.setTop (mkF m 7 #[.val (.long q0), .second, .val (.int p1)] [(.int (lcmpW q0 (0 : Int64)))])) t → Steps p.tables e below (s₁.setTop (entryFrame m #[(.long q0), (.int p1)] 3)) t := fun t kk => pre1 t (by
      show Steps p.tables e below (s₁.setTop (mkF m 1 #[.val (.long q0), .second, .val (.int p1)] [(.int p1)])) _
      refine XS.ifNo X0.here hx rfl (hb hby d5_1) rfl ((if0 _ _).trans (tlt hc2).2.1) ?_
      show Steps p.tables e below (s₁.setTop (mkF m 4 #[.val (.long q0), .second, .val (.int p1)] [])) _
      refine XS.lloadN X0.here hx rfl (hb hby d5_4) rfl ?_
      show Steps p.tables e below (s₁.setTop (mkF m 5 #[.val (.long q0), .second, .val (.int p1)] [(.long q0)])) _
      refine XS.lconst X0.here hx rfl (hb hby d5_5) ?_
      show Steps p.tables e below (s₁.setTop (mkF m 6 #[.val (.long q0), .second, .val (.int p1)] [(.long (0 : Int64)), (.long q0)])) _
      refine XS.lcmp X0.here hx rfl (hb hby d5_6) rfl ?_
      exact kk)
    by_cases hc4 : q0 = (0 : Int64)
    · obtain ⟨fs, hr, hrun, hended, hW, hsame⟩ := X0.leave (v := some (.long (0 : Int64))) (fun h => by rw [Bd.returns] at h; cases h)
      refine ⟨_, _, pre3 _ ?_, hrun, hended, _, _, rfl, ?_, ⟨_, rfl⟩, hW, hsame.mono (by decide) (by decide)⟩
      · show Steps p.tables e below (s₁.setTop (mkF m 7 #[.val (.long q0), .second, .val (.int p1)] [(.int (lcmpW q0 (0 : Int64)))])) _
        refine XS.ifNo X0.here hx rfl (hb hby d5_7) rfl ((if0 _ _).trans (teq ((lw_eq _ _).mpr hc4)).2) ?_
        show Steps p.tables e below (s₁.setTop (mkF m 10 #[.val (.long q0), .second, .val (.int p1)] [])) _
        refine XS.lconst X0.here hx rfl (hb hby d5_10) ?_
        show Steps p.tables e below (s₁.setTop (mkF m 11 #[.val (.long q0), .second, .val (.int p1)] [(.long (0 : Int64))])) _
        refine XS.goto X0.here hx rfl (pc0 := 11) (pc' := 17) rfl (hb hby d5_11) (by decide) (by decide) ?_
        show Steps p.tables e below (s₁.setTop (mkF m 17 #[.val (.long q0), .second, .val (.int p1)] [(.long (0 : Int64))])) _
        exact retJ X0 hx Bd.returns (hb hby d5_17) hr
      · show Q5 Z q0 p1 h0 n0 _ s₁.heap _
        rw [e0]
        exact ⟨congrArg (fun z => some (Value.long z)) (by unfold shiftF; rw [if_pos hc2, if_pos hc4]), N0, rfl⟩
    · obtain ⟨fs, hr, hrun, hended, hW, hsame⟩ := X0.leave (v := some (.long (q0 - (1 : Int64)))) (fun h => by rw [Bd.returns] at h; cases h)
      refine ⟨_, _, pre3 _ ?_, hrun, hended, _, _, rfl, ?_, ⟨_, rfl⟩, hW, hsame.mono (by decide) (by decide)⟩
      · show Steps p.tables e below (s₁.setTop (mkF m 7 #[.val (.long q0), .second, .val (.int p1)] [(.int (lcmpW q0 (0 : Int64)))])) _
        refine XS.ifYes X0.here hx rfl (pc0 := 7) (pc' := 14) rfl (hb hby d5_7) rfl ((if0 _ _).trans (feq (fun q => hc4 ((lw_eq _ _).mp q))).2) (by decide) (by decide) ?_
        show Steps p.tables e below (s₁.setTop (mkF m 14 #[.val (.long q0), .second, .val (.int p1)] [])) _
        refine XS.lloadN X0.here hx rfl (hb hby d5_14) rfl ?_
        show Steps p.tables e below (s₁.setTop (mkF m 15 #[.val (.long q0), .second, .val (.int p1)] [(.long q0)])) _
        refine XS.lconst X0.here hx rfl (hb hby d5_15) ?_
        show Steps p.tables e below (s₁.setTop (mkF m 16 #[.val (.long q0), .second, .val (.int p1)] [(.long (1 : Int64)), (.long q0)])) _
        refine XS.lsub X0.here hx rfl (hb hby d5_16) rfl ?_
        show Steps p.tables e below (s₁.setTop (mkF m 17 #[.val (.long q0), .second, .val (.int p1)] [(.long (q0 - (1 : Int64)))])) _
        exact retJ X0 hx Bd.returns (hb hby d5_17) hr
      · show Q5 Z q0 p1 h0 n0 _ s₁.heap _
        rw [e0]
        exact ⟨congrArg (fun z => some (Value.long z)) (by unfold shiftF; rw [if_pos hc2, if_neg hc4]), N0, rfl⟩
  · have pre5 : ∀ t, Steps p.tables e below (s₁.setTop (mkF m 26 #[.val (.long q0), .second, .val (.int p1)] [(.int (lcmpW q0 ((9223372036854775807 : Int64) - (p1.toInt64))))])) t → Steps p.tables e below (s₁.setTop (entryFrame m #[(.long q0), (.int p1)] 3)) t := fun t kk => pre1 t (by
      show Steps p.tables e below (s₁.setTop (mkF m 1 #[.val (.long q0), .second, .val (.int p1)] [(.int p1)])) _
      refine XS.ifYes X0.here hx rfl (pc0 := 1) (pc' := 18) rfl (hb hby d5_1) rfl ((if0 _ _).trans (flt hc2).2.1) (by decide) (by decide) ?_
      show Steps p.tables e below (s₁.setTop (mkF m 18 #[.val (.long q0), .second, .val (.int p1)] [])) _
      refine XS.lloadN X0.here hx rfl (hb hby d5_18) rfl ?_
      show Steps p.tables e below (s₁.setTop (mkF m 19 #[.val (.long q0), .second, .val (.int p1)] [(.long q0)])) _
      refine X0.ldc2Long hx hown (mvT hZ (hw _ (List.mem_of_getElem? (i := 2) rfl))) (g := (mkF m 19 #[.val (.long q0), .second, .val (.int p1)] [(.long q0)])) rfl (hb hby d5_19) _ ?_
      show Steps p.tables e below (s₁.setTop (mkF m 22 #[.val (.long q0), .second, .val (.int p1)] [(.long (9223372036854775807 : Int64)), (.long q0)])) _
      refine XS.iloadN X0.here hx rfl (hb hby d5_22) rfl ?_
      show Steps p.tables e below (s₁.setTop (mkF m 23 #[.val (.long q0), .second, .val (.int p1)] [(.int p1), (.long (9223372036854775807 : Int64)), (.long q0)])) _
      refine XS.i2l X0.here hx rfl (hb hby d5_23) rfl ?_
      show Steps p.tables e below (s₁.setTop (mkF m 24 #[.val (.long q0), .second, .val (.int p1)] [(.long (p1.toInt64)), (.long (9223372036854775807 : Int64)), (.long q0)])) _
      refine XS.lsub X0.here hx rfl (hb hby d5_24) rfl ?_
      show Steps p.tables e below (s₁.setTop (mkF m 25 #[.val (.long q0), .second, .val (.int p1)] [(.long ((9223372036854775807 : Int64) - (p1.toInt64))), (.long q0)])) _
      refine XS.lcmp X0.here hx rfl (hb hby d5_25) rfl ?_
      exact kk)
    by_cases hc6 : ((9223372036854775807 : Int64) - (p1.toInt64)) < q0
    · obtain ⟨fs, hr, hrun, hended, hW, hsame⟩ := X0.leave (v := some (.long (9223372036854775807 : Int64))) (fun h => by rw [Bd.returns] at h; cases h)
      refine ⟨_, _, pre5 _ ?_, hrun, hended, _, _, rfl, ?_, ⟨_, rfl⟩, hW, hsame.mono (by decide) (by decide)⟩
      · show Steps p.tables e below (s₁.setTop (mkF m 26 #[.val (.long q0), .second, .val (.int p1)] [(.int (lcmpW q0 ((9223372036854775807 : Int64) - (p1.toInt64))))])) _
        refine XS.ifNo X0.here hx rfl (hb hby d5_26) rfl ((if0 _ _).trans (tlt ((lw_gt _ _).mpr hc6)).2.2.2) ?_
        show Steps p.tables e below (s₁.setTop (mkF m 29 #[.val (.long q0), .second, .val (.int p1)] [])) _
        refine X0.ldc2Long hx hown (mvT hZ (hw _ (List.mem_of_getElem? (i := 2) rfl))) (g := (mkF m 29 #[.val (.long q0), .second, .val (.int p1)] [])) rfl (hb hby d5_29) _ ?_
        show Steps p.tables e below (s₁.setTop (mkF m 32 #[.val (.long q0), .second, .val (.int p1)] [(.long (9223372036854775807 : Int64))])) _
        refine XS.goto X0.here hx rfl (pc0 := 32) (pc' := 39) rfl (hb hby d5_32) (by decide) (by decide) ?_
        show Steps p.tables e below (s₁.setTop (mkF m 39 #[.val (.long q0), .second, .val (.int p1)] [(.long (9223372036854775807 : Int64))])) _
        exact retJ X0 hx Bd.returns (hb hby d5_39) hr
      · show Q5 Z q0 p1 h0 n0 _ s₁.heap _
        rw [e0]
        exact ⟨congrArg (fun z => some (Value.long z)) (by unfold shiftF; rw [if_neg hc2, if_pos hc6]), N0, rfl⟩
    · obtain ⟨fs, hr, hrun, hended, hW, hsame⟩ := X0.leave (v := some (.long (q0 + (p1.toInt64)))) (fun h => by rw [Bd.returns] at h; cases h)
      refine ⟨_, _, pre5 _ ?_, hrun, hended, _, _, rfl, ?_, ⟨_, rfl⟩, hW, hsame.mono (by decide) (by decide)⟩
      · show Steps p.tables e below (s₁.setTop (mkF m 26 #[.val (.long q0), .second, .val (.int p1)] [(.int (lcmpW q0 ((9223372036854775807 : Int64) - (p1.toInt64))))])) _
        refine XS.ifYes X0.here hx rfl (pc0 := 26) (pc' := 35) rfl (hb hby d5_26) rfl ((if0 _ _).trans (flt (fun q => hc6 ((lw_gt _ _).mp q))).2.2.2) (by decide) (by decide) ?_
        show Steps p.tables e below (s₁.setTop (mkF m 35 #[.val (.long q0), .second, .val (.int p1)] [])) _
        refine XS.lloadN X0.here hx rfl (hb hby d5_35) rfl ?_
        show Steps p.tables e below (s₁.setTop (mkF m 36 #[.val (.long q0), .second, .val (.int p1)] [(.long q0)])) _
        refine XS.iloadN X0.here hx rfl (hb hby d5_36) rfl ?_
        show Steps p.tables e below (s₁.setTop (mkF m 37 #[.val (.long q0), .second, .val (.int p1)] [(.int p1), (.long q0)])) _
        refine XS.i2l X0.here hx rfl (hb hby d5_37) rfl ?_
        show Steps p.tables e below (s₁.setTop (mkF m 38 #[.val (.long q0), .second, .val (.int p1)] [(.long (p1.toInt64)), (.long q0)])) _
        refine XS.ladd X0.here hx rfl (hb hby d5_38) rfl ?_
        show Steps p.tables e below (s₁.setTop (mkF m 39 #[.val (.long q0), .second, .val (.int p1)] [(.long (q0 + (p1.toInt64)))])) _
        exact retJ X0 hx Bd.returns (hb hby d5_39) hr
      · show Q5 Z q0 p1 h0 n0 _ s₁.heap _
        rw [e0]
        exact ⟨congrArg (fun z => some (Value.long z)) (by unfold shiftF; rw [if_neg hc2, if_neg hc6]), N0, rfl⟩
theorem own_nat {x : Int64} (h : 0 ≤ x.toInt) : x.toInt = (x.toBitVec.toNat : Int) ∧ x.toBitVec.toNat < 2 ^ 63 := by
  have q : x.toBitVec.toInt = x.toInt := rfl
  have l := x.toBitVec.isLt
  rw [BitVec.toInt_eq_toNat_cond] at q
  split at q <;> omega
theorem own_int {x : Int64} (h : x.toBitVec.toNat < 2 ^ 63) : x.toInt = (x.toBitVec.toNat : Int) := by
  have q : x.toBitVec.toInt = x.toInt := rfl
  rw [BitVec.toInt_eq_toNat_cond] at q
  split at q <;> omega
theorem own_shl (x : Int64) (q : Int32) (k : Nat) (hk : q.toBitVec.toNat % 64 = k) : (x <<< (q &&& 0x3f).toInt64).toBitVec.toNat = x.toBitVec.toNat * 2 ^ k % 2 ^ 64 := by
  show (x.toBitVec <<< ((q &&& 0x3f).toInt64.toBitVec.smod 64)).toNat = _
  rw [BitVec.shiftLeft_eq', (sm64 q k hk).1, smod64 k (sm64 q k hk).2, BitVec.toNat_shiftLeft, Nat.shiftLeft_eq]
theorem own_shr (x : Int64) (q : Int32) (k : Nat) (hk : q.toBitVec.toNat % 64 = k) : ((x.toUInt64 >>> (q &&& 0x3f).toInt64.toUInt64).toInt64).toBitVec.toNat = x.toBitVec.toNat / 2 ^ k := by
  have h5 := (sm64 q k hk).2
  show (x.toBitVec >>> ((q &&& 0x3f).toInt64.toBitVec % 64)).toNat = _
  rw [BitVec.ushiftRight_eq', BitVec.toNat_ushiftRight, Nat.shiftRight_eq_div_pow, BitVec.toNat_umod, (sm64 q k hk).1, BitVec.toNat_ofNat]; congr 2; show k % 2 ^ 64 % 64 = k; omega
set_option maxHeartbeats 8000000 in
theorem own_next {a b dl : Int64} {sh i k : Int32} (h : 0 ≤ a.toInt) (ek : k = ((((sh.toUInt32 >>> ((6 : Int32) &&& 31).toUInt32).toInt32) &&& (63 : Int32)) % (60 : Int32))) (e : b = (nextF a dl i k)) : 0 ≤ b.toInt ∧ a.toInt ≤ b.toInt := by
  have hk : 0 ≤ k.toInt ∧ k.toInt ≤ 59 := by
    generalize ((sh.toUInt32 >>> ((6 : Int32) &&& 31).toUInt32).toInt32) = y at *
    have hm := c_mask y 63 6 (by decide) (by decide)
    have h2 := (c_irem (y &&& (63 : Int32)) 60 60 (by decide)).1 (by rw [hm]; exact Int.emod_nonneg _ (by decide))
    rw [ek, h2]; omega
  have hkn : k.toBitVec.toNat % 64 = k.toBitVec.toNat ∧ k.toBitVec.toNat ≤ 59 := by
    have q : k.toBitVec.toInt = k.toInt := rfl
    have l := k.toBitVec.isLt
    rw [BitVec.toInt_eq_toNat_cond] at q
    split at q <;> omega
  unfold nextF at e
  generalize ((dl.toUInt64 >>> (((4 : Int32) * i) &&& 0x3f).toInt64.toUInt64).toInt64) = y at *
  have hm := c_maskL y 15 4 (by decide) (by decide)
  have hm' : (y &&& (15 : Int64)).toInt = y.toInt % 16 := hm
  have hs := c_lshl (y &&& (15 : Int64)) k k.toBitVec.toNat hkn.1
  have hp : (2 ^ k.toBitVec.toNat : Nat) ≤ 2 ^ 59 := Nat.pow_le_pow_right (by decide) hkn.2
  have e59 : (2 ^ 59 : Nat) = 576460752303423488 := by decide
  have hp' : ((2 ^ k.toBitVec.toNat : Nat) : Int) ≤ 576460752303423488 := by omega
  have hd : 0 ≤ ((y &&& (15 : Int64)) <<< (k &&& 0x3f).toInt64).toInt := by
    have r := rng64 ((y &&& (15 : Int64)) <<< (k &&& 0x3f).toInt64)
    have b1 : 0 ≤ (y &&& (15 : Int64)).toInt * ((2 ^ k.toBitVec.toNat : Nat) : Int) := Int.mul_nonneg (by omega) (Int.natCast_nonneg _)
    have b2 : (y &&& (15 : Int64)).toInt * ((2 ^ k.toBitVec.toNat : Nat) : Int) ≤ 15 * 576460752303423488 := Int.mul_le_mul (by omega) hp' (Int.natCast_nonneg _) (by decide)
    generalize (y &&& (15 : Int64)).toInt * ((2 ^ k.toBitVec.toNat : Nat) : Int) = P at *
    omega
  generalize ((y &&& (15 : Int64)) <<< (k &&& 0x3f).toInt64) = d at *
  clear hp hp' e59 hs hm hm' hk hkn ek
  have eM : (9223372036854775807 : Int64).toInt = 9223372036854775807 := by decide
  have h1 := c_lsub (9223372036854775807 : Int64) d
  have r1 := rng64 ((9223372036854775807 : Int64) - d)
  have r2 := rng64 d
  have r3 := rng64 a
  have r4 := rng64 (a + d)
  have h2 := c_ladd a d
  rw [eM] at h1
  by_cases q : ((9223372036854775807 : Int64) - d) < a
  · rw [if_pos q] at e; rw [e, eM]; omega
  · rw [if_neg q] at e
    rw [Int64.lt_iff_toInt_lt] at q
    rw [e]; omega
theorem own_s {x s : Int32} (e : s = (x &&& (63 : Int32))) : s.toBitVec.toNat < 64 ∧ s.toBitVec.toNat % 64 = s.toBitVec.toNat := by
  have h := c_mask x 63 6 (by decide) (by decide)
  have h' : s.toInt = x.toInt % 64 := by rw [e]; exact h
  have q : s.toBitVec.toInt = s.toInt := rfl
  have l := s.toBitVec.isLt
  rw [BitVec.toInt_eq_toNat_cond] at q
  split at q <;> omega
theorem own_prN {q u : Int64} {x s : Int32} (hq : 0 ≤ q.toInt) (es : s = (x &&& (63 : Int32))) (eu : u = prF q s) : u.toBitVec.toNat = q.toBitVec.toNat / 2 ^ (s.toBitVec.toNat - 1) := by
  obtain ⟨h1, h2⟩ := own_s es
  unfold prF at eu
  by_cases z : s = (0 : Int32)
  · rw [if_pos z] at eu
    rw [eu, z]; show _ = _ / 1; rw [Nat.div_one]
  · rw [if_neg z] at eu
    have hs : (s - (1 : Int32)).toBitVec.toNat = s.toBitVec.toNat - 1 := by
      have : s.toBitVec.toNat ≠ 0 := fun q => z (Int32.toBitVec_inj.mp (BitVec.eq_of_toNat_eq q))
      show (s.toBitVec - (1 : Int32).toBitVec).toNat = _
      rw [BitVec.toNat_sub]; show (4294967296 - 1 + s.toBitVec.toNat) % 4294967296 = _; omega
    rw [eu, own_shr q (s - (1 : Int32)) (s.toBitVec.toNat - 1) (by rw [hs]; omega)]
set_option maxHeartbeats 8000000 in
theorem own_pr {q u n0 y : Int64} {x s i : Int32} (hq : 0 ≤ q.toInt) (es : s = (x &&& (63 : Int32))) (eu : u = prF q s) (ein : y = inF u i s n0) : 0 ≤ u.toInt ∧ ((y.toUInt64 >>> (s &&& 0x3f).toInt64.toUInt64).toInt64) = u := by
  obtain ⟨h1, h2⟩ := own_s es
  obtain ⟨-, hq63⟩ := own_nat hq
  have hu := own_prN hq es eu
  have hu63 : u.toBitVec.toNat < 2 ^ 63 := by rw [hu]; exact Nat.lt_of_le_of_lt (Nat.div_le_self _ _) hq63
  refine ⟨by rw [own_int hu63]; exact Int.natCast_nonneg _, ?_⟩
  obtain ⟨k, hk⟩ : ∃ k, k = s.toBitVec.toNat := ⟨_, rfl⟩
  have h2' : s.toBitVec.toNat % 64 = k := by rw [hk]; exact h2
  rw [← hk] at h1 hu
  have hlt : u.toBitVec.toNat * 2 ^ k < 2 ^ 64 := by
    by_cases z : k = 0
    · subst z; omega
    · have e1 : (2 : Nat) ^ 63 = 2 ^ (64 - k) * 2 ^ (k - 1) := by rw [← Nat.pow_add]; congr 1; omega
      have e2 : (2 : Nat) ^ 64 = 2 ^ (64 - k) * 2 ^ k := by rw [← Nat.pow_add]; congr 1; omega
      have : u.toBitVec.toNat < 2 ^ (64 - k) := by rw [hu]; exact Nat.div_lt_of_lt_mul (by rw [Nat.mul_comm, ← e1]; exact hq63)
      rw [e2]; exact Nat.mul_lt_mul_of_pos_right this (Nat.two_pow_pos _)
  have hpos := Nat.two_pow_pos k
  have hle : (2 : Nat) ^ k ≤ 2 ^ 63 := Nat.pow_le_pow_right (by decide) (by omega)
  have hm : (((1 : Int64) <<< (s &&& 0x3f).toInt64) - (1 : Int64)).toBitVec.toNat = 2 ^ k - 1 := by
    show (((1 : Int64) <<< (s &&& 0x3f).toInt64).toBitVec - (1 : Int64).toBitVec).toNat = _
    rw [BitVec.toNat_sub, own_shl 1 s k h2']
    show (18446744073709551616 - 1 + (1 * 2 ^ k % 18446744073709551616)) % 18446744073709551616 = _
    rw [Nat.one_mul]
    clear hu hlt h1 h2 h2' hk hu63 hq63 hq ein eu es
    generalize (2 : Nat) ^ k = K at *
    omega
  apply Int64.toBitVec_inj.mp
  apply BitVec.eq_of_toNat_eq
  rw [own_shr y s k h2', ein]
  unfold inF
  show (((u <<< (s &&& 0x3f).toInt64).toBitVec ||| ((n0 * (((2 : Int64) * (i.toInt64)) + (1 : Int64))).toBitVec &&& (((1 : Int64) <<< (s &&& 0x3f).toInt64) - (1 : Int64)).toBitVec)).toNat) / 2 ^ k = _
  rw [BitVec.toNat_or, BitVec.toNat_and, hm, Nat.and_two_pow_sub_one_eq_mod, own_shl u s k h2', Nat.mod_eq_of_lt hlt, ← Nat.shiftLeft_eq, ← Nat.shiftLeft_add_eq_or_of_lt (Nat.mod_lt _ hpos), Nat.shiftLeft_eq, Nat.add_comm, Nat.add_mul_div_right _ _ hpos, Nat.div_eq_of_lt (Nat.mod_lt _ hpos), Nat.zero_add]
theorem own_step {a b u v : Int64} {x s : Int32} (ha : 0 ≤ a.toInt) (es : s = (x &&& (63 : Int32))) (eu : u = prF a s) (ev : v = prF b s) (h : a.toInt ≤ b.toInt) : u.toInt ≤ v.toInt := by
  have hb : 0 ≤ b.toInt := Int.le_trans ha h
  obtain ⟨a1, a2⟩ := own_nat ha
  obtain ⟨b1, b2⟩ := own_nat hb
  have hu := own_prN ha es eu
  have hv := own_prN hb es ev
  have hu63 : u.toBitVec.toNat < 2 ^ 63 := by rw [hu]; exact Nat.lt_of_le_of_lt (Nat.div_le_self _ _) a2
  have hv63 : v.toBitVec.toNat < 2 ^ 63 := by rw [hv]; exact Nat.lt_of_le_of_lt (Nat.div_le_self _ _) b2
  rw [own_int hu63, own_int hv63, hu, hv]
  exact Int.ofNat_le.mpr (Nat.div_le_div_right (by omega))
theorem own_sh {u : Int64} {off : Int32} (hu : 0 ≤ u.toInt) : 0 ≤ (shiftF u off).toInt := by
  unfold shiftF
  have eM : (9223372036854775807 : Int64).toInt = 9223372036854775807 := by decide
  have e0 : (0 : Int64).toInt = 0 := by decide
  have e1 : (1 : Int64).toInt = 1 := by decide
  have z32 : (0 : Int32).toInt = 0 := by decide
  by_cases q : off < (0 : Int32)
  · rw [if_pos q]
    by_cases z : u = (0 : Int64)
    · rw [if_pos z, e0]; omega
    · rw [if_neg z]
      have : u.toInt ≠ 0 := fun h => z (Int64.toInt_inj.mp (by rw [h, e0]))
      have h := c_lsub u 1
      have r := rng64 (u - 1)
      have r1 := rng64 u
      omega
  · rw [if_neg q]
    rw [own_lt, z32] at q
    have hi := c_i2l off
    have ro := rng32 off
    have h1 := c_lsub (9223372036854775807 : Int64) off.toInt64
    have r1 := rng64 ((9223372036854775807 : Int64) - off.toInt64)
    have h2 := c_ladd u off.toInt64
    have r2 := rng64 (u + off.toInt64)
    have r3 := rng64 u
    rw [eM] at h1
    by_cases z : ((9223372036854775807 : Int64) - off.toInt64) < u
    · rw [if_pos z, eM]; omega
    · rw [if_neg z]
      rw [Int64.lt_iff_toInt_lt] at z
      omega
theorem own_fin17 {f : Int32} (h0 : 0 ≤ f.toInt) (h1 : f.toInt ≤ 16) : ∃ F : Fin 17, f = Int32.ofNat F.val ∧ f.toInt = (F.val : Int) := by
  refine ⟨⟨f.toInt.toNat, by omega⟩, ?_, by show f.toInt = (f.toInt.toNat : Int); omega⟩
  apply Int32.toInt_inj.mp
  have : ∀ F : Fin 17, (Int32.ofNat F.val).toInt = (F.val : Int) := by decide
  rw [this ⟨f.toInt.toNat, by omega⟩]
  show f.toInt = (f.toInt.toNat : Int); omega
theorem own_bi {U : Nat → Int64} {w : Int64} {f t g b : Int32} {F G : Fin 17} (hG : Got U w f t g) (hF : f.toInt = (F.val : Int)) (hg : g.toInt = (G.val : Int)) (i : Nat) (i32 : Int32) (hi : i32.toInt = (i : Int)) (e : b = bF i32 f t w (U i)) : b = (if F.val ≤ i ∧ i < G.val then (1 : Int32) else (0 : Int32)) := by
  obtain ⟨a1, a2, a3, a4⟩ := hG
  rw [e]
  unfold bF
  simp only [own_lt, Int64.lt_iff_toInt_lt, hi, hF]
  by_cases c1 : (i : Int) < (F.val : Int)
  · rw [if_pos c1, if_neg (by omega)]
  · rw [if_neg c1]
    by_cases c2 : i < G.val
    · have := a3 i (by omega) (by omega)
      rw [if_pos (by omega), if_pos this, if_pos ⟨by omega, c2⟩]
    · rw [if_neg (c := F.val ≤ i ∧ i < G.val) (by omega)]
      by_cases c3 : (i : Int) < t.toInt
      · have := a4 i (by omega) c3
        rw [if_pos c3, if_neg (by omega)]
      · rw [if_neg c3]
theorem own_delta : ∀ F G : Fin 17, F.val ≤ G.val → Int32.ofNat G.val = Int32.ofNat F.val + ((((((((((((((((if F.val ≤ 0 ∧ 0 < G.val then (1 : Int32) else (0 : Int32)) + (if F.val ≤ 1 ∧ 1 < G.val then (1 : Int32) else (0 : Int32))) + (if F.val ≤ 2 ∧ 2 < G.val then (1 : Int32) else (0 : Int32))) + (if F.val ≤ 3 ∧ 3 < G.val then (1 : Int32) else (0 : Int32))) + (if F.val ≤ 4 ∧ 4 < G.val then (1 : Int32) else (0 : Int32))) + (if F.val ≤ 5 ∧ 5 < G.val then (1 : Int32) else (0 : Int32))) + (if F.val ≤ 6 ∧ 6 < G.val then (1 : Int32) else (0 : Int32))) + (if F.val ≤ 7 ∧ 7 < G.val then (1 : Int32) else (0 : Int32))) + (if F.val ≤ 8 ∧ 8 < G.val then (1 : Int32) else (0 : Int32))) + (if F.val ≤ 9 ∧ 9 < G.val then (1 : Int32) else (0 : Int32))) + (if F.val ≤ 10 ∧ 10 < G.val then (1 : Int32) else (0 : Int32))) + (if F.val ≤ 11 ∧ 11 < G.val then (1 : Int32) else (0 : Int32))) + (if F.val ≤ 12 ∧ 12 < G.val then (1 : Int32) else (0 : Int32))) + (if F.val ≤ 13 ∧ 13 < G.val then (1 : Int32) else (0 : Int32))) + (if F.val ≤ 14 ∧ 14 < G.val then (1 : Int32) else (0 : Int32))) + (if F.val ≤ 15 ∧ 15 < G.val then (1 : Int32) else (0 : Int32))) := by decide +kernel
theorem own_fin {w : Int64} {f t g : Int32} {u0 u1 u2 u3 u4 u5 u6 u7 u8 u9 u10 u11 u12 u13 u14 u15 : Int64} {b0 b1 b2 b3 b4 b5 b6 b7 b8 b9 b10 b11 b12 b13 b14 b15 : Int32} (hG : Got (fun i => ([u0, u1, u2, u3, u4, u5, u6, u7, u8, u9, u10, u11, u12, u13, u14, u15] : List Int64).getD i 0) w f t g) (hf0 : 0 ≤ f.toInt) (ht16 : t.toInt ≤ 16) (e0 : b0 = bF (0 : Int32) f t w u0) (e1 : b1 = bF (1 : Int32) f t w u1) (e2 : b2 = bF (2 : Int32) f t w u2) (e3 : b3 = bF (3 : Int32) f t w u3) (e4 : b4 = bF (4 : Int32) f t w u4) (e5 : b5 = bF (5 : Int32) f t w u5) (e6 : b6 = bF (6 : Int32) f t w u6) (e7 : b7 = bF (7 : Int32) f t w u7) (e8 : b8 = bF (8 : Int32) f t w u8) (e9 : b9 = bF (9 : Int32) f t w u9) (e10 : b10 = bF (10 : Int32) f t w u10) (e11 : b11 = bF (11 : Int32) f t w u11) (e12 : b12 = bF (12 : Int32) f t w u12) (e13 : b13 = bF (13 : Int32) f t w u13) (e14 : b14 = bF (14 : Int32) f t w u14) (e15 : b15 = bF (15 : Int32) f t w u15) : g = (f + (((((((((((((((b0 + b1) + b2) + b3) + b4) + b5) + b6) + b7) + b8) + b9) + b10) + b11) + b12) + b13) + b14) + b15)) := by
  have hG' := hG
  obtain ⟨a1, a2, -, -⟩ := hG'
  obtain ⟨F, eF, hF⟩ := own_fin17 hf0 (by omega)
  obtain ⟨G, eG, hg⟩ := own_fin17 (f := g) (by omega) (by omega)
  rw [own_bi hG hF hg 0 (0 : Int32) (by decide) e0, own_bi hG hF hg 1 (1 : Int32) (by decide) e1, own_bi hG hF hg 2 (2 : Int32) (by decide) e2, own_bi hG hF hg 3 (3 : Int32) (by decide) e3, own_bi hG hF hg 4 (4 : Int32) (by decide) e4, own_bi hG hF hg 5 (5 : Int32) (by decide) e5, own_bi hG hF hg 6 (6 : Int32) (by decide) e6, own_bi hG hF hg 7 (7 : Int32) (by decide) e7, own_bi hG hF hg 8 (8 : Int32) (by decide) e8, own_bi hG hF hg 9 (9 : Int32) (by decide) e9, own_bi hG hF hg 10 (10 : Int32) (by decide) e10, own_bi hG hF hg 11 (11 : Int32) (by decide) e11, own_bi hG hF hg 12 (12 : Int32) (by decide) e12, own_bi hG hF hg 13 (13 : Int32) (by decide) e13, own_bi hG hF hg 14 (14 : Int32) (by decide) e14, own_bi hG hF hg 15 (15 : Int32) (by decide) e15, eG, eF]
  exact own_delta F G (by omega)
theorem d4_0 : decode method_6_code 0 = .ok (.iload_n 1, 1) := by decide +kernel
theorem d4_1 : decode method_6_code 1 = .ok (.iload_n 2, 1) := by decide +kernel
theorem d4_2 : decode method_6_code 2 = .ok (.if_icmp .lt 21, 3) := by decide +kernel
theorem d4_23 : decode method_6_code 23 = .ok (.iconst 0, 1) := by decide +kernel
theorem d4_24 : decode method_6_code 24 = .ok (.ireturn, 1) := by decide +kernel
theorem d4_5 : decode method_6_code 5 = .ok (.iload_n 1, 1) := by decide +kernel
theorem d4_6 : decode method_6_code 6 = .ok (.iload_n 3, 1) := by decide +kernel
theorem d4_7 : decode method_6_code 7 = .ok (.if_icmp .ge 16, 3) := by decide +kernel
theorem d4_10 : decode method_6_code 10 = .ok (.aload_n 0, 1) := by decide +kernel
theorem d4_11 : decode method_6_code 11 = .ok (.iload_n 1, 1) := by decide +kernel
theorem d4_12 : decode method_6_code 12 = .ok (.laload, 1) := by decide +kernel
theorem d4_13 : decode method_6_code 13 = .ok (.lload 4, 2) := by decide +kernel
theorem d4_15 : decode method_6_code 15 = .ok (.lcmp, 1) := by decide +kernel
theorem d4_16 : decode method_6_code 16 = .ok (.ifCond .ge 7, 3) := by decide +kernel
theorem d4_19 : decode method_6_code 19 = .ok (.iconst 1, 1) := by decide +kernel
theorem d4_20 : decode method_6_code 20 = .ok (.goto 4, 3) := by decide +kernel
def Q4 (r : Int32) (h0 : Heap) (n0 : Nat) (v : Option Value) (h : Heap) (L : List Loc) : Prop := v = some (.int r) ∧ Fr n0 L ∧ h = h0
theorem ef_4 (m : MethodId) (r0 : Addr) (p1 : Int32) (p2 : Int32) (p3 : Int32) (q4 : Int64) : entryFrame m #[(.ref r0), (.int p1), (.int p2), (.int p3), (.long q4)] 6 = mkF m 0 #[.val (.ref r0), .val (.int p1), .val (.int p2), .val (.int p3), .val (.long q4), .second] [] := by first | (simp [entryFrame, mkF, argsToLocals, Value.category]; done) | rfl
set_option maxRecDepth 65536 in
set_option maxHeartbeats 40000000 in
theorem rm4 (l : Launch) (Z : State) (a0 : Array Value) (hw : ∀ d ∈ tables_1, d.before a0 Z = true) (ws : List Jvm.Cond) (r0 : Addr) (p1 : Int32) (p2 : Int32) (p3 : Int32) (q4 : Int64) (kA : ClassId) (us : List Value) (x : Int64) (h0 : Heap) (n0 : Nat) (Z0 : n0 ≤ h0.size) (Va : Arv Z h0 r0 kA .long (16 : Int32) us (.long (0 : Int64))) (hp : ¬ p1 < 0 ∧ p1 < (16 : Int32)) (hx0 : us.getD p1.toNatClampNeg (.long (0 : Int64)) = .long x) :
    MetFree l (⟨"com/example/copyleaf/copyleaf/page/PageFirstAtLeastPinLaw", "b", "([JIIIJ)I"⟩ : MethodName) (head1 (Jvm.Cond.code (⟨"com/example/copyleaf/copyleaf/page/PageFirstAtLeastPinLaw", "b", "([JIIIJ)I"⟩ : MethodName) method_6_code 6 (some .int) :: ws) ({ frames := 0, cells := 0, slots := 0, locals := 0 } : Room)) (fun a U => a = #[(.ref r0), (.int p1), (.int p2), (.int p3), (.long q4)] ∧ Z.Warmed39 U.vm ∧ U.heap = h0) (fun _ _ _ _ _ => True) (fun _ U o U' => ∃ v L, o = .returned v ∧ Q4 (bF p1 p2 p3 q4 x) h0 n0 v U'.heap L ∧ FrameEnd U o U' L ({ frames := 0, cells := 0, slots := 0, locals := 0 } : Room).cells ({ frames := 0, cells := 0, slots := 0, locals := 0 } : Room).slots) := by
  refine MetFree.of_bodySF (plainFor_of_name pn_com_example_copyleaf_copyleaf_page_PageFirstAtLeastPinLaw) hisR ?_
  intro p e s m args below meth c s₁ Bd hml0 hP hK
  obtain ⟨rfl, hZ, hh⟩ := hP
  have hx := Bd.exec
  have hby := Bd.bytes
  have hml : c.maxLocals = 6 := hml0
  have hown : s.vm.findClass "com/example/copyleaf/copyleaf/page/PageFirstAtLeastPinLaw" = some m.cls := findClass_of_methodNamed Bd.named
  have hnm := (name_of_methodNamed Bd.named Bd.method).1
  have X0 : Stand p l e ({ frames := 0, cells := 0, slots := 0, locals := 0 } : Room) s m #[(.ref r0), (.int p1), (.int p2), (.int p3), (.long q4)] below meth c s₁ [] 0 0 := Stand.of_body Bd
  have e0 : s₁.heap = h0 := by rw [← hh, Bd.state]; rfl
  have N0 := Fr.nil n0
  have pre0 : ∀ t, Steps p.tables e below (s₁.setTop (mkF m 0 #[.val (.ref r0), .val (.int p1), .val (.int p2), .val (.int p3), .val (.long q4), .second] [])) t → Steps p.tables e below (s₁.setTop (entryFrame m #[(.ref r0), (.int p1), (.int p2), (.int p3), (.long q4)] 6)) t := fun t k => castTop (ef_4 m r0 p1 p2 p3 q4) k
  have pre1 : ∀ t, Steps p.tables e below (s₁.setTop (mkF m 2 #[.val (.ref r0), .val (.int p1), .val (.int p2), .val (.int p3), .val (.long q4), .second] [(.int p2), (.int p1)])) t → Steps p.tables e below (s₁.setTop (entryFrame m #[(.ref r0), (.int p1), (.int p2), (.int p3), (.long q4)] 6)) t := fun t kk => pre0 t (by
    show Steps p.tables e below (s₁.setTop (mkF m 0 #[.val (.ref r0), .val (.int p1), .val (.int p2), .val (.int p3), .val (.long q4), .second] [])) _
    refine XS.iloadN X0.here hx rfl (hb hby d4_0) rfl ?_
    show Steps p.tables e below (s₁.setTop (mkF m 1 #[.val (.ref r0), .val (.int p1), .val (.int p2), .val (.int p3), .val (.long q4), .second] [(.int p1)])) _
    refine XS.iloadN X0.here hx rfl (hb hby d4_1) rfl ?_
    exact kk)
  by_cases hc2 : p1 < p2
  · obtain ⟨fs, hr, hrun, hended, hW, hsame⟩ := X0.leave (v := some (.int (0 : Int32))) (fun h => by rw [Bd.returns] at h; cases h)
    refine ⟨_, _, pre1 _ ?_, hrun, hended, _, _, rfl, ?_, ⟨_, rfl⟩, hW, hsame.mono (by decide) (by decide)⟩
    · show Steps p.tables e below (s₁.setTop (mkF m 2 #[.val (.ref r0), .val (.int p1), .val (.int p2), .val (.int p3), .val (.long q4), .second] [(.int p2), (.int p1)])) _
      refine XS.icmpYes X0.here hx rfl (pc0 := 2) (pc' := 23) rfl (hb hby d4_2) rfl (tlt hc2).1 (by decide) (by decide) ?_
      show Steps p.tables e below (s₁.setTop (mkF m 23 #[.val (.ref r0), .val (.int p1), .val (.int p2), .val (.int p3), .val (.long q4), .second] [])) _
      refine XS.iconst X0.here hx rfl (hb hby d4_23) ?_
      show Steps p.tables e below (s₁.setTop (mkF m 24 #[.val (.ref r0), .val (.int p1), .val (.int p2), .val (.int p3), .val (.long q4), .second] [(.int (0 : Int32))])) _
      exact retI X0 hx Bd.returns (hb hby d4_24) hr
    · show Q4 (bF p1 p2 p3 q4 x) h0 n0 _ s₁.heap _
      rw [e0]
      exact ⟨congrArg (fun z => some (Value.int z)) (by unfold bF; rw [if_pos hc2]), N0, rfl⟩
  · have pre3 : ∀ t, Steps p.tables e below (s₁.setTop (mkF m 7 #[.val (.ref r0), .val (.int p1), .val (.int p2), .val (.int p3), .val (.long q4), .second] [(.int p3), (.int p1)])) t → Steps p.tables e below (s₁.setTop (entryFrame m #[(.ref r0), (.int p1), (.int p2), (.int p3), (.long q4)] 6)) t := fun t kk => pre1 t (by
      show Steps p.tables e below (s₁.setTop (mkF m 2 #[.val (.ref r0), .val (.int p1), .val (.int p2), .val (.int p3), .val (.long q4), .second] [(.int p2), (.int p1)])) _
      refine XS.icmpNo X0.here hx rfl (hb hby d4_2) rfl (flt hc2).1 ?_
      show Steps p.tables e below (s₁.setTop (mkF m 5 #[.val (.ref r0), .val (.int p1), .val (.int p2), .val (.int p3), .val (.long q4), .second] [])) _
      refine XS.iloadN X0.here hx rfl (hb hby d4_5) rfl ?_
      show Steps p.tables e below (s₁.setTop (mkF m 6 #[.val (.ref r0), .val (.int p1), .val (.int p2), .val (.int p3), .val (.long q4), .second] [(.int p1)])) _
      refine XS.iloadN X0.here hx rfl (hb hby d4_6) rfl ?_
      exact kk)
    by_cases hc4 : p1 < p3
    · obtain ⟨cl5, Ar5, -, S5, -, H5, -⟩ := id Va
      have hin5 : ¬ (p1 < 0 ∨ cl5.slots.size ≤ (p1).toNatClampNeg) := inb_of S5 hp
      have hat5 : cl5.slots[(p1).toNatClampNeg]? = some (.long x) := Has.at H5 hin5 hx0
      have pre6 : ∀ t, Steps p.tables e below (s₁.setTop (mkF m 16 #[.val (.ref r0), .val (.int p1), .val (.int p2), .val (.int p3), .val (.long q4), .second] [(.int (lcmpW x q4))])) t → Steps p.tables e below (s₁.setTop (entryFrame m #[(.ref r0), (.int p1), (.int p2), (.int p3), (.long q4)] 6)) t := fun t kk => pre3 t (by
        show Steps p.tables e below (s₁.setTop (mkF m 7 #[.val (.ref r0), .val (.int p1), .val (.int p2), .val (.int p3), .val (.long q4), .second] [(.int p3), (.int p1)])) _
        refine XS.icmpNo X0.here hx rfl (hb hby d4_7) rfl (tlt hc4).2.1 ?_
        show Steps p.tables e below (s₁.setTop (mkF m 10 #[.val (.ref r0), .val (.int p1), .val (.int p2), .val (.int p3), .val (.long q4), .second] [])) _
        refine XS.aloadN X0.here hx rfl (hb hby d4_10) rfl rfl ?_
        show Steps p.tables e below (s₁.setTop (mkF m 11 #[.val (.ref r0), .val (.int p1), .val (.int p2), .val (.int p3), .val (.long q4), .second] [(.ref r0)])) _
        refine XS.iloadN X0.here hx rfl (hb hby d4_11) rfl ?_
        show Steps p.tables e below (s₁.setTop (mkF m 12 #[.val (.ref r0), .val (.int p1), .val (.int p2), .val (.int p3), .val (.long q4), .second] [(.int p1), (.ref r0)])) _
        refine X0.laload hx (j := p1) (v := (.long x)) (by rw [e0]; exact Ar5.1) (State.isArrayOf_alike hZ.alike Ar5.2.1) Ar5.2.2 hin5 hat5 (g := (mkF m 12 #[.val (.ref r0), .val (.int p1), .val (.int p2), .val (.int p3), .val (.long q4), .second] [(.int p1), (.ref r0)])) rfl rfl (hb hby d4_12) _ ?_
        show Steps p.tables e below (s₁.setTop (mkF m 13 #[.val (.ref r0), .val (.int p1), .val (.int p2), .val (.int p3), .val (.long q4), .second] [(.long x)])) _
        refine XS.lload X0.here hx rfl (hb hby d4_13) rfl ?_
        show Steps p.tables e below (s₁.setTop (mkF m 15 #[.val (.ref r0), .val (.int p1), .val (.int p2), .val (.int p3), .val (.long q4), .second] [(.long q4), (.long x)])) _
        refine XS.lcmp X0.here hx rfl (hb hby d4_15) rfl ?_
        exact kk)
      by_cases hc7 : x < q4
      · obtain ⟨fs, hr, hrun, hended, hW, hsame⟩ := X0.leave (v := some (.int (1 : Int32))) (fun h => by rw [Bd.returns] at h; cases h)
        refine ⟨_, _, pre6 _ ?_, hrun, hended, _, _, rfl, ?_, ⟨_, rfl⟩, hW, hsame.mono (by decide) (by decide)⟩
        · show Steps p.tables e below (s₁.setTop (mkF m 16 #[.val (.ref r0), .val (.int p1), .val (.int p2), .val (.int p3), .val (.long q4), .second] [(.int (lcmpW x q4))])) _
          refine XS.ifNo X0.here hx rfl (hb hby d4_16) rfl ((if0 _ _).trans (tlt ((lw_lt _ _).mpr hc7)).2.1) ?_
          show Steps p.tables e below (s₁.setTop (mkF m 19 #[.val (.ref r0), .val (.int p1), .val (.int p2), .val (.int p3), .val (.long q4), .second] [])) _
          refine XS.iconst X0.here hx rfl (hb hby d4_19) ?_
          show Steps p.tables e below (s₁.setTop (mkF m 20 #[.val (.ref r0), .val (.int p1), .val (.int p2), .val (.int p3), .val (.long q4), .second] [(.int (1 : Int32))])) _
          refine XS.goto X0.here hx rfl (pc0 := 20) (pc' := 24) rfl (hb hby d4_20) (by decide) (by decide) ?_
          show Steps p.tables e below (s₁.setTop (mkF m 24 #[.val (.ref r0), .val (.int p1), .val (.int p2), .val (.int p3), .val (.long q4), .second] [(.int (1 : Int32))])) _
          exact retI X0 hx Bd.returns (hb hby d4_24) hr
        · show Q4 (bF p1 p2 p3 q4 x) h0 n0 _ s₁.heap _
          rw [e0]
          exact ⟨congrArg (fun z => some (Value.int z)) (by unfold bF; rw [if_neg hc2, if_pos hc4, if_pos hc7]), N0, rfl⟩
      · obtain ⟨fs, hr, hrun, hended, hW, hsame⟩ := X0.leave (v := some (.int (0 : Int32))) (fun h => by rw [Bd.returns] at h; cases h)
        refine ⟨_, _, pre6 _ ?_, hrun, hended, _, _, rfl, ?_, ⟨_, rfl⟩, hW, hsame.mono (by decide) (by decide)⟩
        · show Steps p.tables e below (s₁.setTop (mkF m 16 #[.val (.ref r0), .val (.int p1), .val (.int p2), .val (.int p3), .val (.long q4), .second] [(.int (lcmpW x q4))])) _
          refine XS.ifYes X0.here hx rfl (pc0 := 16) (pc' := 23) rfl (hb hby d4_16) rfl ((if0 _ _).trans (flt (fun q => hc7 ((lw_lt _ _).mp q))).2.1) (by decide) (by decide) ?_
          show Steps p.tables e below (s₁.setTop (mkF m 23 #[.val (.ref r0), .val (.int p1), .val (.int p2), .val (.int p3), .val (.long q4), .second] [])) _
          refine XS.iconst X0.here hx rfl (hb hby d4_23) ?_
          show Steps p.tables e below (s₁.setTop (mkF m 24 #[.val (.ref r0), .val (.int p1), .val (.int p2), .val (.int p3), .val (.long q4), .second] [(.int (0 : Int32))])) _
          exact retI X0 hx Bd.returns (hb hby d4_24) hr
        · show Q4 (bF p1 p2 p3 q4 x) h0 n0 _ s₁.heap _
          rw [e0]
          exact ⟨congrArg (fun z => some (Value.int z)) (by unfold bF; rw [if_neg hc2, if_pos hc4, if_neg hc7]), N0, rfl⟩
    · obtain ⟨fs, hr, hrun, hended, hW, hsame⟩ := X0.leave (v := some (.int (0 : Int32))) (fun h => by rw [Bd.returns] at h; cases h)
      refine ⟨_, _, pre3 _ ?_, hrun, hended, _, _, rfl, ?_, ⟨_, rfl⟩, hW, hsame.mono (by decide) (by decide)⟩
      · show Steps p.tables e below (s₁.setTop (mkF m 7 #[.val (.ref r0), .val (.int p1), .val (.int p2), .val (.int p3), .val (.long q4), .second] [(.int p3), (.int p1)])) _
        refine XS.icmpYes X0.here hx rfl (pc0 := 7) (pc' := 23) rfl (hb hby d4_7) rfl (flt hc4).2.1 (by decide) (by decide) ?_
        show Steps p.tables e below (s₁.setTop (mkF m 23 #[.val (.ref r0), .val (.int p1), .val (.int p2), .val (.int p3), .val (.long q4), .second] [])) _
        refine XS.iconst X0.here hx rfl (hb hby d4_23) ?_
        show Steps p.tables e below (s₁.setTop (mkF m 24 #[.val (.ref r0), .val (.int p1), .val (.int p2), .val (.int p3), .val (.long q4), .second] [(.int (0 : Int32))])) _
        exact retI X0 hx Bd.returns (hb hby d4_24) hr
      · show Q4 (bF p1 p2 p3 q4 x) h0 n0 _ s₁.heap _
        rw [e0]
        exact ⟨congrArg (fun z => some (Value.int z)) (by unfold bF; rw [if_neg hc2, if_neg hc4]), N0, rfl⟩
theorem d2_0 : decode method_4_code 0 = .ok (.iload 4, 2) := by decide +kernel
theorem d2_2 : decode method_4_code 2 = .ok (.ifCond .ne 9, 3) := by decide +kernel
theorem d2_5 : decode method_4_code 5 = .ok (.aload_n 0, 1) := by decide +kernel
theorem d2_6 : decode method_4_code 6 = .ok (.iload_n 3, 1) := by decide +kernel
theorem d2_7 : decode method_4_code 7 = .ok (.laload, 1) := by decide +kernel
theorem d2_8 : decode method_4_code 8 = .ok (.goto 11, 3) := by decide +kernel
theorem d2_19 : decode method_4_code 19 = .ok (.lstore 7, 2) := by decide +kernel
theorem d2_21 : decode method_4_code 21 = .ok (.aload_n 1, 1) := by decide +kernel
theorem d2_22 : decode method_4_code 22 = .ok (.iload_n 3, 1) := by decide +kernel
theorem d2_23 : decode method_4_code 23 = .ok (.lload 7, 2) := by decide +kernel
theorem d2_25 : decode method_4_code 25 = .ok (.lastore, 1) := by decide +kernel
theorem d2_26 : decode method_4_code 26 = .ok (.aload_n 2, 1) := by decide +kernel
theorem d2_27 : decode method_4_code 27 = .ok (.iload_n 3, 1) := by decide +kernel
theorem d2_28 : decode method_4_code 28 = .ok (.lload 7, 2) := by decide +kernel
theorem d2_30 : decode method_4_code 30 = .ok (.iload 4, 2) := by decide +kernel
theorem d2_32 : decode method_4_code 32 = .ok (.lshl, 1) := by decide +kernel
theorem d2_33 : decode method_4_code 33 = .ok (.lload 5, 2) := by decide +kernel
theorem d2_35 : decode method_4_code 35 = .ok (.ldc2_w 40, 3) := by decide +kernel
theorem d2_38 : decode method_4_code 38 = .ok (.iload_n 3, 1) := by decide +kernel
theorem d2_39 : decode method_4_code 39 = .ok (.i2l, 1) := by decide +kernel
theorem d2_40 : decode method_4_code 40 = .ok (.lmul, 1) := by decide +kernel
theorem d2_41 : decode method_4_code 41 = .ok (.lconst 1, 1) := by decide +kernel
theorem d2_42 : decode method_4_code 42 = .ok (.ladd, 1) := by decide +kernel
theorem d2_43 : decode method_4_code 43 = .ok (.lmul, 1) := by decide +kernel
theorem d2_44 : decode method_4_code 44 = .ok (.lconst 1, 1) := by decide +kernel
theorem d2_45 : decode method_4_code 45 = .ok (.iload 4, 2) := by decide +kernel
theorem d2_47 : decode method_4_code 47 = .ok (.lshl, 1) := by decide +kernel
theorem d2_48 : decode method_4_code 48 = .ok (.lconst 1, 1) := by decide +kernel
theorem d2_49 : decode method_4_code 49 = .ok (.lsub, 1) := by decide +kernel
theorem d2_50 : decode method_4_code 50 = .ok (.land, 1) := by decide +kernel
theorem d2_51 : decode method_4_code 51 = .ok (.lor, 1) := by decide +kernel
theorem d2_52 : decode method_4_code 52 = .ok (.lastore, 1) := by decide +kernel
theorem d2_53 : decode method_4_code 53 = .ok (.return_, 1) := by decide +kernel
theorem d2_11 : decode method_4_code 11 = .ok (.aload_n 0, 1) := by decide +kernel
theorem d2_12 : decode method_4_code 12 = .ok (.iload_n 3, 1) := by decide +kernel
theorem d2_13 : decode method_4_code 13 = .ok (.laload, 1) := by decide +kernel
theorem d2_14 : decode method_4_code 14 = .ok (.iload 4, 2) := by decide +kernel
theorem d2_16 : decode method_4_code 16 = .ok (.iconst 1, 1) := by decide +kernel
theorem d2_17 : decode method_4_code 17 = .ok (.isub, 1) := by decide +kernel
theorem d2_18 : decode method_4_code 18 = .ok (.lushr, 1) := by decide +kernel
def Q2 (Z : State) (r1 r2 : Addr) (p3 p4 : Int32) (q5 : Int64) (ku ki : ClassId) (us is : List Value) (x : Int64) (h0 : Heap) (n0 : Nat) (v : Option Value) (h : Heap) (L : List Loc) : Prop := v = none ∧ Fr n0 L ∧ Keep h0 h [r1, r2] ∧ Arv Z h r1 ku .long (16 : Int32) (us.set p3.toNatClampNeg (.long (prF x p4))) (.long (0 : Int64)) ∧ Arv Z h r2 ki .long (16 : Int32) (is.set p3.toNatClampNeg (.long (inF (prF x p4) p3 p4 q5))) (.long (0 : Int64))
theorem ef_2 (m : MethodId) (r0 : Addr) (r1 : Addr) (r2 : Addr) (p3 : Int32) (p4 : Int32) (q5 : Int64) : entryFrame m #[(.ref r0), (.ref r1), (.ref r2), (.int p3), (.int p4), (.long q5)] 9 = mkF m 0 #[.val (.ref r0), .val (.ref r1), .val (.ref r2), .val (.int p3), .val (.int p4), .val (.long q5), .second, .unset, .unset] [] := by first | (simp [entryFrame, mkF, argsToLocals, Value.category]; done) | rfl
set_option maxRecDepth 65536 in
set_option maxHeartbeats 40000000 in
theorem rm2 (l : Launch) (Z : State) (a0 : Array Value) (hw : ∀ d ∈ tables_1, d.before a0 Z = true) (ws : List Jvm.Cond) (r0 : Addr) (r1 : Addr) (r2 : Addr) (p3 : Int32) (p4 : Int32) (q5 : Int64) (kq ku ki : ClassId) (qs us is : List Value) (x : Int64) (h0 : Heap) (n0 : Nat) (Z0 : n0 ≤ h0.size) (Vq : Arv Z h0 r0 kq .long (16 : Int32) qs (.long (0 : Int64))) (Vu : Arv Z h0 r1 ku .long (16 : Int32) us (.long (0 : Int64))) (Vi : Arv Z h0 r2 ki .long (16 : Int32) is (.long (0 : Int64))) (ne01 : r0 ≠ r1) (ne02 : r0 ≠ r2) (ne12 : r1 ≠ r2) (g1 : n0 ≤ r1) (g2 : n0 ≤ r2) (hp : ¬ p3 < 0 ∧ p3 < (16 : Int32)) (hx0 : qs.getD p3.toNatClampNeg (.long (0 : Int64)) = .long x) (hlu : p3.toNatClampNeg < us.length) (hli : p3.toNatClampNeg < is.length) :
    MetFree l (⟨"com/example/copyleaf/copyleaf/page/PageFirstAtLeastPinLaw", "fill", "([J[J[JIIJ)V"⟩ : MethodName) (head1 (Jvm.Cond.code (⟨"com/example/copyleaf/copyleaf/page/PageFirstAtLeastPinLaw", "fill", "([J[J[JIIJ)V"⟩ : MethodName) method_4_code 9 none :: ws) ({ frames := 0, cells := 0, slots := 0, locals := 0 } : Room)) (fun a U => a = #[(.ref r0), (.ref r1), (.ref r2), (.int p3), (.int p4), (.long q5)] ∧ Z.Warmed39 U.vm ∧ U.heap = h0) (fun _ _ _ _ _ => True) (fun _ U o U' => ∃ v L, o = .returned v ∧ Q2 Z r1 r2 p3 p4 q5 ku ki us is x h0 n0 v U'.heap L ∧ FrameEnd U o U' L ({ frames := 0, cells := 0, slots := 0, locals := 0 } : Room).cells ({ frames := 0, cells := 0, slots := 0, locals := 0 } : Room).slots) := by
  refine MetFree.of_bodySF (plainFor_of_name pn_com_example_copyleaf_copyleaf_page_PageFirstAtLeastPinLaw) hisR ?_
  intro p e s m args below meth c s₁ Bd hml0 hP hK
  obtain ⟨rfl, hZ, hh⟩ := hP
  have hx := Bd.exec
  have hby := Bd.bytes
  have hml : c.maxLocals = 9 := hml0
  have hown : s.vm.findClass "com/example/copyleaf/copyleaf/page/PageFirstAtLeastPinLaw" = some m.cls := findClass_of_methodNamed Bd.named
  have hnm := (name_of_methodNamed Bd.named Bd.method).1
  have X0 : Stand p l e ({ frames := 0, cells := 0, slots := 0, locals := 0 } : Room) s m #[(.ref r0), (.ref r1), (.ref r2), (.int p3), (.int p4), (.long q5)] below meth c s₁ [] 0 0 := Stand.of_body Bd
  have e0 : s₁.heap = h0 := by rw [← hh, Bd.state]; rfl
  have N0 := Fr.nil n0
  have pre0 : ∀ t, Steps p.tables e below (s₁.setTop (mkF m 0 #[.val (.ref r0), .val (.ref r1), .val (.ref r2), .val (.int p3), .val (.int p4), .val (.long q5), .second, .unset, .unset] [])) t → Steps p.tables e below (s₁.setTop (entryFrame m #[(.ref r0), (.ref r1), (.ref r2), (.int p3), (.int p4), (.long q5)] 9)) t := fun t k => castTop (ef_2 m r0 r1 r2 p3 p4 q5) k
  have pre1 : ∀ t, Steps p.tables e below (s₁.setTop (mkF m 2 #[.val (.ref r0), .val (.ref r1), .val (.ref r2), .val (.int p3), .val (.int p4), .val (.long q5), .second, .unset, .unset] [(.int p4)])) t → Steps p.tables e below (s₁.setTop (entryFrame m #[(.ref r0), (.ref r1), (.ref r2), (.int p3), (.int p4), (.long q5)] 9)) t := fun t kk => pre0 t (by
    show Steps p.tables e below (s₁.setTop (mkF m 0 #[.val (.ref r0), .val (.ref r1), .val (.ref r2), .val (.int p3), .val (.int p4), .val (.long q5), .second, .unset, .unset] [])) _
    refine XS.iload X0.here hx rfl (hb hby d2_0) rfl ?_
    exact kk)
  by_cases hc2 : p4 = (0 : Int32)
  · obtain ⟨cl3, Ar3, -, S3, -, H3, -⟩ := id Vq
    have hin3 : ¬ (p3 < 0 ∨ cl3.slots.size ≤ (p3).toNatClampNeg) := inb_of S3 hp
    have hat3 : cl3.slots[(p3).toNatClampNeg]? = some (.long x) := Has.at H3 hin3 hx0
    obtain ⟨cl4, Ar4, q4, S4, Nn4, H4, G4⟩ := id Vu
    have hin4 : ¬ (p3 < 0 ∨ cl4.slots.size ≤ (p3).toNatClampNeg) := inb_of S4 hp
    obtain ⟨T5, h5, X5, e5, W5, st5⟩ := stJ X0 hx hZ e0 Ar4 (j := p3) hin4 (g := (mkF m 25 #[.val (.ref r0), .val (.ref r1), .val (.ref r2), .val (.int p3), .val (.int p4), .val (.long q5), .second, .val (.long x), .second] [(.long x), (.int p3), (.ref r1)])) rfl rfl (hb hby d2_25)
    have N5 := Fr.snoc X5 N0 g1
    have V5 : Arv Z h5 r1 ku .long (16 : Int32) (us.set p3.toNatClampNeg (.long x)) (.long (0 : Int64)) := Arv.set Ar4 q4 S4 Nn4 H4 G4 rfl W5 p3.toNatClampNeg rfl hlu
    have Av6 := (Vi.other W5 (Ne.symm ne12))
    obtain ⟨cl7, Ar7, q7, S7, Nn7, H7, G7⟩ := id Av6
    have hin7 : ¬ (p3 < 0 ∨ cl7.slots.size ≤ (p3).toNatClampNeg) := inb_of S7 hp
    obtain ⟨T8, h8, X8, e8, W8, st8⟩ := stJ X5 hx hZ e5 Ar7 (j := p3) hin7 (g := (mkF m 52 #[.val (.ref r0), .val (.ref r1), .val (.ref r2), .val (.int p3), .val (.int p4), .val (.long q5), .second, .val (.long x), .second] [(.long ((x <<< (p4 &&& 0x3f).toInt64) ||| ((q5 * (((2 : Int64) * (p3.toInt64)) + (1 : Int64))) &&& (((1 : Int64) <<< (p4 &&& 0x3f).toInt64) - (1 : Int64))))), (.int p3), (.ref r2)])) rfl rfl (hb hby d2_52)
    have N8 := Fr.snoc X8 N5 g2
    have V8 : Arv Z h8 r2 ki .long (16 : Int32) (is.set p3.toNatClampNeg (.long ((x <<< (p4 &&& 0x3f).toInt64) ||| ((q5 * (((2 : Int64) * (p3.toInt64)) + (1 : Int64))) &&& (((1 : Int64) <<< (p4 &&& 0x3f).toInt64) - (1 : Int64)))))) (.long (0 : Int64)) := Arv.set Ar7 q7 S7 Nn7 H7 G7 rfl W8 p3.toNatClampNeg rfl hli
    have Kp9 := (((Keep.refl h0 [r1, r2]).wr W5 (Or.inl (List.mem_of_getElem? (i := 0) rfl))).wr W8 (Or.inl (List.mem_of_getElem? (i := 1) rfl)))
    have Av10 := (V5.other W8 ne12)
    obtain ⟨fs, hr, hrun, hended, hW, hsame⟩ := X8.leave (v := none) (fun _ => rfl)
    refine ⟨_, _, pre1 _ ?_, hrun, hended, _, _, rfl, ?_, ⟨_, rfl⟩, hW, hsame.mono (by decide) (by decide)⟩
    · show Steps p.tables e below (s₁.setTop (mkF m 2 #[.val (.ref r0), .val (.ref r1), .val (.ref r2), .val (.int p3), .val (.int p4), .val (.long q5), .second, .unset, .unset] [(.int p4)])) _
      refine XS.ifNo X0.here hx rfl (hb hby d2_2) rfl ((if0 _ _).trans (teq hc2).2) ?_
      show Steps p.tables e below (s₁.setTop (mkF m 5 #[.val (.ref r0), .val (.ref r1), .val (.ref r2), .val (.int p3), .val (.int p4), .val (.long q5), .second, .unset, .unset] [])) _
      refine XS.aloadN X0.here hx rfl (hb hby d2_5) rfl rfl ?_
      show Steps p.tables e below (s₁.setTop (mkF m 6 #[.val (.ref r0), .val (.ref r1), .val (.ref r2), .val (.int p3), .val (.int p4), .val (.long q5), .second, .unset, .unset] [(.ref r0)])) _
      refine XS.iloadN X0.here hx rfl (hb hby d2_6) rfl ?_
      show Steps p.tables e below (s₁.setTop (mkF m 7 #[.val (.ref r0), .val (.ref r1), .val (.ref r2), .val (.int p3), .val (.int p4), .val (.long q5), .second, .unset, .unset] [(.int p3), (.ref r0)])) _
      refine X0.laload hx (j := p3) (v := (.long x)) (by rw [e0]; exact Ar3.1) (State.isArrayOf_alike hZ.alike Ar3.2.1) Ar3.2.2 hin3 hat3 (g := (mkF m 7 #[.val (.ref r0), .val (.ref r1), .val (.ref r2), .val (.int p3), .val (.int p4), .val (.long q5), .second, .unset, .unset] [(.int p3), (.ref r0)])) rfl rfl (hb hby d2_7) _ ?_
      show Steps p.tables e below (s₁.setTop (mkF m 8 #[.val (.ref r0), .val (.ref r1), .val (.ref r2), .val (.int p3), .val (.int p4), .val (.long q5), .second, .unset, .unset] [(.long x)])) _
      refine XS.goto X0.here hx rfl (pc0 := 8) (pc' := 19) rfl (hb hby d2_8) (by decide) (by decide) ?_
      show Steps p.tables e below (s₁.setTop (mkF m 19 #[.val (.ref r0), .val (.ref r1), .val (.ref r2), .val (.int p3), .val (.int p4), .val (.long q5), .second, .unset, .unset] [(.long x)])) _
      refine XS.lstore X0.here hx rfl (hb hby d2_19) rfl (l' := #[.val (.ref r0), .val (.ref r1), .val (.ref r2), .val (.int p3), .val (.int p4), .val (.long q5), .second, .val (.long x), .second]) rfl ?_
      show Steps p.tables e below (s₁.setTop (mkF m 21 #[.val (.ref r0), .val (.ref r1), .val (.ref r2), .val (.int p3), .val (.int p4), .val (.long q5), .second, .val (.long x), .second] [])) _
      refine XS.aloadN X0.here hx rfl (hb hby d2_21) rfl rfl ?_
      show Steps p.tables e below (s₁.setTop (mkF m 22 #[.val (.ref r0), .val (.ref r1), .val (.ref r2), .val (.int p3), .val (.int p4), .val (.long q5), .second, .val (.long x), .second] [(.ref r1)])) _
      refine XS.iloadN X0.here hx rfl (hb hby d2_22) rfl ?_
      show Steps p.tables e below (s₁.setTop (mkF m 23 #[.val (.ref r0), .val (.ref r1), .val (.ref r2), .val (.int p3), .val (.int p4), .val (.long q5), .second, .val (.long x), .second] [(.int p3), (.ref r1)])) _
      refine XS.lload X0.here hx rfl (hb hby d2_23) rfl ?_
      show Steps p.tables e below (s₁.setTop (mkF m 25 #[.val (.ref r0), .val (.ref r1), .val (.ref r2), .val (.int p3), .val (.int p4), .val (.long q5), .second, .val (.long x), .second] [(.long x), (.int p3), (.ref r1)])) _
      refine st5 _ ?_
      show Steps p.tables e below (T5.setTop (mkF m 26 #[.val (.ref r0), .val (.ref r1), .val (.ref r2), .val (.int p3), .val (.int p4), .val (.long q5), .second, .val (.long x), .second] [])) _
      refine XS.aloadN X5.here hx rfl (hb hby d2_26) rfl rfl ?_
      show Steps p.tables e below (T5.setTop (mkF m 27 #[.val (.ref r0), .val (.ref r1), .val (.ref r2), .val (.int p3), .val (.int p4), .val (.long q5), .second, .val (.long x), .second] [(.ref r2)])) _
      refine XS.iloadN X5.here hx rfl (hb hby d2_27) rfl ?_
      show Steps p.tables e below (T5.setTop (mkF m 28 #[.val (.ref r0), .val (.ref r1), .val (.ref r2), .val (.int p3), .val (.int p4), .val (.long q5), .second, .val (.long x), .second] [(.int p3), (.ref r2)])) _
      refine XS.lload X5.here hx rfl (hb hby d2_28) rfl ?_
      show Steps p.tables e below (T5.setTop (mkF m 30 #[.val (.ref r0), .val (.ref r1), .val (.ref r2), .val (.int p3), .val (.int p4), .val (.long q5), .second, .val (.long x), .second] [(.long x), (.int p3), (.ref r2)])) _
      refine XS.iload X5.here hx rfl (hb hby d2_30) rfl ?_
      show Steps p.tables e below (T5.setTop (mkF m 32 #[.val (.ref r0), .val (.ref r1), .val (.ref r2), .val (.int p3), .val (.int p4), .val (.long q5), .second, .val (.long x), .second] [(.int p4), (.long x), (.int p3), (.ref r2)])) _
      refine XS.lshl X5.here hx rfl (hb hby d2_32) rfl ?_
      show Steps p.tables e below (T5.setTop (mkF m 33 #[.val (.ref r0), .val (.ref r1), .val (.ref r2), .val (.int p3), .val (.int p4), .val (.long q5), .second, .val (.long x), .second] [(.long (x <<< (p4 &&& 0x3f).toInt64)), (.int p3), (.ref r2)])) _
      refine XS.lload X5.here hx rfl (hb hby d2_33) rfl ?_
      show Steps p.tables e below (T5.setTop (mkF m 35 #[.val (.ref r0), .val (.ref r1), .val (.ref r2), .val (.int p3), .val (.int p4), .val (.long q5), .second, .val (.long x), .second] [(.long q5), (.long (x <<< (p4 &&& 0x3f).toInt64)), (.int p3), (.ref r2)])) _
      refine X5.ldc2Long hx hown (mvT hZ (hw _ (List.mem_of_getElem? (i := 11) rfl))) (g := (mkF m 35 #[.val (.ref r0), .val (.ref r1), .val (.ref r2), .val (.int p3), .val (.int p4), .val (.long q5), .second, .val (.long x), .second] [(.long q5), (.long (x <<< (p4 &&& 0x3f).toInt64)), (.int p3), (.ref r2)])) rfl (hb hby d2_35) _ ?_
      show Steps p.tables e below (T5.setTop (mkF m 38 #[.val (.ref r0), .val (.ref r1), .val (.ref r2), .val (.int p3), .val (.int p4), .val (.long q5), .second, .val (.long x), .second] [(.long (2 : Int64)), (.long q5), (.long (x <<< (p4 &&& 0x3f).toInt64)), (.int p3), (.ref r2)])) _
      refine XS.iloadN X5.here hx rfl (hb hby d2_38) rfl ?_
      show Steps p.tables e below (T5.setTop (mkF m 39 #[.val (.ref r0), .val (.ref r1), .val (.ref r2), .val (.int p3), .val (.int p4), .val (.long q5), .second, .val (.long x), .second] [(.int p3), (.long (2 : Int64)), (.long q5), (.long (x <<< (p4 &&& 0x3f).toInt64)), (.int p3), (.ref r2)])) _
      refine XS.i2l X5.here hx rfl (hb hby d2_39) rfl ?_
      show Steps p.tables e below (T5.setTop (mkF m 40 #[.val (.ref r0), .val (.ref r1), .val (.ref r2), .val (.int p3), .val (.int p4), .val (.long q5), .second, .val (.long x), .second] [(.long (p3.toInt64)), (.long (2 : Int64)), (.long q5), (.long (x <<< (p4 &&& 0x3f).toInt64)), (.int p3), (.ref r2)])) _
      refine XS.lmul X5.here hx rfl (hb hby d2_40) rfl ?_
      show Steps p.tables e below (T5.setTop (mkF m 41 #[.val (.ref r0), .val (.ref r1), .val (.ref r2), .val (.int p3), .val (.int p4), .val (.long q5), .second, .val (.long x), .second] [(.long ((2 : Int64) * (p3.toInt64))), (.long q5), (.long (x <<< (p4 &&& 0x3f).toInt64)), (.int p3), (.ref r2)])) _
      refine XS.lconst X5.here hx rfl (hb hby d2_41) ?_
      show Steps p.tables e below (T5.setTop (mkF m 42 #[.val (.ref r0), .val (.ref r1), .val (.ref r2), .val (.int p3), .val (.int p4), .val (.long q5), .second, .val (.long x), .second] [(.long (1 : Int64)), (.long ((2 : Int64) * (p3.toInt64))), (.long q5), (.long (x <<< (p4 &&& 0x3f).toInt64)), (.int p3), (.ref r2)])) _
      refine XS.ladd X5.here hx rfl (hb hby d2_42) rfl ?_
      show Steps p.tables e below (T5.setTop (mkF m 43 #[.val (.ref r0), .val (.ref r1), .val (.ref r2), .val (.int p3), .val (.int p4), .val (.long q5), .second, .val (.long x), .second] [(.long (((2 : Int64) * (p3.toInt64)) + (1 : Int64))), (.long q5), (.long (x <<< (p4 &&& 0x3f).toInt64)), (.int p3), (.ref r2)])) _
      refine XS.lmul X5.here hx rfl (hb hby d2_43) rfl ?_
      show Steps p.tables e below (T5.setTop (mkF m 44 #[.val (.ref r0), .val (.ref r1), .val (.ref r2), .val (.int p3), .val (.int p4), .val (.long q5), .second, .val (.long x), .second] [(.long (q5 * (((2 : Int64) * (p3.toInt64)) + (1 : Int64)))), (.long (x <<< (p4 &&& 0x3f).toInt64)), (.int p3), (.ref r2)])) _
      refine XS.lconst X5.here hx rfl (hb hby d2_44) ?_
      show Steps p.tables e below (T5.setTop (mkF m 45 #[.val (.ref r0), .val (.ref r1), .val (.ref r2), .val (.int p3), .val (.int p4), .val (.long q5), .second, .val (.long x), .second] [(.long (1 : Int64)), (.long (q5 * (((2 : Int64) * (p3.toInt64)) + (1 : Int64)))), (.long (x <<< (p4 &&& 0x3f).toInt64)), (.int p3), (.ref r2)])) _
      refine XS.iload X5.here hx rfl (hb hby d2_45) rfl ?_
      show Steps p.tables e below (T5.setTop (mkF m 47 #[.val (.ref r0), .val (.ref r1), .val (.ref r2), .val (.int p3), .val (.int p4), .val (.long q5), .second, .val (.long x), .second] [(.int p4), (.long (1 : Int64)), (.long (q5 * (((2 : Int64) * (p3.toInt64)) + (1 : Int64)))), (.long (x <<< (p4 &&& 0x3f).toInt64)), (.int p3), (.ref r2)])) _
      refine XS.lshl X5.here hx rfl (hb hby d2_47) rfl ?_
      show Steps p.tables e below (T5.setTop (mkF m 48 #[.val (.ref r0), .val (.ref r1), .val (.ref r2), .val (.int p3), .val (.int p4), .val (.long q5), .second, .val (.long x), .second] [(.long ((1 : Int64) <<< (p4 &&& 0x3f).toInt64)), (.long (q5 * (((2 : Int64) * (p3.toInt64)) + (1 : Int64)))), (.long (x <<< (p4 &&& 0x3f).toInt64)), (.int p3), (.ref r2)])) _
      refine XS.lconst X5.here hx rfl (hb hby d2_48) ?_
      show Steps p.tables e below (T5.setTop (mkF m 49 #[.val (.ref r0), .val (.ref r1), .val (.ref r2), .val (.int p3), .val (.int p4), .val (.long q5), .second, .val (.long x), .second] [(.long (1 : Int64)), (.long ((1 : Int64) <<< (p4 &&& 0x3f).toInt64)), (.long (q5 * (((2 : Int64) * (p3.toInt64)) + (1 : Int64)))), (.long (x <<< (p4 &&& 0x3f).toInt64)), (.int p3), (.ref r2)])) _
      refine XS.lsub X5.here hx rfl (hb hby d2_49) rfl ?_
      show Steps p.tables e below (T5.setTop (mkF m 50 #[.val (.ref r0), .val (.ref r1), .val (.ref r2), .val (.int p3), .val (.int p4), .val (.long q5), .second, .val (.long x), .second] [(.long (((1 : Int64) <<< (p4 &&& 0x3f).toInt64) - (1 : Int64))), (.long (q5 * (((2 : Int64) * (p3.toInt64)) + (1 : Int64)))), (.long (x <<< (p4 &&& 0x3f).toInt64)), (.int p3), (.ref r2)])) _
      refine XS.land X5.here hx rfl (hb hby d2_50) rfl ?_
      show Steps p.tables e below (T5.setTop (mkF m 51 #[.val (.ref r0), .val (.ref r1), .val (.ref r2), .val (.int p3), .val (.int p4), .val (.long q5), .second, .val (.long x), .second] [(.long ((q5 * (((2 : Int64) * (p3.toInt64)) + (1 : Int64))) &&& (((1 : Int64) <<< (p4 &&& 0x3f).toInt64) - (1 : Int64)))), (.long (x <<< (p4 &&& 0x3f).toInt64)), (.int p3), (.ref r2)])) _
      refine XS.lor X5.here hx rfl (hb hby d2_51) rfl ?_
      show Steps p.tables e below (T5.setTop (mkF m 52 #[.val (.ref r0), .val (.ref r1), .val (.ref r2), .val (.int p3), .val (.int p4), .val (.long q5), .second, .val (.long x), .second] [(.long ((x <<< (p4 &&& 0x3f).toInt64) ||| ((q5 * (((2 : Int64) * (p3.toInt64)) + (1 : Int64))) &&& (((1 : Int64) <<< (p4 &&& 0x3f).toInt64) - (1 : Int64))))), (.int p3), (.ref r2)])) _
      refine st8 _ ?_
      show Steps p.tables e below (T8.setTop (mkF m 53 #[.val (.ref r0), .val (.ref r1), .val (.ref r2), .val (.int p3), .val (.int p4), .val (.long q5), .second, .val (.long x), .second] [])) _
      exact X8.returnOut hx Bd.returns (hb hby d2_53) hr
    · show Q2 Z r1 r2 p3 p4 q5 ku ki us is x h0 n0 _ T8.heap _
      rw [e8]
      have hpr : prF x p4 = _ := (by unfold prF; exact if_pos hc2)
      refine ⟨rfl, N8, Kp9, ?_, ?_⟩
      · rw [hpr]; exact Av10
      · unfold inF; rw [hpr]; exact V8
  · obtain ⟨cl11, Ar11, -, S11, -, H11, -⟩ := id Vq
    have hin11 : ¬ (p3 < 0 ∨ cl11.slots.size ≤ (p3).toNatClampNeg) := inb_of S11 hp
    have hat11 : cl11.slots[(p3).toNatClampNeg]? = some (.long x) := Has.at H11 hin11 hx0
    obtain ⟨cl12, Ar12, q12, S12, Nn12, H12, G12⟩ := id Vu
    have hin12 : ¬ (p3 < 0 ∨ cl12.slots.size ≤ (p3).toNatClampNeg) := inb_of S12 hp
    obtain ⟨T13, h13, X13, e13, W13, st13⟩ := stJ X0 hx hZ e0 Ar12 (j := p3) hin12 (g := (mkF m 25 #[.val (.ref r0), .val (.ref r1), .val (.ref r2), .val (.int p3), .val (.int p4), .val (.long q5), .second, .val (.long ((x.toUInt64 >>> ((p4 - (1 : Int32)) &&& 0x3f).toInt64.toUInt64).toInt64)), .second] [(.long ((x.toUInt64 >>> ((p4 - (1 : Int32)) &&& 0x3f).toInt64.toUInt64).toInt64)), (.int p3), (.ref r1)])) rfl rfl (hb hby d2_25)
    have N13 := Fr.snoc X13 N0 g1
    have V13 : Arv Z h13 r1 ku .long (16 : Int32) (us.set p3.toNatClampNeg (.long ((x.toUInt64 >>> ((p4 - (1 : Int32)) &&& 0x3f).toInt64.toUInt64).toInt64))) (.long (0 : Int64)) := Arv.set Ar12 q12 S12 Nn12 H12 G12 rfl W13 p3.toNatClampNeg rfl hlu
    have Av14 := (Vi.other W13 (Ne.symm ne12))
    obtain ⟨cl15, Ar15, q15, S15, Nn15, H15, G15⟩ := id Av14
    have hin15 : ¬ (p3 < 0 ∨ cl15.slots.size ≤ (p3).toNatClampNeg) := inb_of S15 hp
    obtain ⟨T16, h16, X16, e16, W16, st16⟩ := stJ X13 hx hZ e13 Ar15 (j := p3) hin15 (g := (mkF m 52 #[.val (.ref r0), .val (.ref r1), .val (.ref r2), .val (.int p3), .val (.int p4), .val (.long q5), .second, .val (.long ((x.toUInt64 >>> ((p4 - (1 : Int32)) &&& 0x3f).toInt64.toUInt64).toInt64)), .second] [(.long ((((x.toUInt64 >>> ((p4 - (1 : Int32)) &&& 0x3f).toInt64.toUInt64).toInt64) <<< (p4 &&& 0x3f).toInt64) ||| ((q5 * (((2 : Int64) * (p3.toInt64)) + (1 : Int64))) &&& (((1 : Int64) <<< (p4 &&& 0x3f).toInt64) - (1 : Int64))))), (.int p3), (.ref r2)])) rfl rfl (hb hby d2_52)
    have N16 := Fr.snoc X16 N13 g2
    have V16 : Arv Z h16 r2 ki .long (16 : Int32) (is.set p3.toNatClampNeg (.long ((((x.toUInt64 >>> ((p4 - (1 : Int32)) &&& 0x3f).toInt64.toUInt64).toInt64) <<< (p4 &&& 0x3f).toInt64) ||| ((q5 * (((2 : Int64) * (p3.toInt64)) + (1 : Int64))) &&& (((1 : Int64) <<< (p4 &&& 0x3f).toInt64) - (1 : Int64)))))) (.long (0 : Int64)) := Arv.set Ar15 q15 S15 Nn15 H15 G15 rfl W16 p3.toNatClampNeg rfl hli
    have Kp17 := (((Keep.refl h0 [r1, r2]).wr W13 (Or.inl (List.mem_of_getElem? (i := 0) rfl))).wr W16 (Or.inl (List.mem_of_getElem? (i := 1) rfl)))
    have Av18 := (V13.other W16 ne12)
    obtain ⟨fs, hr, hrun, hended, hW, hsame⟩ := X16.leave (v := none) (fun _ => rfl)
    refine ⟨_, _, pre1 _ ?_, hrun, hended, _, _, rfl, ?_, ⟨_, rfl⟩, hW, hsame.mono (by decide) (by decide)⟩
    · show Steps p.tables e below (s₁.setTop (mkF m 2 #[.val (.ref r0), .val (.ref r1), .val (.ref r2), .val (.int p3), .val (.int p4), .val (.long q5), .second, .unset, .unset] [(.int p4)])) _
      refine XS.ifYes X0.here hx rfl (pc0 := 2) (pc' := 11) rfl (hb hby d2_2) rfl ((if0 _ _).trans (feq hc2).2) (by decide) (by decide) ?_
      show Steps p.tables e below (s₁.setTop (mkF m 11 #[.val (.ref r0), .val (.ref r1), .val (.ref r2), .val (.int p3), .val (.int p4), .val (.long q5), .second, .unset, .unset] [])) _
      refine XS.aloadN X0.here hx rfl (hb hby d2_11) rfl rfl ?_
      show Steps p.tables e below (s₁.setTop (mkF m 12 #[.val (.ref r0), .val (.ref r1), .val (.ref r2), .val (.int p3), .val (.int p4), .val (.long q5), .second, .unset, .unset] [(.ref r0)])) _
      refine XS.iloadN X0.here hx rfl (hb hby d2_12) rfl ?_
      show Steps p.tables e below (s₁.setTop (mkF m 13 #[.val (.ref r0), .val (.ref r1), .val (.ref r2), .val (.int p3), .val (.int p4), .val (.long q5), .second, .unset, .unset] [(.int p3), (.ref r0)])) _
      refine X0.laload hx (j := p3) (v := (.long x)) (by rw [e0]; exact Ar11.1) (State.isArrayOf_alike hZ.alike Ar11.2.1) Ar11.2.2 hin11 hat11 (g := (mkF m 13 #[.val (.ref r0), .val (.ref r1), .val (.ref r2), .val (.int p3), .val (.int p4), .val (.long q5), .second, .unset, .unset] [(.int p3), (.ref r0)])) rfl rfl (hb hby d2_13) _ ?_
      show Steps p.tables e below (s₁.setTop (mkF m 14 #[.val (.ref r0), .val (.ref r1), .val (.ref r2), .val (.int p3), .val (.int p4), .val (.long q5), .second, .unset, .unset] [(.long x)])) _
      refine XS.iload X0.here hx rfl (hb hby d2_14) rfl ?_
      show Steps p.tables e below (s₁.setTop (mkF m 16 #[.val (.ref r0), .val (.ref r1), .val (.ref r2), .val (.int p3), .val (.int p4), .val (.long q5), .second, .unset, .unset] [(.int p4), (.long x)])) _
      refine XS.iconst X0.here hx rfl (hb hby d2_16) ?_
      show Steps p.tables e below (s₁.setTop (mkF m 17 #[.val (.ref r0), .val (.ref r1), .val (.ref r2), .val (.int p3), .val (.int p4), .val (.long q5), .second, .unset, .unset] [(.int (1 : Int32)), (.int p4), (.long x)])) _
      refine XS.isub X0.here hx rfl (hb hby d2_17) rfl ?_
      show Steps p.tables e below (s₁.setTop (mkF m 18 #[.val (.ref r0), .val (.ref r1), .val (.ref r2), .val (.int p3), .val (.int p4), .val (.long q5), .second, .unset, .unset] [(.int (p4 - (1 : Int32))), (.long x)])) _
      refine XS.lushr X0.here hx rfl (hb hby d2_18) rfl ?_
      show Steps p.tables e below (s₁.setTop (mkF m 19 #[.val (.ref r0), .val (.ref r1), .val (.ref r2), .val (.int p3), .val (.int p4), .val (.long q5), .second, .unset, .unset] [(.long ((x.toUInt64 >>> ((p4 - (1 : Int32)) &&& 0x3f).toInt64.toUInt64).toInt64))])) _
      refine XS.lstore X0.here hx rfl (hb hby d2_19) rfl (l' := #[.val (.ref r0), .val (.ref r1), .val (.ref r2), .val (.int p3), .val (.int p4), .val (.long q5), .second, .val (.long ((x.toUInt64 >>> ((p4 - (1 : Int32)) &&& 0x3f).toInt64.toUInt64).toInt64)), .second]) rfl ?_
      show Steps p.tables e below (s₁.setTop (mkF m 21 #[.val (.ref r0), .val (.ref r1), .val (.ref r2), .val (.int p3), .val (.int p4), .val (.long q5), .second, .val (.long ((x.toUInt64 >>> ((p4 - (1 : Int32)) &&& 0x3f).toInt64.toUInt64).toInt64)), .second] [])) _
      refine XS.aloadN X0.here hx rfl (hb hby d2_21) rfl rfl ?_
      show Steps p.tables e below (s₁.setTop (mkF m 22 #[.val (.ref r0), .val (.ref r1), .val (.ref r2), .val (.int p3), .val (.int p4), .val (.long q5), .second, .val (.long ((x.toUInt64 >>> ((p4 - (1 : Int32)) &&& 0x3f).toInt64.toUInt64).toInt64)), .second] [(.ref r1)])) _
      refine XS.iloadN X0.here hx rfl (hb hby d2_22) rfl ?_
      show Steps p.tables e below (s₁.setTop (mkF m 23 #[.val (.ref r0), .val (.ref r1), .val (.ref r2), .val (.int p3), .val (.int p4), .val (.long q5), .second, .val (.long ((x.toUInt64 >>> ((p4 - (1 : Int32)) &&& 0x3f).toInt64.toUInt64).toInt64)), .second] [(.int p3), (.ref r1)])) _
      refine XS.lload X0.here hx rfl (hb hby d2_23) rfl ?_
      show Steps p.tables e below (s₁.setTop (mkF m 25 #[.val (.ref r0), .val (.ref r1), .val (.ref r2), .val (.int p3), .val (.int p4), .val (.long q5), .second, .val (.long ((x.toUInt64 >>> ((p4 - (1 : Int32)) &&& 0x3f).toInt64.toUInt64).toInt64)), .second] [(.long ((x.toUInt64 >>> ((p4 - (1 : Int32)) &&& 0x3f).toInt64.toUInt64).toInt64)), (.int p3), (.ref r1)])) _
      refine st13 _ ?_
      show Steps p.tables e below (T13.setTop (mkF m 26 #[.val (.ref r0), .val (.ref r1), .val (.ref r2), .val (.int p3), .val (.int p4), .val (.long q5), .second, .val (.long ((x.toUInt64 >>> ((p4 - (1 : Int32)) &&& 0x3f).toInt64.toUInt64).toInt64)), .second] [])) _
      refine XS.aloadN X13.here hx rfl (hb hby d2_26) rfl rfl ?_
      show Steps p.tables e below (T13.setTop (mkF m 27 #[.val (.ref r0), .val (.ref r1), .val (.ref r2), .val (.int p3), .val (.int p4), .val (.long q5), .second, .val (.long ((x.toUInt64 >>> ((p4 - (1 : Int32)) &&& 0x3f).toInt64.toUInt64).toInt64)), .second] [(.ref r2)])) _
      refine XS.iloadN X13.here hx rfl (hb hby d2_27) rfl ?_
      show Steps p.tables e below (T13.setTop (mkF m 28 #[.val (.ref r0), .val (.ref r1), .val (.ref r2), .val (.int p3), .val (.int p4), .val (.long q5), .second, .val (.long ((x.toUInt64 >>> ((p4 - (1 : Int32)) &&& 0x3f).toInt64.toUInt64).toInt64)), .second] [(.int p3), (.ref r2)])) _
      refine XS.lload X13.here hx rfl (hb hby d2_28) rfl ?_
      show Steps p.tables e below (T13.setTop (mkF m 30 #[.val (.ref r0), .val (.ref r1), .val (.ref r2), .val (.int p3), .val (.int p4), .val (.long q5), .second, .val (.long ((x.toUInt64 >>> ((p4 - (1 : Int32)) &&& 0x3f).toInt64.toUInt64).toInt64)), .second] [(.long ((x.toUInt64 >>> ((p4 - (1 : Int32)) &&& 0x3f).toInt64.toUInt64).toInt64)), (.int p3), (.ref r2)])) _
      refine XS.iload X13.here hx rfl (hb hby d2_30) rfl ?_
      show Steps p.tables e below (T13.setTop (mkF m 32 #[.val (.ref r0), .val (.ref r1), .val (.ref r2), .val (.int p3), .val (.int p4), .val (.long q5), .second, .val (.long ((x.toUInt64 >>> ((p4 - (1 : Int32)) &&& 0x3f).toInt64.toUInt64).toInt64)), .second] [(.int p4), (.long ((x.toUInt64 >>> ((p4 - (1 : Int32)) &&& 0x3f).toInt64.toUInt64).toInt64)), (.int p3), (.ref r2)])) _
      refine XS.lshl X13.here hx rfl (hb hby d2_32) rfl ?_
      show Steps p.tables e below (T13.setTop (mkF m 33 #[.val (.ref r0), .val (.ref r1), .val (.ref r2), .val (.int p3), .val (.int p4), .val (.long q5), .second, .val (.long ((x.toUInt64 >>> ((p4 - (1 : Int32)) &&& 0x3f).toInt64.toUInt64).toInt64)), .second] [(.long (((x.toUInt64 >>> ((p4 - (1 : Int32)) &&& 0x3f).toInt64.toUInt64).toInt64) <<< (p4 &&& 0x3f).toInt64)), (.int p3), (.ref r2)])) _
      refine XS.lload X13.here hx rfl (hb hby d2_33) rfl ?_
      show Steps p.tables e below (T13.setTop (mkF m 35 #[.val (.ref r0), .val (.ref r1), .val (.ref r2), .val (.int p3), .val (.int p4), .val (.long q5), .second, .val (.long ((x.toUInt64 >>> ((p4 - (1 : Int32)) &&& 0x3f).toInt64.toUInt64).toInt64)), .second] [(.long q5), (.long (((x.toUInt64 >>> ((p4 - (1 : Int32)) &&& 0x3f).toInt64.toUInt64).toInt64) <<< (p4 &&& 0x3f).toInt64)), (.int p3), (.ref r2)])) _
      refine X13.ldc2Long hx hown (mvT hZ (hw _ (List.mem_of_getElem? (i := 11) rfl))) (g := (mkF m 35 #[.val (.ref r0), .val (.ref r1), .val (.ref r2), .val (.int p3), .val (.int p4), .val (.long q5), .second, .val (.long ((x.toUInt64 >>> ((p4 - (1 : Int32)) &&& 0x3f).toInt64.toUInt64).toInt64)), .second] [(.long q5), (.long (((x.toUInt64 >>> ((p4 - (1 : Int32)) &&& 0x3f).toInt64.toUInt64).toInt64) <<< (p4 &&& 0x3f).toInt64)), (.int p3), (.ref r2)])) rfl (hb hby d2_35) _ ?_
      show Steps p.tables e below (T13.setTop (mkF m 38 #[.val (.ref r0), .val (.ref r1), .val (.ref r2), .val (.int p3), .val (.int p4), .val (.long q5), .second, .val (.long ((x.toUInt64 >>> ((p4 - (1 : Int32)) &&& 0x3f).toInt64.toUInt64).toInt64)), .second] [(.long (2 : Int64)), (.long q5), (.long (((x.toUInt64 >>> ((p4 - (1 : Int32)) &&& 0x3f).toInt64.toUInt64).toInt64) <<< (p4 &&& 0x3f).toInt64)), (.int p3), (.ref r2)])) _
      refine XS.iloadN X13.here hx rfl (hb hby d2_38) rfl ?_
      show Steps p.tables e below (T13.setTop (mkF m 39 #[.val (.ref r0), .val (.ref r1), .val (.ref r2), .val (.int p3), .val (.int p4), .val (.long q5), .second, .val (.long ((x.toUInt64 >>> ((p4 - (1 : Int32)) &&& 0x3f).toInt64.toUInt64).toInt64)), .second] [(.int p3), (.long (2 : Int64)), (.long q5), (.long (((x.toUInt64 >>> ((p4 - (1 : Int32)) &&& 0x3f).toInt64.toUInt64).toInt64) <<< (p4 &&& 0x3f).toInt64)), (.int p3), (.ref r2)])) _
      refine XS.i2l X13.here hx rfl (hb hby d2_39) rfl ?_
      show Steps p.tables e below (T13.setTop (mkF m 40 #[.val (.ref r0), .val (.ref r1), .val (.ref r2), .val (.int p3), .val (.int p4), .val (.long q5), .second, .val (.long ((x.toUInt64 >>> ((p4 - (1 : Int32)) &&& 0x3f).toInt64.toUInt64).toInt64)), .second] [(.long (p3.toInt64)), (.long (2 : Int64)), (.long q5), (.long (((x.toUInt64 >>> ((p4 - (1 : Int32)) &&& 0x3f).toInt64.toUInt64).toInt64) <<< (p4 &&& 0x3f).toInt64)), (.int p3), (.ref r2)])) _
      refine XS.lmul X13.here hx rfl (hb hby d2_40) rfl ?_
      show Steps p.tables e below (T13.setTop (mkF m 41 #[.val (.ref r0), .val (.ref r1), .val (.ref r2), .val (.int p3), .val (.int p4), .val (.long q5), .second, .val (.long ((x.toUInt64 >>> ((p4 - (1 : Int32)) &&& 0x3f).toInt64.toUInt64).toInt64)), .second] [(.long ((2 : Int64) * (p3.toInt64))), (.long q5), (.long (((x.toUInt64 >>> ((p4 - (1 : Int32)) &&& 0x3f).toInt64.toUInt64).toInt64) <<< (p4 &&& 0x3f).toInt64)), (.int p3), (.ref r2)])) _
      refine XS.lconst X13.here hx rfl (hb hby d2_41) ?_
      show Steps p.tables e below (T13.setTop (mkF m 42 #[.val (.ref r0), .val (.ref r1), .val (.ref r2), .val (.int p3), .val (.int p4), .val (.long q5), .second, .val (.long ((x.toUInt64 >>> ((p4 - (1 : Int32)) &&& 0x3f).toInt64.toUInt64).toInt64)), .second] [(.long (1 : Int64)), (.long ((2 : Int64) * (p3.toInt64))), (.long q5), (.long (((x.toUInt64 >>> ((p4 - (1 : Int32)) &&& 0x3f).toInt64.toUInt64).toInt64) <<< (p4 &&& 0x3f).toInt64)), (.int p3), (.ref r2)])) _
      refine XS.ladd X13.here hx rfl (hb hby d2_42) rfl ?_
      show Steps p.tables e below (T13.setTop (mkF m 43 #[.val (.ref r0), .val (.ref r1), .val (.ref r2), .val (.int p3), .val (.int p4), .val (.long q5), .second, .val (.long ((x.toUInt64 >>> ((p4 - (1 : Int32)) &&& 0x3f).toInt64.toUInt64).toInt64)), .second] [(.long (((2 : Int64) * (p3.toInt64)) + (1 : Int64))), (.long q5), (.long (((x.toUInt64 >>> ((p4 - (1 : Int32)) &&& 0x3f).toInt64.toUInt64).toInt64) <<< (p4 &&& 0x3f).toInt64)), (.int p3), (.ref r2)])) _
      refine XS.lmul X13.here hx rfl (hb hby d2_43) rfl ?_
      show Steps p.tables e below (T13.setTop (mkF m 44 #[.val (.ref r0), .val (.ref r1), .val (.ref r2), .val (.int p3), .val (.int p4), .val (.long q5), .second, .val (.long ((x.toUInt64 >>> ((p4 - (1 : Int32)) &&& 0x3f).toInt64.toUInt64).toInt64)), .second] [(.long (q5 * (((2 : Int64) * (p3.toInt64)) + (1 : Int64)))), (.long (((x.toUInt64 >>> ((p4 - (1 : Int32)) &&& 0x3f).toInt64.toUInt64).toInt64) <<< (p4 &&& 0x3f).toInt64)), (.int p3), (.ref r2)])) _
      refine XS.lconst X13.here hx rfl (hb hby d2_44) ?_
      show Steps p.tables e below (T13.setTop (mkF m 45 #[.val (.ref r0), .val (.ref r1), .val (.ref r2), .val (.int p3), .val (.int p4), .val (.long q5), .second, .val (.long ((x.toUInt64 >>> ((p4 - (1 : Int32)) &&& 0x3f).toInt64.toUInt64).toInt64)), .second] [(.long (1 : Int64)), (.long (q5 * (((2 : Int64) * (p3.toInt64)) + (1 : Int64)))), (.long (((x.toUInt64 >>> ((p4 - (1 : Int32)) &&& 0x3f).toInt64.toUInt64).toInt64) <<< (p4 &&& 0x3f).toInt64)), (.int p3), (.ref r2)])) _
      refine XS.iload X13.here hx rfl (hb hby d2_45) rfl ?_
      show Steps p.tables e below (T13.setTop (mkF m 47 #[.val (.ref r0), .val (.ref r1), .val (.ref r2), .val (.int p3), .val (.int p4), .val (.long q5), .second, .val (.long ((x.toUInt64 >>> ((p4 - (1 : Int32)) &&& 0x3f).toInt64.toUInt64).toInt64)), .second] [(.int p4), (.long (1 : Int64)), (.long (q5 * (((2 : Int64) * (p3.toInt64)) + (1 : Int64)))), (.long (((x.toUInt64 >>> ((p4 - (1 : Int32)) &&& 0x3f).toInt64.toUInt64).toInt64) <<< (p4 &&& 0x3f).toInt64)), (.int p3), (.ref r2)])) _
      refine XS.lshl X13.here hx rfl (hb hby d2_47) rfl ?_
      show Steps p.tables e below (T13.setTop (mkF m 48 #[.val (.ref r0), .val (.ref r1), .val (.ref r2), .val (.int p3), .val (.int p4), .val (.long q5), .second, .val (.long ((x.toUInt64 >>> ((p4 - (1 : Int32)) &&& 0x3f).toInt64.toUInt64).toInt64)), .second] [(.long ((1 : Int64) <<< (p4 &&& 0x3f).toInt64)), (.long (q5 * (((2 : Int64) * (p3.toInt64)) + (1 : Int64)))), (.long (((x.toUInt64 >>> ((p4 - (1 : Int32)) &&& 0x3f).toInt64.toUInt64).toInt64) <<< (p4 &&& 0x3f).toInt64)), (.int p3), (.ref r2)])) _
      refine XS.lconst X13.here hx rfl (hb hby d2_48) ?_
      show Steps p.tables e below (T13.setTop (mkF m 49 #[.val (.ref r0), .val (.ref r1), .val (.ref r2), .val (.int p3), .val (.int p4), .val (.long q5), .second, .val (.long ((x.toUInt64 >>> ((p4 - (1 : Int32)) &&& 0x3f).toInt64.toUInt64).toInt64)), .second] [(.long (1 : Int64)), (.long ((1 : Int64) <<< (p4 &&& 0x3f).toInt64)), (.long (q5 * (((2 : Int64) * (p3.toInt64)) + (1 : Int64)))), (.long (((x.toUInt64 >>> ((p4 - (1 : Int32)) &&& 0x3f).toInt64.toUInt64).toInt64) <<< (p4 &&& 0x3f).toInt64)), (.int p3), (.ref r2)])) _
      refine XS.lsub X13.here hx rfl (hb hby d2_49) rfl ?_
      show Steps p.tables e below (T13.setTop (mkF m 50 #[.val (.ref r0), .val (.ref r1), .val (.ref r2), .val (.int p3), .val (.int p4), .val (.long q5), .second, .val (.long ((x.toUInt64 >>> ((p4 - (1 : Int32)) &&& 0x3f).toInt64.toUInt64).toInt64)), .second] [(.long (((1 : Int64) <<< (p4 &&& 0x3f).toInt64) - (1 : Int64))), (.long (q5 * (((2 : Int64) * (p3.toInt64)) + (1 : Int64)))), (.long (((x.toUInt64 >>> ((p4 - (1 : Int32)) &&& 0x3f).toInt64.toUInt64).toInt64) <<< (p4 &&& 0x3f).toInt64)), (.int p3), (.ref r2)])) _
      refine XS.land X13.here hx rfl (hb hby d2_50) rfl ?_
      show Steps p.tables e below (T13.setTop (mkF m 51 #[.val (.ref r0), .val (.ref r1), .val (.ref r2), .val (.int p3), .val (.int p4), .val (.long q5), .second, .val (.long ((x.toUInt64 >>> ((p4 - (1 : Int32)) &&& 0x3f).toInt64.toUInt64).toInt64)), .second] [(.long ((q5 * (((2 : Int64) * (p3.toInt64)) + (1 : Int64))) &&& (((1 : Int64) <<< (p4 &&& 0x3f).toInt64) - (1 : Int64)))), (.long (((x.toUInt64 >>> ((p4 - (1 : Int32)) &&& 0x3f).toInt64.toUInt64).toInt64) <<< (p4 &&& 0x3f).toInt64)), (.int p3), (.ref r2)])) _
      refine XS.lor X13.here hx rfl (hb hby d2_51) rfl ?_
      show Steps p.tables e below (T13.setTop (mkF m 52 #[.val (.ref r0), .val (.ref r1), .val (.ref r2), .val (.int p3), .val (.int p4), .val (.long q5), .second, .val (.long ((x.toUInt64 >>> ((p4 - (1 : Int32)) &&& 0x3f).toInt64.toUInt64).toInt64)), .second] [(.long ((((x.toUInt64 >>> ((p4 - (1 : Int32)) &&& 0x3f).toInt64.toUInt64).toInt64) <<< (p4 &&& 0x3f).toInt64) ||| ((q5 * (((2 : Int64) * (p3.toInt64)) + (1 : Int64))) &&& (((1 : Int64) <<< (p4 &&& 0x3f).toInt64) - (1 : Int64))))), (.int p3), (.ref r2)])) _
      refine st16 _ ?_
      show Steps p.tables e below (T16.setTop (mkF m 53 #[.val (.ref r0), .val (.ref r1), .val (.ref r2), .val (.int p3), .val (.int p4), .val (.long q5), .second, .val (.long ((x.toUInt64 >>> ((p4 - (1 : Int32)) &&& 0x3f).toInt64.toUInt64).toInt64)), .second] [])) _
      exact X16.returnOut hx Bd.returns (hb hby d2_53) hr
    · show Q2 Z r1 r2 p3 p4 q5 ku ki us is x h0 n0 _ T16.heap _
      rw [e16]
      have hpr : prF x p4 = _ := (by unfold prF; exact if_neg hc2)
      refine ⟨rfl, N16, Kp17, ?_, ?_⟩
      · rw [hpr]; exact Av18
      · unfold inF; rw [hpr]; exact V16
theorem d3_106 : decode prog_67_method_21_code 106 = .ok (.iload 7, 2) := by decide +kernel
theorem d3_108 : decode prog_67_method_21_code 108 = .ok (.iconst 1, 1) := by decide +kernel
theorem d3_109 : decode prog_67_method_21_code 109 = .ok (.if_icmp .le 45, 3) := by decide +kernel
set_option maxRecDepth 65536 in
set_option maxHeartbeats 40000000 in
theorem lv2 {p : Program} {l : Launch} {e : Env} {R : Room} {s : State} {m : MethodId} {args : Array Value} {below : List Frame} {meth : Method} {c : Code} {T0 : State} {locs : List Loc} {cells slots : Nat} {Z : State} {h0 : Heap} (r0 : Addr) (p1 p2 : Int32) (q3 : Int64) (p4 : Int32) (kA : ClassId) (ins : List Value) (UU : Nat → Int64) (X0 : Stand p l e R s m args below meth c T0 locs cells slots) (hx : p.tables.exec = Jvm.exec) (hZ : Z.Warmed39 s.vm) (hby : c.code = prog_67_method_21_code) (e0 : T0.heap = h0) (Va : Arv Z h0 r0 kA .long (16 : Int32) ins (.long (0 : Int64))) (hU : ∀ i : Nat, i < 16 → ∃ z : Int64, ins.getD i (.long (0 : Int64)) = .long z ∧ ((z.toUInt64 >>> (p4 &&& 0x3f).toInt64.toUInt64).toInt64) = UU i) (hs : ∀ i j : Nat, i ≤ j → j < 16 → (UU i).toInt ≤ (UU j).toInt) (hnn : ∀ i : Nat, i < 16 → 0 ≤ (UU i).toInt) (hw0 : 0 ≤ q3.toInt) (hf0 : 0 ≤ p1.toInt) (ht16 : p2.toInt ≤ 16) (bs ln : Int32) (s8 s9 s10 s11 s12 : Slot) (h : ¬ (1 : Int32) < ln) :
    ∀ t, Steps p.tables e below (T0.setTop (mkF m 154 #[.val (.ref r0), .val (.int p1), .val (.int p2), .val (.long q3), .second, .val (.int p4), .val (.int bs), .val (.int ln), s8, s9, s10, s11, s12] [])) t → Steps p.tables e below (T0.setTop (mkF m 106 #[.val (.ref r0), .val (.int p1), .val (.int p2), .val (.long q3), .second, .val (.int p4), .val (.int bs), .val (.int ln), s8, s9, s10, s11, s12] [])) t := by
  have id0 : ∀ t, Steps p.tables e below (T0.setTop (mkF m 106 #[.val (.ref r0), .val (.int p1), .val (.int p2), .val (.long q3), .second, .val (.int p4), .val (.int bs), .val (.int ln), s8, s9, s10, s11, s12] [])) t → Steps p.tables e below (T0.setTop (mkF m 106 #[.val (.ref r0), .val (.int p1), .val (.int p2), .val (.long q3), .second, .val (.int p4), .val (.int bs), .val (.int ln), s8, s9, s10, s11, s12] [])) t := fun _ k => k
  have pre1 : ∀ t, Steps p.tables e below (T0.setTop (mkF m 154 #[.val (.ref r0), .val (.int p1), .val (.int p2), .val (.long q3), .second, .val (.int p4), .val (.int bs), .val (.int ln), s8, s9, s10, s11, s12] [])) t → Steps p.tables e below (T0.setTop (mkF m 106 #[.val (.ref r0), .val (.int p1), .val (.int p2), .val (.long q3), .second, .val (.int p4), .val (.int bs), .val (.int ln), s8, s9, s10, s11, s12] [])) t := fun t kk => id0 t (by
    show Steps p.tables e below (T0.setTop (mkF m 106 #[.val (.ref r0), .val (.int p1), .val (.int p2), .val (.long q3), .second, .val (.int p4), .val (.int bs), .val (.int ln), s8, s9, s10, s11, s12] [])) _
    refine XS.iload X0.here hx rfl (hb hby d3_106) rfl ?_
    show Steps p.tables e below (T0.setTop (mkF m 108 #[.val (.ref r0), .val (.int p1), .val (.int p2), .val (.long q3), .second, .val (.int p4), .val (.int bs), .val (.int ln), s8, s9, s10, s11, s12] [(.int ln)])) _
    refine XS.iconst X0.here hx rfl (hb hby d3_108) ?_
    show Steps p.tables e below (T0.setTop (mkF m 109 #[.val (.ref r0), .val (.int p1), .val (.int p2), .val (.long q3), .second, .val (.int p4), .val (.int bs), .val (.int ln), s8, s9, s10, s11, s12] [(.int (1 : Int32)), (.int ln)])) _
    refine XS.icmpYes X0.here hx rfl (pc0 := 109) (pc' := 154) rfl (hb hby d3_109) rfl (flt h).2.2.2 (by decide) (by decide) ?_
    exact kk)
  exact pre1
theorem d3_112 : decode prog_67_method_21_code 112 = .ok (.iload 7, 2) := by decide +kernel
theorem d3_114 : decode prog_67_method_21_code 114 = .ok (.iconst 1, 1) := by decide +kernel
theorem d3_115 : decode prog_67_method_21_code 115 = .ok (.iushr, 1) := by decide +kernel
theorem d3_116 : decode prog_67_method_21_code 116 = .ok (.istore 8, 2) := by decide +kernel
theorem d3_118 : decode prog_67_method_21_code 118 = .ok (.iload 6, 2) := by decide +kernel
theorem d3_120 : decode prog_67_method_21_code 120 = .ok (.iload 8, 2) := by decide +kernel
theorem d3_122 : decode prog_67_method_21_code 122 = .ok (.aload_n 0, 1) := by decide +kernel
theorem d3_123 : decode prog_67_method_21_code 123 = .ok (.iload 6, 2) := by decide +kernel
theorem d3_125 : decode prog_67_method_21_code 125 = .ok (.iload 8, 2) := by decide +kernel
theorem d3_127 : decode prog_67_method_21_code 127 = .ok (.iadd, 1) := by decide +kernel
theorem d3_128 : decode prog_67_method_21_code 128 = .ok (.iconst 1, 1) := by decide +kernel
theorem d3_129 : decode prog_67_method_21_code 129 = .ok (.isub, 1) := by decide +kernel
theorem d3_130 : decode prog_67_method_21_code 130 = .ok (.laload, 1) := by decide +kernel
theorem d3_131 : decode prog_67_method_21_code 131 = .ok (.iload 5, 2) := by decide +kernel
theorem d3_133 : decode prog_67_method_21_code 133 = .ok (.lushr, 1) := by decide +kernel
theorem d3_134 : decode prog_67_method_21_code 134 = .ok (.lload_n 3, 1) := by decide +kernel
theorem d3_135 : decode prog_67_method_21_code 135 = .ok (.lsub, 1) := by decide +kernel
theorem d3_136 : decode prog_67_method_21_code 136 = .ok (.bipush 63, 2) := by decide +kernel
theorem d3_138 : decode prog_67_method_21_code 138 = .ok (.lshr, 1) := by decide +kernel
theorem d3_139 : decode prog_67_method_21_code 139 = .ok (.l2i, 1) := by decide +kernel
theorem d3_140 : decode prog_67_method_21_code 140 = .ok (.iand, 1) := by decide +kernel
theorem d3_141 : decode prog_67_method_21_code 141 = .ok (.iadd, 1) := by decide +kernel
theorem d3_142 : decode prog_67_method_21_code 142 = .ok (.istore 6, 2) := by decide +kernel
theorem d3_144 : decode prog_67_method_21_code 144 = .ok (.iload 7, 2) := by decide +kernel
theorem d3_146 : decode prog_67_method_21_code 146 = .ok (.iload 8, 2) := by decide +kernel
theorem d3_148 : decode prog_67_method_21_code 148 = .ok (.isub, 1) := by decide +kernel
theorem d3_149 : decode prog_67_method_21_code 149 = .ok (.istore 7, 2) := by decide +kernel
theorem d3_151 : decode prog_67_method_21_code 151 = .ok (.goto (-45), 3) := by decide +kernel
set_option maxRecDepth 65536 in
set_option maxHeartbeats 40000000 in
theorem tn2 {p : Program} {l : Launch} {e : Env} {R : Room} {s : State} {m : MethodId} {args : Array Value} {below : List Frame} {meth : Method} {c : Code} {T0 : State} {locs : List Loc} {cells slots : Nat} {Z : State} {h0 : Heap} (r0 : Addr) (p1 p2 : Int32) (q3 : Int64) (p4 : Int32) (kA : ClassId) (ins : List Value) (UU : Nat → Int64) (X0 : Stand p l e R s m args below meth c T0 locs cells slots) (hx : p.tables.exec = Jvm.exec) (hZ : Z.Warmed39 s.vm) (hby : c.code = prog_67_method_21_code) (e0 : T0.heap = h0) (Va : Arv Z h0 r0 kA .long (16 : Int32) ins (.long (0 : Int64))) (hU : ∀ i : Nat, i < 16 → ∃ z : Int64, ins.getD i (.long (0 : Int64)) = .long z ∧ ((z.toUInt64 >>> (p4 &&& 0x3f).toInt64.toUInt64).toInt64) = UU i) (hs : ∀ i j : Nat, i ≤ j → j < 16 → (UU i).toInt ≤ (UU j).toInt) (hnn : ∀ i : Nat, i < 16 → 0 ≤ (UU i).toInt) (hw0 : 0 ≤ q3.toInt) (hf0 : 0 ≤ p1.toInt) (ht16 : p2.toInt ≤ 16) (bs ln : Int32) (s8 s9 s10 s11 s12 : Slot) (hs8 : One s8) (hI : Inv UU q3 p1 p2 bs ln) (h : (1 : Int32) < ln) :
    ∃ bs' ln' hf : Int32, Inv UU q3 p1 p2 bs' ln' ∧ ln'.toInt < ln.toInt ∧ ∀ t, Steps p.tables e below (T0.setTop (mkF m 106 #[.val (.ref r0), .val (.int p1), .val (.int p2), .val (.long q3), .second, .val (.int p4), .val (.int bs'), .val (.int ln'), .val (.int hf), s9, s10, s11, s12] [])) t → Steps p.tables e below (T0.setTop (mkF m 106 #[.val (.ref r0), .val (.int p1), .val (.int p2), .val (.long q3), .second, .val (.int p4), .val (.int bs), .val (.int ln), s8, s9, s10, s11, s12] [])) t := by
  have id0 : ∀ t, Steps p.tables e below (T0.setTop (mkF m 106 #[.val (.ref r0), .val (.int p1), .val (.int p2), .val (.long q3), .second, .val (.int p4), .val (.int bs), .val (.int ln), s8, s9, s10, s11, s12] [])) t → Steps p.tables e below (T0.setTop (mkF m 106 #[.val (.ref r0), .val (.int p1), .val (.int p2), .val (.long q3), .second, .val (.int p4), .val (.int bs), .val (.int ln), s8, s9, s10, s11, s12] [])) t := fun _ k => k
  obtain ⟨v1, ev1⟩ : ∃ z : Int32, z = ((ln.toUInt32 >>> ((1 : Int32) &&& 31).toUInt32).toInt32) := ⟨_, rfl⟩
  obtain ⟨hj2, hjj2, hjn2⟩ := (own_i2 hI hf0 ht16 h ev1)
  obtain ⟨z2, hz2, hu2⟩ := hU (((bs + v1) - (1 : Int32))).toNatClampNeg hjn2
  obtain ⟨cl3, Ar3, -, S3, -, H3, -⟩ := id Va
  have hin3 : ¬ (((bs + v1) - (1 : Int32)) < 0 ∨ cl3.slots.size ≤ (((bs + v1) - (1 : Int32))).toNatClampNeg) := inb_of S3 ⟨hj2, hjj2⟩
  have hat3 : cl3.slots[(((bs + v1) - (1 : Int32))).toNatClampNeg]? = some (.long z2) := Has.at H3 hin3 hz2
  obtain ⟨v4, ev4⟩ : ∃ z : Int32, z = (bs + (v1 &&& ((((UU (((bs + v1) - (1 : Int32))).toNatClampNeg) - q3) >>> ((63 : Int32) &&& 0x3f).toInt64).toInt32))) := ⟨_, rfl⟩
  obtain ⟨v5, ev5⟩ : ∃ z : Int32, z = (ln - v1) := ⟨_, rfl⟩
  have pre6 : ∀ t, Steps p.tables e below (T0.setTop (mkF m 106 #[.val (.ref r0), .val (.int p1), .val (.int p2), .val (.long q3), .second, .val (.int p4), .val (.int v4), .val (.int v5), .val (.int v1), s9, s10, s11, s12] [])) t → Steps p.tables e below (T0.setTop (mkF m 106 #[.val (.ref r0), .val (.int p1), .val (.int p2), .val (.long q3), .second, .val (.int p4), .val (.int bs), .val (.int ln), s8, s9, s10, s11, s12] [])) t := fun t kk => id0 t (by
    show Steps p.tables e below (T0.setTop (mkF m 106 #[.val (.ref r0), .val (.int p1), .val (.int p2), .val (.long q3), .second, .val (.int p4), .val (.int bs), .val (.int ln), s8, s9, s10, s11, s12] [])) _
    refine XS.iload X0.here hx rfl (hb hby d3_106) rfl ?_
    show Steps p.tables e below (T0.setTop (mkF m 108 #[.val (.ref r0), .val (.int p1), .val (.int p2), .val (.long q3), .second, .val (.int p4), .val (.int bs), .val (.int ln), s8, s9, s10, s11, s12] [(.int ln)])) _
    refine XS.iconst X0.here hx rfl (hb hby d3_108) ?_
    show Steps p.tables e below (T0.setTop (mkF m 109 #[.val (.ref r0), .val (.int p1), .val (.int p2), .val (.long q3), .second, .val (.int p4), .val (.int bs), .val (.int ln), s8, s9, s10, s11, s12] [(.int (1 : Int32)), (.int ln)])) _
    refine XS.icmpNo X0.here hx rfl (hb hby d3_109) rfl (tlt h).2.2.2 ?_
    show Steps p.tables e below (T0.setTop (mkF m 112 #[.val (.ref r0), .val (.int p1), .val (.int p2), .val (.long q3), .second, .val (.int p4), .val (.int bs), .val (.int ln), s8, s9, s10, s11, s12] [])) _
    refine XS.iload X0.here hx rfl (hb hby d3_112) rfl ?_
    show Steps p.tables e below (T0.setTop (mkF m 114 #[.val (.ref r0), .val (.int p1), .val (.int p2), .val (.long q3), .second, .val (.int p4), .val (.int bs), .val (.int ln), s8, s9, s10, s11, s12] [(.int ln)])) _
    refine XS.iconst X0.here hx rfl (hb hby d3_114) ?_
    show Steps p.tables e below (T0.setTop (mkF m 115 #[.val (.ref r0), .val (.int p1), .val (.int p2), .val (.long q3), .second, .val (.int p4), .val (.int bs), .val (.int ln), s8, s9, s10, s11, s12] [(.int (1 : Int32)), (.int ln)])) _
    refine XS.iushr X0.here hx rfl (hb hby d3_115) rfl ?_
    show Steps p.tables e below (T0.setTop (mkF m 116 #[.val (.ref r0), .val (.int p1), .val (.int p2), .val (.long q3), .second, .val (.int p4), .val (.int bs), .val (.int ln), s8, s9, s10, s11, s12] [(.int ((ln.toUInt32 >>> ((1 : Int32) &&& 31).toUInt32).toInt32))])) _
    rw [← ev1]
    show Steps p.tables e below (T0.setTop (mkF m 116 #[.val (.ref r0), .val (.int p1), .val (.int p2), .val (.long q3), .second, .val (.int p4), .val (.int bs), .val (.int ln), s8, s9, s10, s11, s12] [(.int v1)])) _
    refine XS.istoreS X0.here hx rfl (hb hby d3_116) rfl rfl hs8 ?_
    show Steps p.tables e below (T0.setTop (mkF m 118 #[.val (.ref r0), .val (.int p1), .val (.int p2), .val (.long q3), .second, .val (.int p4), .val (.int bs), .val (.int ln), .val (.int v1), s9, s10, s11, s12] [])) _
    refine XS.iload X0.here hx rfl (hb hby d3_118) rfl ?_
    show Steps p.tables e below (T0.setTop (mkF m 120 #[.val (.ref r0), .val (.int p1), .val (.int p2), .val (.long q3), .second, .val (.int p4), .val (.int bs), .val (.int ln), .val (.int v1), s9, s10, s11, s12] [(.int bs)])) _
    refine XS.iload X0.here hx rfl (hb hby d3_120) rfl ?_
    show Steps p.tables e below (T0.setTop (mkF m 122 #[.val (.ref r0), .val (.int p1), .val (.int p2), .val (.long q3), .second, .val (.int p4), .val (.int bs), .val (.int ln), .val (.int v1), s9, s10, s11, s12] [(.int v1), (.int bs)])) _
    refine XS.aloadN X0.here hx rfl (hb hby d3_122) rfl rfl ?_
    show Steps p.tables e below (T0.setTop (mkF m 123 #[.val (.ref r0), .val (.int p1), .val (.int p2), .val (.long q3), .second, .val (.int p4), .val (.int bs), .val (.int ln), .val (.int v1), s9, s10, s11, s12] [(.ref r0), (.int v1), (.int bs)])) _
    refine XS.iload X0.here hx rfl (hb hby d3_123) rfl ?_
    show Steps p.tables e below (T0.setTop (mkF m 125 #[.val (.ref r0), .val (.int p1), .val (.int p2), .val (.long q3), .second, .val (.int p4), .val (.int bs), .val (.int ln), .val (.int v1), s9, s10, s11, s12] [(.int bs), (.ref r0), (.int v1), (.int bs)])) _
    refine XS.iload X0.here hx rfl (hb hby d3_125) rfl ?_
    show Steps p.tables e below (T0.setTop (mkF m 127 #[.val (.ref r0), .val (.int p1), .val (.int p2), .val (.long q3), .second, .val (.int p4), .val (.int bs), .val (.int ln), .val (.int v1), s9, s10, s11, s12] [(.int v1), (.int bs), (.ref r0), (.int v1), (.int bs)])) _
    refine XS.iadd X0.here hx rfl (hb hby d3_127) rfl ?_
    show Steps p.tables e below (T0.setTop (mkF m 128 #[.val (.ref r0), .val (.int p1), .val (.int p2), .val (.long q3), .second, .val (.int p4), .val (.int bs), .val (.int ln), .val (.int v1), s9, s10, s11, s12] [(.int (bs + v1)), (.ref r0), (.int v1), (.int bs)])) _
    refine XS.iconst X0.here hx rfl (hb hby d3_128) ?_
    show Steps p.tables e below (T0.setTop (mkF m 129 #[.val (.ref r0), .val (.int p1), .val (.int p2), .val (.long q3), .second, .val (.int p4), .val (.int bs), .val (.int ln), .val (.int v1), s9, s10, s11, s12] [(.int (1 : Int32)), (.int (bs + v1)), (.ref r0), (.int v1), (.int bs)])) _
    refine XS.isub X0.here hx rfl (hb hby d3_129) rfl ?_
    show Steps p.tables e below (T0.setTop (mkF m 130 #[.val (.ref r0), .val (.int p1), .val (.int p2), .val (.long q3), .second, .val (.int p4), .val (.int bs), .val (.int ln), .val (.int v1), s9, s10, s11, s12] [(.int ((bs + v1) - (1 : Int32))), (.ref r0), (.int v1), (.int bs)])) _
    refine X0.laload hx (j := ((bs + v1) - (1 : Int32))) (v := (.long z2)) (by rw [e0]; exact Ar3.1) (State.isArrayOf_alike hZ.alike Ar3.2.1) Ar3.2.2 hin3 hat3 (g := (mkF m 130 #[.val (.ref r0), .val (.int p1), .val (.int p2), .val (.long q3), .second, .val (.int p4), .val (.int bs), .val (.int ln), .val (.int v1), s9, s10, s11, s12] [(.int ((bs + v1) - (1 : Int32))), (.ref r0), (.int v1), (.int bs)])) rfl rfl (hb hby d3_130) _ ?_
    show Steps p.tables e below (T0.setTop (mkF m 131 #[.val (.ref r0), .val (.int p1), .val (.int p2), .val (.long q3), .second, .val (.int p4), .val (.int bs), .val (.int ln), .val (.int v1), s9, s10, s11, s12] [(.long z2), (.int v1), (.int bs)])) _
    refine XS.iload X0.here hx rfl (hb hby d3_131) rfl ?_
    show Steps p.tables e below (T0.setTop (mkF m 133 #[.val (.ref r0), .val (.int p1), .val (.int p2), .val (.long q3), .second, .val (.int p4), .val (.int bs), .val (.int ln), .val (.int v1), s9, s10, s11, s12] [(.int p4), (.long z2), (.int v1), (.int bs)])) _
    refine XS.lushr X0.here hx rfl (hb hby d3_133) rfl ?_
    show Steps p.tables e below (T0.setTop (mkF m 134 #[.val (.ref r0), .val (.int p1), .val (.int p2), .val (.long q3), .second, .val (.int p4), .val (.int bs), .val (.int ln), .val (.int v1), s9, s10, s11, s12] [(.long ((z2.toUInt64 >>> (p4 &&& 0x3f).toInt64.toUInt64).toInt64)), (.int v1), (.int bs)])) _
    rw [hu2]
    show Steps p.tables e below (T0.setTop (mkF m 134 #[.val (.ref r0), .val (.int p1), .val (.int p2), .val (.long q3), .second, .val (.int p4), .val (.int bs), .val (.int ln), .val (.int v1), s9, s10, s11, s12] [(.long (UU (((bs + v1) - (1 : Int32))).toNatClampNeg)), (.int v1), (.int bs)])) _
    refine XS.lloadN X0.here hx rfl (hb hby d3_134) rfl ?_
    show Steps p.tables e below (T0.setTop (mkF m 135 #[.val (.ref r0), .val (.int p1), .val (.int p2), .val (.long q3), .second, .val (.int p4), .val (.int bs), .val (.int ln), .val (.int v1), s9, s10, s11, s12] [(.long q3), (.long (UU (((bs + v1) - (1 : Int32))).toNatClampNeg)), (.int v1), (.int bs)])) _
    refine XS.lsub X0.here hx rfl (hb hby d3_135) rfl ?_
    show Steps p.tables e below (T0.setTop (mkF m 136 #[.val (.ref r0), .val (.int p1), .val (.int p2), .val (.long q3), .second, .val (.int p4), .val (.int bs), .val (.int ln), .val (.int v1), s9, s10, s11, s12] [(.long ((UU (((bs + v1) - (1 : Int32))).toNatClampNeg) - q3)), (.int v1), (.int bs)])) _
    refine XS.bipush X0.here hx rfl (hb hby d3_136) ?_
    show Steps p.tables e below (T0.setTop (mkF m 138 #[.val (.ref r0), .val (.int p1), .val (.int p2), .val (.long q3), .second, .val (.int p4), .val (.int bs), .val (.int ln), .val (.int v1), s9, s10, s11, s12] [(.int (63 : Int32)), (.long ((UU (((bs + v1) - (1 : Int32))).toNatClampNeg) - q3)), (.int v1), (.int bs)])) _
    refine XS.lshr X0.here hx rfl (hb hby d3_138) rfl ?_
    show Steps p.tables e below (T0.setTop (mkF m 139 #[.val (.ref r0), .val (.int p1), .val (.int p2), .val (.long q3), .second, .val (.int p4), .val (.int bs), .val (.int ln), .val (.int v1), s9, s10, s11, s12] [(.long (((UU (((bs + v1) - (1 : Int32))).toNatClampNeg) - q3) >>> ((63 : Int32) &&& 0x3f).toInt64)), (.int v1), (.int bs)])) _
    refine XS.l2i X0.here hx rfl (hb hby d3_139) rfl ?_
    show Steps p.tables e below (T0.setTop (mkF m 140 #[.val (.ref r0), .val (.int p1), .val (.int p2), .val (.long q3), .second, .val (.int p4), .val (.int bs), .val (.int ln), .val (.int v1), s9, s10, s11, s12] [(.int ((((UU (((bs + v1) - (1 : Int32))).toNatClampNeg) - q3) >>> ((63 : Int32) &&& 0x3f).toInt64).toInt32)), (.int v1), (.int bs)])) _
    refine XS.iand X0.here hx rfl (hb hby d3_140) rfl ?_
    show Steps p.tables e below (T0.setTop (mkF m 141 #[.val (.ref r0), .val (.int p1), .val (.int p2), .val (.long q3), .second, .val (.int p4), .val (.int bs), .val (.int ln), .val (.int v1), s9, s10, s11, s12] [(.int (v1 &&& ((((UU (((bs + v1) - (1 : Int32))).toNatClampNeg) - q3) >>> ((63 : Int32) &&& 0x3f).toInt64).toInt32))), (.int bs)])) _
    refine XS.iadd X0.here hx rfl (hb hby d3_141) rfl ?_
    show Steps p.tables e below (T0.setTop (mkF m 142 #[.val (.ref r0), .val (.int p1), .val (.int p2), .val (.long q3), .second, .val (.int p4), .val (.int bs), .val (.int ln), .val (.int v1), s9, s10, s11, s12] [(.int (bs + (v1 &&& ((((UU (((bs + v1) - (1 : Int32))).toNatClampNeg) - q3) >>> ((63 : Int32) &&& 0x3f).toInt64).toInt32))))])) _
    rw [← ev4]
    show Steps p.tables e below (T0.setTop (mkF m 142 #[.val (.ref r0), .val (.int p1), .val (.int p2), .val (.long q3), .second, .val (.int p4), .val (.int bs), .val (.int ln), .val (.int v1), s9, s10, s11, s12] [(.int v4)])) _
    refine XS.istore X0.here hx rfl (hb hby d3_142) rfl (l' := #[.val (.ref r0), .val (.int p1), .val (.int p2), .val (.long q3), .second, .val (.int p4), .val (.int v4), .val (.int ln), .val (.int v1), s9, s10, s11, s12]) rfl ?_
    show Steps p.tables e below (T0.setTop (mkF m 144 #[.val (.ref r0), .val (.int p1), .val (.int p2), .val (.long q3), .second, .val (.int p4), .val (.int v4), .val (.int ln), .val (.int v1), s9, s10, s11, s12] [])) _
    refine XS.iload X0.here hx rfl (hb hby d3_144) rfl ?_
    show Steps p.tables e below (T0.setTop (mkF m 146 #[.val (.ref r0), .val (.int p1), .val (.int p2), .val (.long q3), .second, .val (.int p4), .val (.int v4), .val (.int ln), .val (.int v1), s9, s10, s11, s12] [(.int ln)])) _
    refine XS.iload X0.here hx rfl (hb hby d3_146) rfl ?_
    show Steps p.tables e below (T0.setTop (mkF m 148 #[.val (.ref r0), .val (.int p1), .val (.int p2), .val (.long q3), .second, .val (.int p4), .val (.int v4), .val (.int ln), .val (.int v1), s9, s10, s11, s12] [(.int v1), (.int ln)])) _
    refine XS.isub X0.here hx rfl (hb hby d3_148) rfl ?_
    show Steps p.tables e below (T0.setTop (mkF m 149 #[.val (.ref r0), .val (.int p1), .val (.int p2), .val (.long q3), .second, .val (.int p4), .val (.int v4), .val (.int ln), .val (.int v1), s9, s10, s11, s12] [(.int (ln - v1))])) _
    rw [← ev5]
    show Steps p.tables e below (T0.setTop (mkF m 149 #[.val (.ref r0), .val (.int p1), .val (.int p2), .val (.long q3), .second, .val (.int p4), .val (.int v4), .val (.int ln), .val (.int v1), s9, s10, s11, s12] [(.int v5)])) _
    refine XS.istore X0.here hx rfl (hb hby d3_149) rfl (l' := #[.val (.ref r0), .val (.int p1), .val (.int p2), .val (.long q3), .second, .val (.int p4), .val (.int v4), .val (.int v5), .val (.int v1), s9, s10, s11, s12]) rfl ?_
    show Steps p.tables e below (T0.setTop (mkF m 151 #[.val (.ref r0), .val (.int p1), .val (.int p2), .val (.long q3), .second, .val (.int p4), .val (.int v4), .val (.int v5), .val (.int v1), s9, s10, s11, s12] [])) _
    refine XS.goto X0.here hx rfl (pc0 := 151) (pc' := 106) rfl (hb hby d3_151) (by decide) (by decide) ?_
    exact kk)
  obtain ⟨hI', hlt⟩ := own_t2 hI hs hnn hw0 hf0 ht16 h ev1 ev4 ev5
  exact ⟨v4, v5, v1, hI', hlt, pre6⟩
theorem loop2 {p : Program} {l : Launch} {e : Env} {R : Room} {s : State} {m : MethodId} {args : Array Value} {below : List Frame} {meth : Method} {c : Code} {T0 : State} {locs : List Loc} {cells slots : Nat} {Z : State} {h0 : Heap} (r0 : Addr) (p1 p2 : Int32) (q3 : Int64) (p4 : Int32) (kA : ClassId) (ins : List Value) (UU : Nat → Int64) (X0 : Stand p l e R s m args below meth c T0 locs cells slots) (hx : p.tables.exec = Jvm.exec) (hZ : Z.Warmed39 s.vm) (hby : c.code = prog_67_method_21_code) (e0 : T0.heap = h0) (Va : Arv Z h0 r0 kA .long (16 : Int32) ins (.long (0 : Int64))) (hU : ∀ i : Nat, i < 16 → ∃ z : Int64, ins.getD i (.long (0 : Int64)) = .long z ∧ ((z.toUInt64 >>> (p4 &&& 0x3f).toInt64.toUInt64).toInt64) = UU i) (hs : ∀ i j : Nat, i ≤ j → j < 16 → (UU i).toInt ≤ (UU j).toInt) (hnn : ∀ i : Nat, i < 16 → 0 ≤ (UU i).toInt) (hw0 : 0 ≤ q3.toInt) (hf0 : 0 ≤ p1.toInt) (ht16 : p2.toInt ≤ 16) (s9 s10 s11 s12 : Slot) : ∀ (n : Nat) (bs ln : Int32) (s8 : Slot), One s8 → Inv UU q3 p1 p2 bs ln → ln.toInt ≤ n →
    ∃ (bs' ln' : Int32) (s8' : Slot), (ln' = 0 ∨ ln' = 1) ∧ Inv UU q3 p1 p2 bs' ln' ∧ ∀ t, Steps p.tables e below (T0.setTop (mkF m 154 #[.val (.ref r0), .val (.int p1), .val (.int p2), .val (.long q3), .second, .val (.int p4), .val (.int bs'), .val (.int ln'), s8', s9, s10, s11, s12] [])) t → Steps p.tables e below (T0.setTop (mkF m 106 #[.val (.ref r0), .val (.int p1), .val (.int p2), .val (.long q3), .second, .val (.int p4), .val (.int bs), .val (.int ln), s8, s9, s10, s11, s12] [])) t := by
  intro n
  induction n with
  | zero =>
    intro bs ln s8 h8 hI hn
    have h : ¬ (1 : Int32) < ln := by rw [Int32.lt_iff_toInt_lt]; show ¬ (1 : Int) < _; omega
    exact ⟨bs, ln, s8, own_01 hI h, hI, lv2 r0 p1 p2 q3 p4 kA ins UU X0 hx hZ hby e0 Va hU hs hnn hw0 hf0 ht16 bs ln s8 s9 s10 s11 s12 h⟩
  | succ n ih =>
    intro bs ln s8 h8 hI hn
    by_cases h : (1 : Int32) < ln
    · obtain ⟨b, l, hf, hI', hlt, st⟩ := tn2 r0 p1 p2 q3 p4 kA ins UU X0 hx hZ hby e0 Va hU hs hnn hw0 hf0 ht16 bs ln s8 s9 s10 s11 s12 h8 hI h
      obtain ⟨b', l', s', h1, h2, st'⟩ := ih b l (.val (.int hf)) (One.val rfl) hI' (by omega)
      exact ⟨b', l', s', h1, h2, fun t k => st t (st' t k)⟩
    · exact ⟨bs, ln, s8, own_01 hI h, hI, lv2 r0 p1 p2 q3 p4 kA ins UU X0 hx hZ hby e0 Va hU hs hnn hw0 hf0 ht16 bs ln s8 s9 s10 s11 s12 h⟩
theorem d3_0 : decode prog_67_method_21_code 0 = .ok (.iload_n 1, 1) := by decide +kernel
theorem d3_1 : decode prog_67_method_21_code 1 = .ok (.istore 6, 2) := by decide +kernel
theorem d3_3 : decode prog_67_method_21_code 3 = .ok (.iload_n 2, 1) := by decide +kernel
theorem d3_4 : decode prog_67_method_21_code 4 = .ok (.iload_n 1, 1) := by decide +kernel
theorem d3_5 : decode prog_67_method_21_code 5 = .ok (.isub, 1) := by decide +kernel
theorem d3_6 : decode prog_67_method_21_code 6 = .ok (.istore 7, 2) := by decide +kernel
theorem d3_8 : decode prog_67_method_21_code 8 = .ok (.iload 7, 2) := by decide +kernel
theorem d3_10 : decode prog_67_method_21_code 10 = .ok (.bipush 8, 2) := by decide +kernel
theorem d3_12 : decode prog_67_method_21_code 12 = .ok (.if_icmp .le 94, 3) := by decide +kernel
theorem d3_15 : decode prog_67_method_21_code 15 = .ok (.iload 7, 2) := by decide +kernel
theorem d3_17 : decode prog_67_method_21_code 17 = .ok (.bipush 8, 2) := by decide +kernel
theorem d3_19 : decode prog_67_method_21_code 19 = .ok (.idiv, 1) := by decide +kernel
theorem d3_20 : decode prog_67_method_21_code 20 = .ok (.istore 8, 2) := by decide +kernel
theorem d3_22 : decode prog_67_method_21_code 22 = .ok (.iconst 0, 1) := by decide +kernel
theorem d3_23 : decode prog_67_method_21_code 23 = .ok (.istore 9, 2) := by decide +kernel
theorem d3_25 : decode prog_67_method_21_code 25 = .ok (.iconst 1, 1) := by decide +kernel
theorem d3_26 : decode prog_67_method_21_code 26 = .ok (.istore 10, 2) := by decide +kernel
theorem d3_28 : decode prog_67_method_21_code 28 = .ok (.iload 10, 2) := by decide +kernel
theorem d3_30 : decode prog_67_method_21_code 30 = .ok (.bipush 8, 2) := by decide +kernel
theorem d3_32 : decode prog_67_method_21_code 32 = .ok (.if_icmp .ge 39, 3) := by decide +kernel
theorem d3_35 : decode prog_67_method_21_code 35 = .ok (.aload_n 0, 1) := by decide +kernel
theorem d3_36 : decode prog_67_method_21_code 36 = .ok (.iload 6, 2) := by decide +kernel
theorem d3_38 : decode prog_67_method_21_code 38 = .ok (.iload 10, 2) := by decide +kernel
theorem d3_40 : decode prog_67_method_21_code 40 = .ok (.iload 8, 2) := by decide +kernel
theorem d3_42 : decode prog_67_method_21_code 42 = .ok (.imul, 1) := by decide +kernel
theorem d3_43 : decode prog_67_method_21_code 43 = .ok (.iadd, 1) := by decide +kernel
theorem d3_44 : decode prog_67_method_21_code 44 = .ok (.iconst 1, 1) := by decide +kernel
theorem d3_45 : decode prog_67_method_21_code 45 = .ok (.isub, 1) := by decide +kernel
theorem d3_46 : decode prog_67_method_21_code 46 = .ok (.laload, 1) := by decide +kernel
theorem d3_47 : decode prog_67_method_21_code 47 = .ok (.iload 5, 2) := by decide +kernel
theorem d3_49 : decode prog_67_method_21_code 49 = .ok (.lushr, 1) := by decide +kernel
theorem d3_50 : decode prog_67_method_21_code 50 = .ok (.lstore 11, 2) := by decide +kernel
theorem d3_52 : decode prog_67_method_21_code 52 = .ok (.iload 9, 2) := by decide +kernel
theorem d3_54 : decode prog_67_method_21_code 54 = .ok (.lload 11, 2) := by decide +kernel
theorem d3_56 : decode prog_67_method_21_code 56 = .ok (.lload_n 3, 1) := by decide +kernel
theorem d3_57 : decode prog_67_method_21_code 57 = .ok (.lsub, 1) := by decide +kernel
theorem d3_58 : decode prog_67_method_21_code 58 = .ok (.bipush 63, 2) := by decide +kernel
theorem d3_60 : decode prog_67_method_21_code 60 = .ok (.lushr, 1) := by decide +kernel
theorem d3_61 : decode prog_67_method_21_code 61 = .ok (.l2i, 1) := by decide +kernel
theorem d3_62 : decode prog_67_method_21_code 62 = .ok (.iadd, 1) := by decide +kernel
theorem d3_63 : decode prog_67_method_21_code 63 = .ok (.istore 9, 2) := by decide +kernel
theorem d3_65 : decode prog_67_method_21_code 65 = .ok (.iinc 10 1, 3) := by decide +kernel
theorem d3_68 : decode prog_67_method_21_code 68 = .ok (.goto (-40), 3) := by decide +kernel
theorem d3_71 : decode prog_67_method_21_code 71 = .ok (.iload 9, 2) := by decide +kernel
theorem d3_73 : decode prog_67_method_21_code 73 = .ok (.bipush 7, 2) := by decide +kernel
theorem d3_75 : decode prog_67_method_21_code 75 = .ok (.if_icmp .ne 14, 3) := by decide +kernel
theorem d3_78 : decode prog_67_method_21_code 78 = .ok (.iload 7, 2) := by decide +kernel
theorem d3_80 : decode prog_67_method_21_code 80 = .ok (.iload 9, 2) := by decide +kernel
theorem d3_82 : decode prog_67_method_21_code 82 = .ok (.iload 8, 2) := by decide +kernel
theorem d3_84 : decode prog_67_method_21_code 84 = .ok (.imul, 1) := by decide +kernel
theorem d3_85 : decode prog_67_method_21_code 85 = .ok (.isub, 1) := by decide +kernel
theorem d3_86 : decode prog_67_method_21_code 86 = .ok (.goto 5, 3) := by decide +kernel
theorem d3_89 : decode prog_67_method_21_code 89 = .ok (.iload 8, 2) := by decide +kernel
theorem d3_91 : decode prog_67_method_21_code 91 = .ok (.istore 7, 2) := by decide +kernel
theorem d3_93 : decode prog_67_method_21_code 93 = .ok (.iload 6, 2) := by decide +kernel
theorem d3_95 : decode prog_67_method_21_code 95 = .ok (.iload 9, 2) := by decide +kernel
theorem d3_97 : decode prog_67_method_21_code 97 = .ok (.iload 8, 2) := by decide +kernel
theorem d3_99 : decode prog_67_method_21_code 99 = .ok (.imul, 1) := by decide +kernel
theorem d3_100 : decode prog_67_method_21_code 100 = .ok (.iadd, 1) := by decide +kernel
theorem d3_101 : decode prog_67_method_21_code 101 = .ok (.istore 6, 2) := by decide +kernel
theorem d3_103 : decode prog_67_method_21_code 103 = .ok (.goto (-95), 3) := by decide +kernel
theorem d3_154 : decode prog_67_method_21_code 154 = .ok (.iload 7, 2) := by decide +kernel
theorem d3_156 : decode prog_67_method_21_code 156 = .ok (.ifCond .ne 8, 3) := by decide +kernel
theorem d3_159 : decode prog_67_method_21_code 159 = .ok (.iload 6, 2) := by decide +kernel
theorem d3_161 : decode prog_67_method_21_code 161 = .ok (.goto 19, 3) := by decide +kernel
theorem d3_180 : decode prog_67_method_21_code 180 = .ok (.ireturn, 1) := by decide +kernel
theorem d3_164 : decode prog_67_method_21_code 164 = .ok (.iload 6, 2) := by decide +kernel
theorem d3_166 : decode prog_67_method_21_code 166 = .ok (.aload_n 0, 1) := by decide +kernel
theorem d3_167 : decode prog_67_method_21_code 167 = .ok (.iload 6, 2) := by decide +kernel
theorem d3_169 : decode prog_67_method_21_code 169 = .ok (.laload, 1) := by decide +kernel
theorem d3_170 : decode prog_67_method_21_code 170 = .ok (.iload 5, 2) := by decide +kernel
theorem d3_172 : decode prog_67_method_21_code 172 = .ok (.lushr, 1) := by decide +kernel
theorem d3_173 : decode prog_67_method_21_code 173 = .ok (.lload_n 3, 1) := by decide +kernel
theorem d3_174 : decode prog_67_method_21_code 174 = .ok (.lsub, 1) := by decide +kernel
theorem d3_175 : decode prog_67_method_21_code 175 = .ok (.bipush 63, 2) := by decide +kernel
theorem d3_177 : decode prog_67_method_21_code 177 = .ok (.lushr, 1) := by decide +kernel
theorem d3_178 : decode prog_67_method_21_code 178 = .ok (.l2i, 1) := by decide +kernel
theorem d3_179 : decode prog_67_method_21_code 179 = .ok (.iadd, 1) := by decide +kernel
def Q3 (UU : Nat → Int64) (p1 p2 : Int32) (q3 : Int64) (h0 : Heap) (n0 : Nat) (v : Option Value) (h : Heap) (L : List Loc) : Prop := ∃ r : Int32, v = some (.int r) ∧ Fr n0 L ∧ h = h0 ∧ Got UU q3 p1 p2 r
theorem pn_com_example_copyleaf_copyleaf_page_Page : plainName "com/example/copyleaf/copyleaf/page/Page" = true := by first | (simp [plainName, overriddenIn]; done) | decide +kernel
theorem ef_3 (m : MethodId) (r0 : Addr) (p1 : Int32) (p2 : Int32) (q3 : Int64) (p4 : Int32) : entryFrame m #[(.ref r0), (.int p1), (.int p2), (.long q3), (.int p4)] 13 = mkF m 0 #[.val (.ref r0), .val (.int p1), .val (.int p2), .val (.long q3), .second, .val (.int p4), .unset, .unset, .unset, .unset, .unset, .unset, .unset] [] := by first | (simp [entryFrame, mkF, argsToLocals, Value.category]; done) | rfl
set_option maxRecDepth 65536 in
set_option maxHeartbeats 40000000 in
theorem rm3 (l : Launch) (Z : State) (a0 : Array Value) (hw : ∀ d ∈ tables_1, d.before a0 Z = true) (ws : List Jvm.Cond) (r0 : Addr) (p1 : Int32) (p2 : Int32) (q3 : Int64) (p4 : Int32) (kA : ClassId) (ins : List Value) (UU : Nat → Int64) (h0 : Heap) (n0 : Nat) (Z0 : n0 ≤ h0.size) (Va : Arv Z h0 r0 kA .long (16 : Int32) ins (.long (0 : Int64))) (hU : ∀ i : Nat, i < 16 → ∃ z : Int64, ins.getD i (.long (0 : Int64)) = .long z ∧ ((z.toUInt64 >>> (p4 &&& 0x3f).toInt64.toUInt64).toInt64) = UU i) (hs : ∀ i j : Nat, i ≤ j → j < 16 → (UU i).toInt ≤ (UU j).toInt) (hnn : ∀ i : Nat, i < 16 → 0 ≤ (UU i).toInt) (hw0 : 0 ≤ q3.toInt) (hf0 : 0 ≤ p1.toInt) (ht16 : p2.toInt ≤ 16) (hft : p1.toInt ≤ p2.toInt) :
    MetFree l (⟨"com/example/copyleaf/copyleaf/page/Page", "firstAtLeast", "([JIIJI)I"⟩ : MethodName) (head1 (Jvm.Cond.code (⟨"com/example/copyleaf/copyleaf/page/Page", "firstAtLeast", "([JIIJI)I"⟩ : MethodName) prog_67_method_21_code 13 (some .int) :: ws) ({ frames := 0, cells := 0, slots := 0, locals := 0 } : Room)) (fun a U => a = #[(.ref r0), (.int p1), (.int p2), (.long q3), (.int p4)] ∧ Z.Warmed39 U.vm ∧ U.heap = h0) (fun _ _ _ _ _ => True) (fun _ U o U' => ∃ v L, o = .returned v ∧ Q3 UU p1 p2 q3 h0 n0 v U'.heap L ∧ FrameEnd U o U' L ({ frames := 0, cells := 0, slots := 0, locals := 0 } : Room).cells ({ frames := 0, cells := 0, slots := 0, locals := 0 } : Room).slots) := by
  refine MetFree.of_bodySF (plainFor_of_name pn_com_example_copyleaf_copyleaf_page_Page) hisR ?_
  intro p e s m args below meth c s₁ Bd hml0 hP hK
  obtain ⟨rfl, hZ, hh⟩ := hP
  have hx := Bd.exec
  have hby := Bd.bytes
  have hml : c.maxLocals = 13 := hml0
  have hown : s.vm.findClass "com/example/copyleaf/copyleaf/page/Page" = some m.cls := findClass_of_methodNamed Bd.named
  have hnm := (name_of_methodNamed Bd.named Bd.method).1
  have X0 : Stand p l e ({ frames := 0, cells := 0, slots := 0, locals := 0 } : Room) s m #[(.ref r0), (.int p1), (.int p2), (.long q3), (.int p4)] below meth c s₁ [] 0 0 := Stand.of_body Bd
  have e0 : s₁.heap = h0 := by rw [← hh, Bd.state]; rfl
  have N0 := Fr.nil n0
  have pre0 : ∀ t, Steps p.tables e below (s₁.setTop (mkF m 0 #[.val (.ref r0), .val (.int p1), .val (.int p2), .val (.long q3), .second, .val (.int p4), .unset, .unset, .unset, .unset, .unset, .unset, .unset] [])) t → Steps p.tables e below (s₁.setTop (entryFrame m #[(.ref r0), (.int p1), (.int p2), (.long q3), (.int p4)] 13)) t := fun t k => castTop (ef_3 m r0 p1 p2 q3 p4) k
  obtain ⟨v1, ev1⟩ : ∃ z : Int32, z = (p2 - p1) := ⟨_, rfl⟩
  have hI0 : Inv UU q3 p1 p2 p1 v1 := own_inv0 hf0 hft ev1
  have pre2 : ∀ t, Steps p.tables e below (s₁.setTop (mkF m 12 #[.val (.ref r0), .val (.int p1), .val (.int p2), .val (.long q3), .second, .val (.int p4), .val (.int p1), .val (.int v1), .unset, .unset, .unset, .unset, .unset] [(.int (8 : Int32)), (.int v1)])) t → Steps p.tables e below (s₁.setTop (entryFrame m #[(.ref r0), (.int p1), (.int p2), (.long q3), (.int p4)] 13)) t := fun t kk => pre0 t (by
    show Steps p.tables e below (s₁.setTop (mkF m 0 #[.val (.ref r0), .val (.int p1), .val (.int p2), .val (.long q3), .second, .val (.int p4), .unset, .unset, .unset, .unset, .unset, .unset, .unset] [])) _
    refine XS.iloadN X0.here hx rfl (hb hby d3_0) rfl ?_
    show Steps p.tables e below (s₁.setTop (mkF m 1 #[.val (.ref r0), .val (.int p1), .val (.int p2), .val (.long q3), .second, .val (.int p4), .unset, .unset, .unset, .unset, .unset, .unset, .unset] [(.int p1)])) _
    refine XS.istore X0.here hx rfl (hb hby d3_1) rfl (l' := #[.val (.ref r0), .val (.int p1), .val (.int p2), .val (.long q3), .second, .val (.int p4), .val (.int p1), .unset, .unset, .unset, .unset, .unset, .unset]) rfl ?_
    show Steps p.tables e below (s₁.setTop (mkF m 3 #[.val (.ref r0), .val (.int p1), .val (.int p2), .val (.long q3), .second, .val (.int p4), .val (.int p1), .unset, .unset, .unset, .unset, .unset, .unset] [])) _
    refine XS.iloadN X0.here hx rfl (hb hby d3_3) rfl ?_
    show Steps p.tables e below (s₁.setTop (mkF m 4 #[.val (.ref r0), .val (.int p1), .val (.int p2), .val (.long q3), .second, .val (.int p4), .val (.int p1), .unset, .unset, .unset, .unset, .unset, .unset] [(.int p2)])) _
    refine XS.iloadN X0.here hx rfl (hb hby d3_4) rfl ?_
    show Steps p.tables e below (s₁.setTop (mkF m 5 #[.val (.ref r0), .val (.int p1), .val (.int p2), .val (.long q3), .second, .val (.int p4), .val (.int p1), .unset, .unset, .unset, .unset, .unset, .unset] [(.int p1), (.int p2)])) _
    refine XS.isub X0.here hx rfl (hb hby d3_5) rfl ?_
    show Steps p.tables e below (s₁.setTop (mkF m 6 #[.val (.ref r0), .val (.int p1), .val (.int p2), .val (.long q3), .second, .val (.int p4), .val (.int p1), .unset, .unset, .unset, .unset, .unset, .unset] [(.int (p2 - p1))])) _
    rw [← ev1]
    show Steps p.tables e below (s₁.setTop (mkF m 6 #[.val (.ref r0), .val (.int p1), .val (.int p2), .val (.long q3), .second, .val (.int p4), .val (.int p1), .unset, .unset, .unset, .unset, .unset, .unset] [(.int v1)])) _
    refine XS.istore X0.here hx rfl (hb hby d3_6) rfl (l' := #[.val (.ref r0), .val (.int p1), .val (.int p2), .val (.long q3), .second, .val (.int p4), .val (.int p1), .val (.int v1), .unset, .unset, .unset, .unset, .unset]) rfl ?_
    show Steps p.tables e below (s₁.setTop (mkF m 8 #[.val (.ref r0), .val (.int p1), .val (.int p2), .val (.long q3), .second, .val (.int p4), .val (.int p1), .val (.int v1), .unset, .unset, .unset, .unset, .unset] [])) _
    refine XS.iload X0.here hx rfl (hb hby d3_8) rfl ?_
    show Steps p.tables e below (s₁.setTop (mkF m 10 #[.val (.ref r0), .val (.int p1), .val (.int p2), .val (.long q3), .second, .val (.int p4), .val (.int p1), .val (.int v1), .unset, .unset, .unset, .unset, .unset] [(.int v1)])) _
    refine XS.bipush X0.here hx rfl (hb hby d3_10) ?_
    exact kk)
  by_cases hc3 : (8 : Int32) < v1
  · obtain ⟨v4, ev4⟩ : ∃ z : Int32, z = (v1 / (8 : Int32)) := ⟨_, rfl⟩
    obtain ⟨hj5, hjj5, hjn5⟩ := (own_i1 hI0 hf0 ht16 hc3 ev4 (1 : Int32) 1 (by decide) (by decide) (by decide))
    obtain ⟨z5, hz5, hu5⟩ := hU (((p1 + ((1 : Int32) * v4)) - (1 : Int32))).toNatClampNeg hjn5
    obtain ⟨cl6, Ar6, -, S6, -, H6, -⟩ := id Va
    have hin6 : ¬ (((p1 + ((1 : Int32) * v4)) - (1 : Int32)) < 0 ∨ cl6.slots.size ≤ (((p1 + ((1 : Int32) * v4)) - (1 : Int32))).toNatClampNeg) := inb_of S6 ⟨hj5, hjj5⟩
    have hat6 : cl6.slots[(((p1 + ((1 : Int32) * v4)) - (1 : Int32))).toNatClampNeg]? = some (.long z5) := Has.at H6 hin6 hz5
    obtain ⟨c7, ec7⟩ : ∃ z : Int32, z = (((((UU (((p1 + ((1 : Int32) * v4)) - (1 : Int32))).toNatClampNeg) - q3).toUInt64 >>> ((63 : Int32) &&& 0x3f).toInt64.toUInt64).toInt64).toInt32) := ⟨_, rfl⟩
    have sc7 := own_sg (hnn _ hjn5) hw0 ec7
    obtain ⟨v8, ev8⟩ : ∃ z : Int32, z = ((0 : Int32) + c7) := ⟨_, rfl⟩
    obtain ⟨hj9, hjj9, hjn9⟩ := (own_i1 hI0 hf0 ht16 hc3 ev4 (2 : Int32) 2 (by decide) (by decide) (by decide))
    obtain ⟨z9, hz9, hu9⟩ := hU (((p1 + ((2 : Int32) * v4)) - (1 : Int32))).toNatClampNeg hjn9
    obtain ⟨cl10, Ar10, -, S10, -, H10, -⟩ := id Va
    have hin10 : ¬ (((p1 + ((2 : Int32) * v4)) - (1 : Int32)) < 0 ∨ cl10.slots.size ≤ (((p1 + ((2 : Int32) * v4)) - (1 : Int32))).toNatClampNeg) := inb_of S10 ⟨hj9, hjj9⟩
    have hat10 : cl10.slots[(((p1 + ((2 : Int32) * v4)) - (1 : Int32))).toNatClampNeg]? = some (.long z9) := Has.at H10 hin10 hz9
    obtain ⟨c11, ec11⟩ : ∃ z : Int32, z = (((((UU (((p1 + ((2 : Int32) * v4)) - (1 : Int32))).toNatClampNeg) - q3).toUInt64 >>> ((63 : Int32) &&& 0x3f).toInt64.toUInt64).toInt64).toInt32) := ⟨_, rfl⟩
    have sc11 := own_sg (hnn _ hjn9) hw0 ec11
    obtain ⟨v12, ev12⟩ : ∃ z : Int32, z = (v8 + c11) := ⟨_, rfl⟩
    obtain ⟨hj13, hjj13, hjn13⟩ := (own_i1 hI0 hf0 ht16 hc3 ev4 (3 : Int32) 3 (by decide) (by decide) (by decide))
    obtain ⟨z13, hz13, hu13⟩ := hU (((p1 + ((3 : Int32) * v4)) - (1 : Int32))).toNatClampNeg hjn13
    obtain ⟨cl14, Ar14, -, S14, -, H14, -⟩ := id Va
    have hin14 : ¬ (((p1 + ((3 : Int32) * v4)) - (1 : Int32)) < 0 ∨ cl14.slots.size ≤ (((p1 + ((3 : Int32) * v4)) - (1 : Int32))).toNatClampNeg) := inb_of S14 ⟨hj13, hjj13⟩
    have hat14 : cl14.slots[(((p1 + ((3 : Int32) * v4)) - (1 : Int32))).toNatClampNeg]? = some (.long z13) := Has.at H14 hin14 hz13
    obtain ⟨c15, ec15⟩ : ∃ z : Int32, z = (((((UU (((p1 + ((3 : Int32) * v4)) - (1 : Int32))).toNatClampNeg) - q3).toUInt64 >>> ((63 : Int32) &&& 0x3f).toInt64.toUInt64).toInt64).toInt32) := ⟨_, rfl⟩
    have sc15 := own_sg (hnn _ hjn13) hw0 ec15
    obtain ⟨v16, ev16⟩ : ∃ z : Int32, z = (v12 + c15) := ⟨_, rfl⟩
    obtain ⟨hj17, hjj17, hjn17⟩ := (own_i1 hI0 hf0 ht16 hc3 ev4 (4 : Int32) 4 (by decide) (by decide) (by decide))
    obtain ⟨z17, hz17, hu17⟩ := hU (((p1 + ((4 : Int32) * v4)) - (1 : Int32))).toNatClampNeg hjn17
    obtain ⟨cl18, Ar18, -, S18, -, H18, -⟩ := id Va
    have hin18 : ¬ (((p1 + ((4 : Int32) * v4)) - (1 : Int32)) < 0 ∨ cl18.slots.size ≤ (((p1 + ((4 : Int32) * v4)) - (1 : Int32))).toNatClampNeg) := inb_of S18 ⟨hj17, hjj17⟩
    have hat18 : cl18.slots[(((p1 + ((4 : Int32) * v4)) - (1 : Int32))).toNatClampNeg]? = some (.long z17) := Has.at H18 hin18 hz17
    obtain ⟨c19, ec19⟩ : ∃ z : Int32, z = (((((UU (((p1 + ((4 : Int32) * v4)) - (1 : Int32))).toNatClampNeg) - q3).toUInt64 >>> ((63 : Int32) &&& 0x3f).toInt64.toUInt64).toInt64).toInt32) := ⟨_, rfl⟩
    have sc19 := own_sg (hnn _ hjn17) hw0 ec19
    obtain ⟨v20, ev20⟩ : ∃ z : Int32, z = (v16 + c19) := ⟨_, rfl⟩
    obtain ⟨hj21, hjj21, hjn21⟩ := (own_i1 hI0 hf0 ht16 hc3 ev4 (5 : Int32) 5 (by decide) (by decide) (by decide))
    obtain ⟨z21, hz21, hu21⟩ := hU (((p1 + ((5 : Int32) * v4)) - (1 : Int32))).toNatClampNeg hjn21
    obtain ⟨cl22, Ar22, -, S22, -, H22, -⟩ := id Va
    have hin22 : ¬ (((p1 + ((5 : Int32) * v4)) - (1 : Int32)) < 0 ∨ cl22.slots.size ≤ (((p1 + ((5 : Int32) * v4)) - (1 : Int32))).toNatClampNeg) := inb_of S22 ⟨hj21, hjj21⟩
    have hat22 : cl22.slots[(((p1 + ((5 : Int32) * v4)) - (1 : Int32))).toNatClampNeg]? = some (.long z21) := Has.at H22 hin22 hz21
    obtain ⟨c23, ec23⟩ : ∃ z : Int32, z = (((((UU (((p1 + ((5 : Int32) * v4)) - (1 : Int32))).toNatClampNeg) - q3).toUInt64 >>> ((63 : Int32) &&& 0x3f).toInt64.toUInt64).toInt64).toInt32) := ⟨_, rfl⟩
    have sc23 := own_sg (hnn _ hjn21) hw0 ec23
    obtain ⟨v24, ev24⟩ : ∃ z : Int32, z = (v20 + c23) := ⟨_, rfl⟩
    obtain ⟨hj25, hjj25, hjn25⟩ := (own_i1 hI0 hf0 ht16 hc3 ev4 (6 : Int32) 6 (by decide) (by decide) (by decide))
    obtain ⟨z25, hz25, hu25⟩ := hU (((p1 + ((6 : Int32) * v4)) - (1 : Int32))).toNatClampNeg hjn25
    obtain ⟨cl26, Ar26, -, S26, -, H26, -⟩ := id Va
    have hin26 : ¬ (((p1 + ((6 : Int32) * v4)) - (1 : Int32)) < 0 ∨ cl26.slots.size ≤ (((p1 + ((6 : Int32) * v4)) - (1 : Int32))).toNatClampNeg) := inb_of S26 ⟨hj25, hjj25⟩
    have hat26 : cl26.slots[(((p1 + ((6 : Int32) * v4)) - (1 : Int32))).toNatClampNeg]? = some (.long z25) := Has.at H26 hin26 hz25
    obtain ⟨c27, ec27⟩ : ∃ z : Int32, z = (((((UU (((p1 + ((6 : Int32) * v4)) - (1 : Int32))).toNatClampNeg) - q3).toUInt64 >>> ((63 : Int32) &&& 0x3f).toInt64.toUInt64).toInt64).toInt32) := ⟨_, rfl⟩
    have sc27 := own_sg (hnn _ hjn25) hw0 ec27
    obtain ⟨v28, ev28⟩ : ∃ z : Int32, z = (v24 + c27) := ⟨_, rfl⟩
    obtain ⟨hj29, hjj29, hjn29⟩ := (own_i1 hI0 hf0 ht16 hc3 ev4 (7 : Int32) 7 (by decide) (by decide) (by decide))
    obtain ⟨z29, hz29, hu29⟩ := hU (((p1 + ((7 : Int32) * v4)) - (1 : Int32))).toNatClampNeg hjn29
    obtain ⟨cl30, Ar30, -, S30, -, H30, -⟩ := id Va
    have hin30 : ¬ (((p1 + ((7 : Int32) * v4)) - (1 : Int32)) < 0 ∨ cl30.slots.size ≤ (((p1 + ((7 : Int32) * v4)) - (1 : Int32))).toNatClampNeg) := inb_of S30 ⟨hj29, hjj29⟩
    have hat30 : cl30.slots[(((p1 + ((7 : Int32) * v4)) - (1 : Int32))).toNatClampNeg]? = some (.long z29) := Has.at H30 hin30 hz29
    obtain ⟨c31, ec31⟩ : ∃ z : Int32, z = (((((UU (((p1 + ((7 : Int32) * v4)) - (1 : Int32))).toNatClampNeg) - q3).toUInt64 >>> ((63 : Int32) &&& 0x3f).toInt64.toUInt64).toInt64).toInt32) := ⟨_, rfl⟩
    have sc31 := own_sg (hnn _ hjn29) hw0 ec31
    obtain ⟨v32, ev32⟩ : ∃ z : Int32, z = (v28 + c31) := ⟨_, rfl⟩
    have pre33 : ∀ t, Steps p.tables e below (s₁.setTop (mkF m 75 #[.val (.ref r0), .val (.int p1), .val (.int p2), .val (.long q3), .second, .val (.int p4), .val (.int p1), .val (.int v1), .val (.int v4), .val (.int v32), .val (.int (8 : Int32)), .val (.long (UU (((p1 + ((7 : Int32) * v4)) - (1 : Int32))).toNatClampNeg)), .second] [(.int (7 : Int32)), (.int v32)])) t → Steps p.tables e below (s₁.setTop (entryFrame m #[(.ref r0), (.int p1), (.int p2), (.long q3), (.int p4)] 13)) t := fun t kk => pre2 t (by
      show Steps p.tables e below (s₁.setTop (mkF m 12 #[.val (.ref r0), .val (.int p1), .val (.int p2), .val (.long q3), .second, .val (.int p4), .val (.int p1), .val (.int v1), .unset, .unset, .unset, .unset, .unset] [(.int (8 : Int32)), (.int v1)])) _
      refine XS.icmpNo X0.here hx rfl (hb hby d3_12) rfl (tlt hc3).2.2.2 ?_
      show Steps p.tables e below (s₁.setTop (mkF m 15 #[.val (.ref r0), .val (.int p1), .val (.int p2), .val (.long q3), .second, .val (.int p4), .val (.int p1), .val (.int v1), .unset, .unset, .unset, .unset, .unset] [])) _
      refine XS.iload X0.here hx rfl (hb hby d3_15) rfl ?_
      show Steps p.tables e below (s₁.setTop (mkF m 17 #[.val (.ref r0), .val (.int p1), .val (.int p2), .val (.long q3), .second, .val (.int p4), .val (.int p1), .val (.int v1), .unset, .unset, .unset, .unset, .unset] [(.int v1)])) _
      refine XS.bipush X0.here hx rfl (hb hby d3_17) ?_
      show Steps p.tables e below (s₁.setTop (mkF m 19 #[.val (.ref r0), .val (.int p1), .val (.int p2), .val (.long q3), .second, .val (.int p4), .val (.int p1), .val (.int v1), .unset, .unset, .unset, .unset, .unset] [(.int (8 : Int32)), (.int v1)])) _
      refine XS.idiv X0.here hx rfl (hb hby d3_19) rfl (by decide) ?_
      show Steps p.tables e below (s₁.setTop (mkF m 20 #[.val (.ref r0), .val (.int p1), .val (.int p2), .val (.long q3), .second, .val (.int p4), .val (.int p1), .val (.int v1), .unset, .unset, .unset, .unset, .unset] [(.int (v1 / (8 : Int32)))])) _
      rw [← ev4]
      show Steps p.tables e below (s₁.setTop (mkF m 20 #[.val (.ref r0), .val (.int p1), .val (.int p2), .val (.long q3), .second, .val (.int p4), .val (.int p1), .val (.int v1), .unset, .unset, .unset, .unset, .unset] [(.int v4)])) _
      refine XS.istore X0.here hx rfl (hb hby d3_20) rfl (l' := #[.val (.ref r0), .val (.int p1), .val (.int p2), .val (.long q3), .second, .val (.int p4), .val (.int p1), .val (.int v1), .val (.int v4), .unset, .unset, .unset, .unset]) rfl ?_
      show Steps p.tables e below (s₁.setTop (mkF m 22 #[.val (.ref r0), .val (.int p1), .val (.int p2), .val (.long q3), .second, .val (.int p4), .val (.int p1), .val (.int v1), .val (.int v4), .unset, .unset, .unset, .unset] [])) _
      refine XS.iconst X0.here hx rfl (hb hby d3_22) ?_
      show Steps p.tables e below (s₁.setTop (mkF m 23 #[.val (.ref r0), .val (.int p1), .val (.int p2), .val (.long q3), .second, .val (.int p4), .val (.int p1), .val (.int v1), .val (.int v4), .unset, .unset, .unset, .unset] [(.int (0 : Int32))])) _
      refine XS.istore X0.here hx rfl (hb hby d3_23) rfl (l' := #[.val (.ref r0), .val (.int p1), .val (.int p2), .val (.long q3), .second, .val (.int p4), .val (.int p1), .val (.int v1), .val (.int v4), .val (.int (0 : Int32)), .unset, .unset, .unset]) rfl ?_
      show Steps p.tables e below (s₁.setTop (mkF m 25 #[.val (.ref r0), .val (.int p1), .val (.int p2), .val (.long q3), .second, .val (.int p4), .val (.int p1), .val (.int v1), .val (.int v4), .val (.int (0 : Int32)), .unset, .unset, .unset] [])) _
      refine XS.iconst X0.here hx rfl (hb hby d3_25) ?_
      show Steps p.tables e below (s₁.setTop (mkF m 26 #[.val (.ref r0), .val (.int p1), .val (.int p2), .val (.long q3), .second, .val (.int p4), .val (.int p1), .val (.int v1), .val (.int v4), .val (.int (0 : Int32)), .unset, .unset, .unset] [(.int (1 : Int32))])) _
      refine XS.istore X0.here hx rfl (hb hby d3_26) rfl (l' := #[.val (.ref r0), .val (.int p1), .val (.int p2), .val (.long q3), .second, .val (.int p4), .val (.int p1), .val (.int v1), .val (.int v4), .val (.int (0 : Int32)), .val (.int (1 : Int32)), .unset, .unset]) rfl ?_
      show Steps p.tables e below (s₁.setTop (mkF m 28 #[.val (.ref r0), .val (.int p1), .val (.int p2), .val (.long q3), .second, .val (.int p4), .val (.int p1), .val (.int v1), .val (.int v4), .val (.int (0 : Int32)), .val (.int (1 : Int32)), .unset, .unset] [])) _
      refine XS.iload X0.here hx rfl (hb hby d3_28) rfl ?_
      show Steps p.tables e below (s₁.setTop (mkF m 30 #[.val (.ref r0), .val (.int p1), .val (.int p2), .val (.long q3), .second, .val (.int p4), .val (.int p1), .val (.int v1), .val (.int v4), .val (.int (0 : Int32)), .val (.int (1 : Int32)), .unset, .unset] [(.int (1 : Int32))])) _
      refine XS.bipush X0.here hx rfl (hb hby d3_30) ?_
      show Steps p.tables e below (s₁.setTop (mkF m 32 #[.val (.ref r0), .val (.int p1), .val (.int p2), .val (.long q3), .second, .val (.int p4), .val (.int p1), .val (.int v1), .val (.int v4), .val (.int (0 : Int32)), .val (.int (1 : Int32)), .unset, .unset] [(.int (8 : Int32)), (.int (1 : Int32))])) _
      refine XS.icmpNo X0.here hx rfl (hb hby d3_32) rfl (tlt (by decide)).2.1 ?_
      show Steps p.tables e below (s₁.setTop (mkF m 35 #[.val (.ref r0), .val (.int p1), .val (.int p2), .val (.long q3), .second, .val (.int p4), .val (.int p1), .val (.int v1), .val (.int v4), .val (.int (0 : Int32)), .val (.int (1 : Int32)), .unset, .unset] [])) _
      refine XS.aloadN X0.here hx rfl (hb hby d3_35) rfl rfl ?_
      show Steps p.tables e below (s₁.setTop (mkF m 36 #[.val (.ref r0), .val (.int p1), .val (.int p2), .val (.long q3), .second, .val (.int p4), .val (.int p1), .val (.int v1), .val (.int v4), .val (.int (0 : Int32)), .val (.int (1 : Int32)), .unset, .unset] [(.ref r0)])) _
      refine XS.iload X0.here hx rfl (hb hby d3_36) rfl ?_
      show Steps p.tables e below (s₁.setTop (mkF m 38 #[.val (.ref r0), .val (.int p1), .val (.int p2), .val (.long q3), .second, .val (.int p4), .val (.int p1), .val (.int v1), .val (.int v4), .val (.int (0 : Int32)), .val (.int (1 : Int32)), .unset, .unset] [(.int p1), (.ref r0)])) _
      refine XS.iload X0.here hx rfl (hb hby d3_38) rfl ?_
      show Steps p.tables e below (s₁.setTop (mkF m 40 #[.val (.ref r0), .val (.int p1), .val (.int p2), .val (.long q3), .second, .val (.int p4), .val (.int p1), .val (.int v1), .val (.int v4), .val (.int (0 : Int32)), .val (.int (1 : Int32)), .unset, .unset] [(.int (1 : Int32)), (.int p1), (.ref r0)])) _
      refine XS.iload X0.here hx rfl (hb hby d3_40) rfl ?_
      show Steps p.tables e below (s₁.setTop (mkF m 42 #[.val (.ref r0), .val (.int p1), .val (.int p2), .val (.long q3), .second, .val (.int p4), .val (.int p1), .val (.int v1), .val (.int v4), .val (.int (0 : Int32)), .val (.int (1 : Int32)), .unset, .unset] [(.int v4), (.int (1 : Int32)), (.int p1), (.ref r0)])) _
      refine XS.imul X0.here hx rfl (hb hby d3_42) rfl ?_
      show Steps p.tables e below (s₁.setTop (mkF m 43 #[.val (.ref r0), .val (.int p1), .val (.int p2), .val (.long q3), .second, .val (.int p4), .val (.int p1), .val (.int v1), .val (.int v4), .val (.int (0 : Int32)), .val (.int (1 : Int32)), .unset, .unset] [(.int ((1 : Int32) * v4)), (.int p1), (.ref r0)])) _
      refine XS.iadd X0.here hx rfl (hb hby d3_43) rfl ?_
      show Steps p.tables e below (s₁.setTop (mkF m 44 #[.val (.ref r0), .val (.int p1), .val (.int p2), .val (.long q3), .second, .val (.int p4), .val (.int p1), .val (.int v1), .val (.int v4), .val (.int (0 : Int32)), .val (.int (1 : Int32)), .unset, .unset] [(.int (p1 + ((1 : Int32) * v4))), (.ref r0)])) _
      refine XS.iconst X0.here hx rfl (hb hby d3_44) ?_
      show Steps p.tables e below (s₁.setTop (mkF m 45 #[.val (.ref r0), .val (.int p1), .val (.int p2), .val (.long q3), .second, .val (.int p4), .val (.int p1), .val (.int v1), .val (.int v4), .val (.int (0 : Int32)), .val (.int (1 : Int32)), .unset, .unset] [(.int (1 : Int32)), (.int (p1 + ((1 : Int32) * v4))), (.ref r0)])) _
      refine XS.isub X0.here hx rfl (hb hby d3_45) rfl ?_
      show Steps p.tables e below (s₁.setTop (mkF m 46 #[.val (.ref r0), .val (.int p1), .val (.int p2), .val (.long q3), .second, .val (.int p4), .val (.int p1), .val (.int v1), .val (.int v4), .val (.int (0 : Int32)), .val (.int (1 : Int32)), .unset, .unset] [(.int ((p1 + ((1 : Int32) * v4)) - (1 : Int32))), (.ref r0)])) _
      refine X0.laload hx (j := ((p1 + ((1 : Int32) * v4)) - (1 : Int32))) (v := (.long z5)) (by rw [e0]; exact Ar6.1) (State.isArrayOf_alike hZ.alike Ar6.2.1) Ar6.2.2 hin6 hat6 (g := (mkF m 46 #[.val (.ref r0), .val (.int p1), .val (.int p2), .val (.long q3), .second, .val (.int p4), .val (.int p1), .val (.int v1), .val (.int v4), .val (.int (0 : Int32)), .val (.int (1 : Int32)), .unset, .unset] [(.int ((p1 + ((1 : Int32) * v4)) - (1 : Int32))), (.ref r0)])) rfl rfl (hb hby d3_46) _ ?_
      show Steps p.tables e below (s₁.setTop (mkF m 47 #[.val (.ref r0), .val (.int p1), .val (.int p2), .val (.long q3), .second, .val (.int p4), .val (.int p1), .val (.int v1), .val (.int v4), .val (.int (0 : Int32)), .val (.int (1 : Int32)), .unset, .unset] [(.long z5)])) _
      refine XS.iload X0.here hx rfl (hb hby d3_47) rfl ?_
      show Steps p.tables e below (s₁.setTop (mkF m 49 #[.val (.ref r0), .val (.int p1), .val (.int p2), .val (.long q3), .second, .val (.int p4), .val (.int p1), .val (.int v1), .val (.int v4), .val (.int (0 : Int32)), .val (.int (1 : Int32)), .unset, .unset] [(.int p4), (.long z5)])) _
      refine XS.lushr X0.here hx rfl (hb hby d3_49) rfl ?_
      show Steps p.tables e below (s₁.setTop (mkF m 50 #[.val (.ref r0), .val (.int p1), .val (.int p2), .val (.long q3), .second, .val (.int p4), .val (.int p1), .val (.int v1), .val (.int v4), .val (.int (0 : Int32)), .val (.int (1 : Int32)), .unset, .unset] [(.long ((z5.toUInt64 >>> (p4 &&& 0x3f).toInt64.toUInt64).toInt64))])) _
      rw [hu5]
      show Steps p.tables e below (s₁.setTop (mkF m 50 #[.val (.ref r0), .val (.int p1), .val (.int p2), .val (.long q3), .second, .val (.int p4), .val (.int p1), .val (.int v1), .val (.int v4), .val (.int (0 : Int32)), .val (.int (1 : Int32)), .unset, .unset] [(.long (UU (((p1 + ((1 : Int32) * v4)) - (1 : Int32))).toNatClampNeg))])) _
      refine XS.lstore X0.here hx rfl (hb hby d3_50) rfl (l' := #[.val (.ref r0), .val (.int p1), .val (.int p2), .val (.long q3), .second, .val (.int p4), .val (.int p1), .val (.int v1), .val (.int v4), .val (.int (0 : Int32)), .val (.int (1 : Int32)), .val (.long (UU (((p1 + ((1 : Int32) * v4)) - (1 : Int32))).toNatClampNeg)), .second]) rfl ?_
      show Steps p.tables e below (s₁.setTop (mkF m 52 #[.val (.ref r0), .val (.int p1), .val (.int p2), .val (.long q3), .second, .val (.int p4), .val (.int p1), .val (.int v1), .val (.int v4), .val (.int (0 : Int32)), .val (.int (1 : Int32)), .val (.long (UU (((p1 + ((1 : Int32) * v4)) - (1 : Int32))).toNatClampNeg)), .second] [])) _
      refine XS.iload X0.here hx rfl (hb hby d3_52) rfl ?_
      show Steps p.tables e below (s₁.setTop (mkF m 54 #[.val (.ref r0), .val (.int p1), .val (.int p2), .val (.long q3), .second, .val (.int p4), .val (.int p1), .val (.int v1), .val (.int v4), .val (.int (0 : Int32)), .val (.int (1 : Int32)), .val (.long (UU (((p1 + ((1 : Int32) * v4)) - (1 : Int32))).toNatClampNeg)), .second] [(.int (0 : Int32))])) _
      refine XS.lload X0.here hx rfl (hb hby d3_54) rfl ?_
      show Steps p.tables e below (s₁.setTop (mkF m 56 #[.val (.ref r0), .val (.int p1), .val (.int p2), .val (.long q3), .second, .val (.int p4), .val (.int p1), .val (.int v1), .val (.int v4), .val (.int (0 : Int32)), .val (.int (1 : Int32)), .val (.long (UU (((p1 + ((1 : Int32) * v4)) - (1 : Int32))).toNatClampNeg)), .second] [(.long (UU (((p1 + ((1 : Int32) * v4)) - (1 : Int32))).toNatClampNeg)), (.int (0 : Int32))])) _
      refine XS.lloadN X0.here hx rfl (hb hby d3_56) rfl ?_
      show Steps p.tables e below (s₁.setTop (mkF m 57 #[.val (.ref r0), .val (.int p1), .val (.int p2), .val (.long q3), .second, .val (.int p4), .val (.int p1), .val (.int v1), .val (.int v4), .val (.int (0 : Int32)), .val (.int (1 : Int32)), .val (.long (UU (((p1 + ((1 : Int32) * v4)) - (1 : Int32))).toNatClampNeg)), .second] [(.long q3), (.long (UU (((p1 + ((1 : Int32) * v4)) - (1 : Int32))).toNatClampNeg)), (.int (0 : Int32))])) _
      refine XS.lsub X0.here hx rfl (hb hby d3_57) rfl ?_
      show Steps p.tables e below (s₁.setTop (mkF m 58 #[.val (.ref r0), .val (.int p1), .val (.int p2), .val (.long q3), .second, .val (.int p4), .val (.int p1), .val (.int v1), .val (.int v4), .val (.int (0 : Int32)), .val (.int (1 : Int32)), .val (.long (UU (((p1 + ((1 : Int32) * v4)) - (1 : Int32))).toNatClampNeg)), .second] [(.long ((UU (((p1 + ((1 : Int32) * v4)) - (1 : Int32))).toNatClampNeg) - q3)), (.int (0 : Int32))])) _
      refine XS.bipush X0.here hx rfl (hb hby d3_58) ?_
      show Steps p.tables e below (s₁.setTop (mkF m 60 #[.val (.ref r0), .val (.int p1), .val (.int p2), .val (.long q3), .second, .val (.int p4), .val (.int p1), .val (.int v1), .val (.int v4), .val (.int (0 : Int32)), .val (.int (1 : Int32)), .val (.long (UU (((p1 + ((1 : Int32) * v4)) - (1 : Int32))).toNatClampNeg)), .second] [(.int (63 : Int32)), (.long ((UU (((p1 + ((1 : Int32) * v4)) - (1 : Int32))).toNatClampNeg) - q3)), (.int (0 : Int32))])) _
      refine XS.lushr X0.here hx rfl (hb hby d3_60) rfl ?_
      show Steps p.tables e below (s₁.setTop (mkF m 61 #[.val (.ref r0), .val (.int p1), .val (.int p2), .val (.long q3), .second, .val (.int p4), .val (.int p1), .val (.int v1), .val (.int v4), .val (.int (0 : Int32)), .val (.int (1 : Int32)), .val (.long (UU (((p1 + ((1 : Int32) * v4)) - (1 : Int32))).toNatClampNeg)), .second] [(.long ((((UU (((p1 + ((1 : Int32) * v4)) - (1 : Int32))).toNatClampNeg) - q3).toUInt64 >>> ((63 : Int32) &&& 0x3f).toInt64.toUInt64).toInt64)), (.int (0 : Int32))])) _
      refine XS.l2i X0.here hx rfl (hb hby d3_61) rfl ?_
      show Steps p.tables e below (s₁.setTop (mkF m 62 #[.val (.ref r0), .val (.int p1), .val (.int p2), .val (.long q3), .second, .val (.int p4), .val (.int p1), .val (.int v1), .val (.int v4), .val (.int (0 : Int32)), .val (.int (1 : Int32)), .val (.long (UU (((p1 + ((1 : Int32) * v4)) - (1 : Int32))).toNatClampNeg)), .second] [(.int (((((UU (((p1 + ((1 : Int32) * v4)) - (1 : Int32))).toNatClampNeg) - q3).toUInt64 >>> ((63 : Int32) &&& 0x3f).toInt64.toUInt64).toInt64).toInt32)), (.int (0 : Int32))])) _
      rw [← ec7]
      show Steps p.tables e below (s₁.setTop (mkF m 62 #[.val (.ref r0), .val (.int p1), .val (.int p2), .val (.long q3), .second, .val (.int p4), .val (.int p1), .val (.int v1), .val (.int v4), .val (.int (0 : Int32)), .val (.int (1 : Int32)), .val (.long (UU (((p1 + ((1 : Int32) * v4)) - (1 : Int32))).toNatClampNeg)), .second] [(.int c7), (.int (0 : Int32))])) _
      refine XS.iadd X0.here hx rfl (hb hby d3_62) rfl ?_
      show Steps p.tables e below (s₁.setTop (mkF m 63 #[.val (.ref r0), .val (.int p1), .val (.int p2), .val (.long q3), .second, .val (.int p4), .val (.int p1), .val (.int v1), .val (.int v4), .val (.int (0 : Int32)), .val (.int (1 : Int32)), .val (.long (UU (((p1 + ((1 : Int32) * v4)) - (1 : Int32))).toNatClampNeg)), .second] [(.int ((0 : Int32) + c7))])) _
      rw [← ev8]
      show Steps p.tables e below (s₁.setTop (mkF m 63 #[.val (.ref r0), .val (.int p1), .val (.int p2), .val (.long q3), .second, .val (.int p4), .val (.int p1), .val (.int v1), .val (.int v4), .val (.int (0 : Int32)), .val (.int (1 : Int32)), .val (.long (UU (((p1 + ((1 : Int32) * v4)) - (1 : Int32))).toNatClampNeg)), .second] [(.int v8)])) _
      refine XS.istore X0.here hx rfl (hb hby d3_63) rfl (l' := #[.val (.ref r0), .val (.int p1), .val (.int p2), .val (.long q3), .second, .val (.int p4), .val (.int p1), .val (.int v1), .val (.int v4), .val (.int v8), .val (.int (1 : Int32)), .val (.long (UU (((p1 + ((1 : Int32) * v4)) - (1 : Int32))).toNatClampNeg)), .second]) rfl ?_
      show Steps p.tables e below (s₁.setTop (mkF m 65 #[.val (.ref r0), .val (.int p1), .val (.int p2), .val (.long q3), .second, .val (.int p4), .val (.int p1), .val (.int v1), .val (.int v4), .val (.int v8), .val (.int (1 : Int32)), .val (.long (UU (((p1 + ((1 : Int32) * v4)) - (1 : Int32))).toNatClampNeg)), .second] [])) _
      refine XS.iinc X0.here hx rfl (hb hby d3_65) rfl (l' := #[.val (.ref r0), .val (.int p1), .val (.int p2), .val (.long q3), .second, .val (.int p4), .val (.int p1), .val (.int v1), .val (.int v4), .val (.int v8), .val (.int (2 : Int32)), .val (.long (UU (((p1 + ((1 : Int32) * v4)) - (1 : Int32))).toNatClampNeg)), .second]) rfl ?_
      show Steps p.tables e below (s₁.setTop (mkF m 68 #[.val (.ref r0), .val (.int p1), .val (.int p2), .val (.long q3), .second, .val (.int p4), .val (.int p1), .val (.int v1), .val (.int v4), .val (.int v8), .val (.int (2 : Int32)), .val (.long (UU (((p1 + ((1 : Int32) * v4)) - (1 : Int32))).toNatClampNeg)), .second] [])) _
      refine XS.goto X0.here hx rfl (pc0 := 68) (pc' := 28) rfl (hb hby d3_68) (by decide) (by decide) ?_
      show Steps p.tables e below (s₁.setTop (mkF m 28 #[.val (.ref r0), .val (.int p1), .val (.int p2), .val (.long q3), .second, .val (.int p4), .val (.int p1), .val (.int v1), .val (.int v4), .val (.int v8), .val (.int (2 : Int32)), .val (.long (UU (((p1 + ((1 : Int32) * v4)) - (1 : Int32))).toNatClampNeg)), .second] [])) _
      refine XS.iload X0.here hx rfl (hb hby d3_28) rfl ?_
      show Steps p.tables e below (s₁.setTop (mkF m 30 #[.val (.ref r0), .val (.int p1), .val (.int p2), .val (.long q3), .second, .val (.int p4), .val (.int p1), .val (.int v1), .val (.int v4), .val (.int v8), .val (.int (2 : Int32)), .val (.long (UU (((p1 + ((1 : Int32) * v4)) - (1 : Int32))).toNatClampNeg)), .second] [(.int (2 : Int32))])) _
      refine XS.bipush X0.here hx rfl (hb hby d3_30) ?_
      show Steps p.tables e below (s₁.setTop (mkF m 32 #[.val (.ref r0), .val (.int p1), .val (.int p2), .val (.long q3), .second, .val (.int p4), .val (.int p1), .val (.int v1), .val (.int v4), .val (.int v8), .val (.int (2 : Int32)), .val (.long (UU (((p1 + ((1 : Int32) * v4)) - (1 : Int32))).toNatClampNeg)), .second] [(.int (8 : Int32)), (.int (2 : Int32))])) _
      refine XS.icmpNo X0.here hx rfl (hb hby d3_32) rfl (tlt (by decide)).2.1 ?_
      show Steps p.tables e below (s₁.setTop (mkF m 35 #[.val (.ref r0), .val (.int p1), .val (.int p2), .val (.long q3), .second, .val (.int p4), .val (.int p1), .val (.int v1), .val (.int v4), .val (.int v8), .val (.int (2 : Int32)), .val (.long (UU (((p1 + ((1 : Int32) * v4)) - (1 : Int32))).toNatClampNeg)), .second] [])) _
      refine XS.aloadN X0.here hx rfl (hb hby d3_35) rfl rfl ?_
      show Steps p.tables e below (s₁.setTop (mkF m 36 #[.val (.ref r0), .val (.int p1), .val (.int p2), .val (.long q3), .second, .val (.int p4), .val (.int p1), .val (.int v1), .val (.int v4), .val (.int v8), .val (.int (2 : Int32)), .val (.long (UU (((p1 + ((1 : Int32) * v4)) - (1 : Int32))).toNatClampNeg)), .second] [(.ref r0)])) _
      refine XS.iload X0.here hx rfl (hb hby d3_36) rfl ?_
      show Steps p.tables e below (s₁.setTop (mkF m 38 #[.val (.ref r0), .val (.int p1), .val (.int p2), .val (.long q3), .second, .val (.int p4), .val (.int p1), .val (.int v1), .val (.int v4), .val (.int v8), .val (.int (2 : Int32)), .val (.long (UU (((p1 + ((1 : Int32) * v4)) - (1 : Int32))).toNatClampNeg)), .second] [(.int p1), (.ref r0)])) _
      refine XS.iload X0.here hx rfl (hb hby d3_38) rfl ?_
      show Steps p.tables e below (s₁.setTop (mkF m 40 #[.val (.ref r0), .val (.int p1), .val (.int p2), .val (.long q3), .second, .val (.int p4), .val (.int p1), .val (.int v1), .val (.int v4), .val (.int v8), .val (.int (2 : Int32)), .val (.long (UU (((p1 + ((1 : Int32) * v4)) - (1 : Int32))).toNatClampNeg)), .second] [(.int (2 : Int32)), (.int p1), (.ref r0)])) _
      refine XS.iload X0.here hx rfl (hb hby d3_40) rfl ?_
      show Steps p.tables e below (s₁.setTop (mkF m 42 #[.val (.ref r0), .val (.int p1), .val (.int p2), .val (.long q3), .second, .val (.int p4), .val (.int p1), .val (.int v1), .val (.int v4), .val (.int v8), .val (.int (2 : Int32)), .val (.long (UU (((p1 + ((1 : Int32) * v4)) - (1 : Int32))).toNatClampNeg)), .second] [(.int v4), (.int (2 : Int32)), (.int p1), (.ref r0)])) _
      refine XS.imul X0.here hx rfl (hb hby d3_42) rfl ?_
      show Steps p.tables e below (s₁.setTop (mkF m 43 #[.val (.ref r0), .val (.int p1), .val (.int p2), .val (.long q3), .second, .val (.int p4), .val (.int p1), .val (.int v1), .val (.int v4), .val (.int v8), .val (.int (2 : Int32)), .val (.long (UU (((p1 + ((1 : Int32) * v4)) - (1 : Int32))).toNatClampNeg)), .second] [(.int ((2 : Int32) * v4)), (.int p1), (.ref r0)])) _
      refine XS.iadd X0.here hx rfl (hb hby d3_43) rfl ?_
      show Steps p.tables e below (s₁.setTop (mkF m 44 #[.val (.ref r0), .val (.int p1), .val (.int p2), .val (.long q3), .second, .val (.int p4), .val (.int p1), .val (.int v1), .val (.int v4), .val (.int v8), .val (.int (2 : Int32)), .val (.long (UU (((p1 + ((1 : Int32) * v4)) - (1 : Int32))).toNatClampNeg)), .second] [(.int (p1 + ((2 : Int32) * v4))), (.ref r0)])) _
      refine XS.iconst X0.here hx rfl (hb hby d3_44) ?_
      show Steps p.tables e below (s₁.setTop (mkF m 45 #[.val (.ref r0), .val (.int p1), .val (.int p2), .val (.long q3), .second, .val (.int p4), .val (.int p1), .val (.int v1), .val (.int v4), .val (.int v8), .val (.int (2 : Int32)), .val (.long (UU (((p1 + ((1 : Int32) * v4)) - (1 : Int32))).toNatClampNeg)), .second] [(.int (1 : Int32)), (.int (p1 + ((2 : Int32) * v4))), (.ref r0)])) _
      refine XS.isub X0.here hx rfl (hb hby d3_45) rfl ?_
      show Steps p.tables e below (s₁.setTop (mkF m 46 #[.val (.ref r0), .val (.int p1), .val (.int p2), .val (.long q3), .second, .val (.int p4), .val (.int p1), .val (.int v1), .val (.int v4), .val (.int v8), .val (.int (2 : Int32)), .val (.long (UU (((p1 + ((1 : Int32) * v4)) - (1 : Int32))).toNatClampNeg)), .second] [(.int ((p1 + ((2 : Int32) * v4)) - (1 : Int32))), (.ref r0)])) _
      refine X0.laload hx (j := ((p1 + ((2 : Int32) * v4)) - (1 : Int32))) (v := (.long z9)) (by rw [e0]; exact Ar10.1) (State.isArrayOf_alike hZ.alike Ar10.2.1) Ar10.2.2 hin10 hat10 (g := (mkF m 46 #[.val (.ref r0), .val (.int p1), .val (.int p2), .val (.long q3), .second, .val (.int p4), .val (.int p1), .val (.int v1), .val (.int v4), .val (.int v8), .val (.int (2 : Int32)), .val (.long (UU (((p1 + ((1 : Int32) * v4)) - (1 : Int32))).toNatClampNeg)), .second] [(.int ((p1 + ((2 : Int32) * v4)) - (1 : Int32))), (.ref r0)])) rfl rfl (hb hby d3_46) _ ?_
      show Steps p.tables e below (s₁.setTop (mkF m 47 #[.val (.ref r0), .val (.int p1), .val (.int p2), .val (.long q3), .second, .val (.int p4), .val (.int p1), .val (.int v1), .val (.int v4), .val (.int v8), .val (.int (2 : Int32)), .val (.long (UU (((p1 + ((1 : Int32) * v4)) - (1 : Int32))).toNatClampNeg)), .second] [(.long z9)])) _
      refine XS.iload X0.here hx rfl (hb hby d3_47) rfl ?_
      show Steps p.tables e below (s₁.setTop (mkF m 49 #[.val (.ref r0), .val (.int p1), .val (.int p2), .val (.long q3), .second, .val (.int p4), .val (.int p1), .val (.int v1), .val (.int v4), .val (.int v8), .val (.int (2 : Int32)), .val (.long (UU (((p1 + ((1 : Int32) * v4)) - (1 : Int32))).toNatClampNeg)), .second] [(.int p4), (.long z9)])) _
      refine XS.lushr X0.here hx rfl (hb hby d3_49) rfl ?_
      show Steps p.tables e below (s₁.setTop (mkF m 50 #[.val (.ref r0), .val (.int p1), .val (.int p2), .val (.long q3), .second, .val (.int p4), .val (.int p1), .val (.int v1), .val (.int v4), .val (.int v8), .val (.int (2 : Int32)), .val (.long (UU (((p1 + ((1 : Int32) * v4)) - (1 : Int32))).toNatClampNeg)), .second] [(.long ((z9.toUInt64 >>> (p4 &&& 0x3f).toInt64.toUInt64).toInt64))])) _
      rw [hu9]
      show Steps p.tables e below (s₁.setTop (mkF m 50 #[.val (.ref r0), .val (.int p1), .val (.int p2), .val (.long q3), .second, .val (.int p4), .val (.int p1), .val (.int v1), .val (.int v4), .val (.int v8), .val (.int (2 : Int32)), .val (.long (UU (((p1 + ((1 : Int32) * v4)) - (1 : Int32))).toNatClampNeg)), .second] [(.long (UU (((p1 + ((2 : Int32) * v4)) - (1 : Int32))).toNatClampNeg))])) _
      refine XS.lstore X0.here hx rfl (hb hby d3_50) rfl (l' := #[.val (.ref r0), .val (.int p1), .val (.int p2), .val (.long q3), .second, .val (.int p4), .val (.int p1), .val (.int v1), .val (.int v4), .val (.int v8), .val (.int (2 : Int32)), .val (.long (UU (((p1 + ((2 : Int32) * v4)) - (1 : Int32))).toNatClampNeg)), .second]) rfl ?_
      show Steps p.tables e below (s₁.setTop (mkF m 52 #[.val (.ref r0), .val (.int p1), .val (.int p2), .val (.long q3), .second, .val (.int p4), .val (.int p1), .val (.int v1), .val (.int v4), .val (.int v8), .val (.int (2 : Int32)), .val (.long (UU (((p1 + ((2 : Int32) * v4)) - (1 : Int32))).toNatClampNeg)), .second] [])) _
      refine XS.iload X0.here hx rfl (hb hby d3_52) rfl ?_
      show Steps p.tables e below (s₁.setTop (mkF m 54 #[.val (.ref r0), .val (.int p1), .val (.int p2), .val (.long q3), .second, .val (.int p4), .val (.int p1), .val (.int v1), .val (.int v4), .val (.int v8), .val (.int (2 : Int32)), .val (.long (UU (((p1 + ((2 : Int32) * v4)) - (1 : Int32))).toNatClampNeg)), .second] [(.int v8)])) _
      refine XS.lload X0.here hx rfl (hb hby d3_54) rfl ?_
      show Steps p.tables e below (s₁.setTop (mkF m 56 #[.val (.ref r0), .val (.int p1), .val (.int p2), .val (.long q3), .second, .val (.int p4), .val (.int p1), .val (.int v1), .val (.int v4), .val (.int v8), .val (.int (2 : Int32)), .val (.long (UU (((p1 + ((2 : Int32) * v4)) - (1 : Int32))).toNatClampNeg)), .second] [(.long (UU (((p1 + ((2 : Int32) * v4)) - (1 : Int32))).toNatClampNeg)), (.int v8)])) _
      refine XS.lloadN X0.here hx rfl (hb hby d3_56) rfl ?_
      show Steps p.tables e below (s₁.setTop (mkF m 57 #[.val (.ref r0), .val (.int p1), .val (.int p2), .val (.long q3), .second, .val (.int p4), .val (.int p1), .val (.int v1), .val (.int v4), .val (.int v8), .val (.int (2 : Int32)), .val (.long (UU (((p1 + ((2 : Int32) * v4)) - (1 : Int32))).toNatClampNeg)), .second] [(.long q3), (.long (UU (((p1 + ((2 : Int32) * v4)) - (1 : Int32))).toNatClampNeg)), (.int v8)])) _
      refine XS.lsub X0.here hx rfl (hb hby d3_57) rfl ?_
      show Steps p.tables e below (s₁.setTop (mkF m 58 #[.val (.ref r0), .val (.int p1), .val (.int p2), .val (.long q3), .second, .val (.int p4), .val (.int p1), .val (.int v1), .val (.int v4), .val (.int v8), .val (.int (2 : Int32)), .val (.long (UU (((p1 + ((2 : Int32) * v4)) - (1 : Int32))).toNatClampNeg)), .second] [(.long ((UU (((p1 + ((2 : Int32) * v4)) - (1 : Int32))).toNatClampNeg) - q3)), (.int v8)])) _
      refine XS.bipush X0.here hx rfl (hb hby d3_58) ?_
      show Steps p.tables e below (s₁.setTop (mkF m 60 #[.val (.ref r0), .val (.int p1), .val (.int p2), .val (.long q3), .second, .val (.int p4), .val (.int p1), .val (.int v1), .val (.int v4), .val (.int v8), .val (.int (2 : Int32)), .val (.long (UU (((p1 + ((2 : Int32) * v4)) - (1 : Int32))).toNatClampNeg)), .second] [(.int (63 : Int32)), (.long ((UU (((p1 + ((2 : Int32) * v4)) - (1 : Int32))).toNatClampNeg) - q3)), (.int v8)])) _
      refine XS.lushr X0.here hx rfl (hb hby d3_60) rfl ?_
      show Steps p.tables e below (s₁.setTop (mkF m 61 #[.val (.ref r0), .val (.int p1), .val (.int p2), .val (.long q3), .second, .val (.int p4), .val (.int p1), .val (.int v1), .val (.int v4), .val (.int v8), .val (.int (2 : Int32)), .val (.long (UU (((p1 + ((2 : Int32) * v4)) - (1 : Int32))).toNatClampNeg)), .second] [(.long ((((UU (((p1 + ((2 : Int32) * v4)) - (1 : Int32))).toNatClampNeg) - q3).toUInt64 >>> ((63 : Int32) &&& 0x3f).toInt64.toUInt64).toInt64)), (.int v8)])) _
      refine XS.l2i X0.here hx rfl (hb hby d3_61) rfl ?_
      show Steps p.tables e below (s₁.setTop (mkF m 62 #[.val (.ref r0), .val (.int p1), .val (.int p2), .val (.long q3), .second, .val (.int p4), .val (.int p1), .val (.int v1), .val (.int v4), .val (.int v8), .val (.int (2 : Int32)), .val (.long (UU (((p1 + ((2 : Int32) * v4)) - (1 : Int32))).toNatClampNeg)), .second] [(.int (((((UU (((p1 + ((2 : Int32) * v4)) - (1 : Int32))).toNatClampNeg) - q3).toUInt64 >>> ((63 : Int32) &&& 0x3f).toInt64.toUInt64).toInt64).toInt32)), (.int v8)])) _
      rw [← ec11]
      show Steps p.tables e below (s₁.setTop (mkF m 62 #[.val (.ref r0), .val (.int p1), .val (.int p2), .val (.long q3), .second, .val (.int p4), .val (.int p1), .val (.int v1), .val (.int v4), .val (.int v8), .val (.int (2 : Int32)), .val (.long (UU (((p1 + ((2 : Int32) * v4)) - (1 : Int32))).toNatClampNeg)), .second] [(.int c11), (.int v8)])) _
      refine XS.iadd X0.here hx rfl (hb hby d3_62) rfl ?_
      show Steps p.tables e below (s₁.setTop (mkF m 63 #[.val (.ref r0), .val (.int p1), .val (.int p2), .val (.long q3), .second, .val (.int p4), .val (.int p1), .val (.int v1), .val (.int v4), .val (.int v8), .val (.int (2 : Int32)), .val (.long (UU (((p1 + ((2 : Int32) * v4)) - (1 : Int32))).toNatClampNeg)), .second] [(.int (v8 + c11))])) _
      rw [← ev12]
      show Steps p.tables e below (s₁.setTop (mkF m 63 #[.val (.ref r0), .val (.int p1), .val (.int p2), .val (.long q3), .second, .val (.int p4), .val (.int p1), .val (.int v1), .val (.int v4), .val (.int v8), .val (.int (2 : Int32)), .val (.long (UU (((p1 + ((2 : Int32) * v4)) - (1 : Int32))).toNatClampNeg)), .second] [(.int v12)])) _
      refine XS.istore X0.here hx rfl (hb hby d3_63) rfl (l' := #[.val (.ref r0), .val (.int p1), .val (.int p2), .val (.long q3), .second, .val (.int p4), .val (.int p1), .val (.int v1), .val (.int v4), .val (.int v12), .val (.int (2 : Int32)), .val (.long (UU (((p1 + ((2 : Int32) * v4)) - (1 : Int32))).toNatClampNeg)), .second]) rfl ?_
      show Steps p.tables e below (s₁.setTop (mkF m 65 #[.val (.ref r0), .val (.int p1), .val (.int p2), .val (.long q3), .second, .val (.int p4), .val (.int p1), .val (.int v1), .val (.int v4), .val (.int v12), .val (.int (2 : Int32)), .val (.long (UU (((p1 + ((2 : Int32) * v4)) - (1 : Int32))).toNatClampNeg)), .second] [])) _
      refine XS.iinc X0.here hx rfl (hb hby d3_65) rfl (l' := #[.val (.ref r0), .val (.int p1), .val (.int p2), .val (.long q3), .second, .val (.int p4), .val (.int p1), .val (.int v1), .val (.int v4), .val (.int v12), .val (.int (3 : Int32)), .val (.long (UU (((p1 + ((2 : Int32) * v4)) - (1 : Int32))).toNatClampNeg)), .second]) rfl ?_
      show Steps p.tables e below (s₁.setTop (mkF m 68 #[.val (.ref r0), .val (.int p1), .val (.int p2), .val (.long q3), .second, .val (.int p4), .val (.int p1), .val (.int v1), .val (.int v4), .val (.int v12), .val (.int (3 : Int32)), .val (.long (UU (((p1 + ((2 : Int32) * v4)) - (1 : Int32))).toNatClampNeg)), .second] [])) _
      refine XS.goto X0.here hx rfl (pc0 := 68) (pc' := 28) rfl (hb hby d3_68) (by decide) (by decide) ?_
      show Steps p.tables e below (s₁.setTop (mkF m 28 #[.val (.ref r0), .val (.int p1), .val (.int p2), .val (.long q3), .second, .val (.int p4), .val (.int p1), .val (.int v1), .val (.int v4), .val (.int v12), .val (.int (3 : Int32)), .val (.long (UU (((p1 + ((2 : Int32) * v4)) - (1 : Int32))).toNatClampNeg)), .second] [])) _
      refine XS.iload X0.here hx rfl (hb hby d3_28) rfl ?_
      show Steps p.tables e below (s₁.setTop (mkF m 30 #[.val (.ref r0), .val (.int p1), .val (.int p2), .val (.long q3), .second, .val (.int p4), .val (.int p1), .val (.int v1), .val (.int v4), .val (.int v12), .val (.int (3 : Int32)), .val (.long (UU (((p1 + ((2 : Int32) * v4)) - (1 : Int32))).toNatClampNeg)), .second] [(.int (3 : Int32))])) _
      refine XS.bipush X0.here hx rfl (hb hby d3_30) ?_
      show Steps p.tables e below (s₁.setTop (mkF m 32 #[.val (.ref r0), .val (.int p1), .val (.int p2), .val (.long q3), .second, .val (.int p4), .val (.int p1), .val (.int v1), .val (.int v4), .val (.int v12), .val (.int (3 : Int32)), .val (.long (UU (((p1 + ((2 : Int32) * v4)) - (1 : Int32))).toNatClampNeg)), .second] [(.int (8 : Int32)), (.int (3 : Int32))])) _
      refine XS.icmpNo X0.here hx rfl (hb hby d3_32) rfl (tlt (by decide)).2.1 ?_
      show Steps p.tables e below (s₁.setTop (mkF m 35 #[.val (.ref r0), .val (.int p1), .val (.int p2), .val (.long q3), .second, .val (.int p4), .val (.int p1), .val (.int v1), .val (.int v4), .val (.int v12), .val (.int (3 : Int32)), .val (.long (UU (((p1 + ((2 : Int32) * v4)) - (1 : Int32))).toNatClampNeg)), .second] [])) _
      refine XS.aloadN X0.here hx rfl (hb hby d3_35) rfl rfl ?_
      show Steps p.tables e below (s₁.setTop (mkF m 36 #[.val (.ref r0), .val (.int p1), .val (.int p2), .val (.long q3), .second, .val (.int p4), .val (.int p1), .val (.int v1), .val (.int v4), .val (.int v12), .val (.int (3 : Int32)), .val (.long (UU (((p1 + ((2 : Int32) * v4)) - (1 : Int32))).toNatClampNeg)), .second] [(.ref r0)])) _
      refine XS.iload X0.here hx rfl (hb hby d3_36) rfl ?_
      show Steps p.tables e below (s₁.setTop (mkF m 38 #[.val (.ref r0), .val (.int p1), .val (.int p2), .val (.long q3), .second, .val (.int p4), .val (.int p1), .val (.int v1), .val (.int v4), .val (.int v12), .val (.int (3 : Int32)), .val (.long (UU (((p1 + ((2 : Int32) * v4)) - (1 : Int32))).toNatClampNeg)), .second] [(.int p1), (.ref r0)])) _
      refine XS.iload X0.here hx rfl (hb hby d3_38) rfl ?_
      show Steps p.tables e below (s₁.setTop (mkF m 40 #[.val (.ref r0), .val (.int p1), .val (.int p2), .val (.long q3), .second, .val (.int p4), .val (.int p1), .val (.int v1), .val (.int v4), .val (.int v12), .val (.int (3 : Int32)), .val (.long (UU (((p1 + ((2 : Int32) * v4)) - (1 : Int32))).toNatClampNeg)), .second] [(.int (3 : Int32)), (.int p1), (.ref r0)])) _
      refine XS.iload X0.here hx rfl (hb hby d3_40) rfl ?_
      show Steps p.tables e below (s₁.setTop (mkF m 42 #[.val (.ref r0), .val (.int p1), .val (.int p2), .val (.long q3), .second, .val (.int p4), .val (.int p1), .val (.int v1), .val (.int v4), .val (.int v12), .val (.int (3 : Int32)), .val (.long (UU (((p1 + ((2 : Int32) * v4)) - (1 : Int32))).toNatClampNeg)), .second] [(.int v4), (.int (3 : Int32)), (.int p1), (.ref r0)])) _
      refine XS.imul X0.here hx rfl (hb hby d3_42) rfl ?_
      show Steps p.tables e below (s₁.setTop (mkF m 43 #[.val (.ref r0), .val (.int p1), .val (.int p2), .val (.long q3), .second, .val (.int p4), .val (.int p1), .val (.int v1), .val (.int v4), .val (.int v12), .val (.int (3 : Int32)), .val (.long (UU (((p1 + ((2 : Int32) * v4)) - (1 : Int32))).toNatClampNeg)), .second] [(.int ((3 : Int32) * v4)), (.int p1), (.ref r0)])) _
      refine XS.iadd X0.here hx rfl (hb hby d3_43) rfl ?_
      show Steps p.tables e below (s₁.setTop (mkF m 44 #[.val (.ref r0), .val (.int p1), .val (.int p2), .val (.long q3), .second, .val (.int p4), .val (.int p1), .val (.int v1), .val (.int v4), .val (.int v12), .val (.int (3 : Int32)), .val (.long (UU (((p1 + ((2 : Int32) * v4)) - (1 : Int32))).toNatClampNeg)), .second] [(.int (p1 + ((3 : Int32) * v4))), (.ref r0)])) _
      refine XS.iconst X0.here hx rfl (hb hby d3_44) ?_
      show Steps p.tables e below (s₁.setTop (mkF m 45 #[.val (.ref r0), .val (.int p1), .val (.int p2), .val (.long q3), .second, .val (.int p4), .val (.int p1), .val (.int v1), .val (.int v4), .val (.int v12), .val (.int (3 : Int32)), .val (.long (UU (((p1 + ((2 : Int32) * v4)) - (1 : Int32))).toNatClampNeg)), .second] [(.int (1 : Int32)), (.int (p1 + ((3 : Int32) * v4))), (.ref r0)])) _
      refine XS.isub X0.here hx rfl (hb hby d3_45) rfl ?_
      show Steps p.tables e below (s₁.setTop (mkF m 46 #[.val (.ref r0), .val (.int p1), .val (.int p2), .val (.long q3), .second, .val (.int p4), .val (.int p1), .val (.int v1), .val (.int v4), .val (.int v12), .val (.int (3 : Int32)), .val (.long (UU (((p1 + ((2 : Int32) * v4)) - (1 : Int32))).toNatClampNeg)), .second] [(.int ((p1 + ((3 : Int32) * v4)) - (1 : Int32))), (.ref r0)])) _
      refine X0.laload hx (j := ((p1 + ((3 : Int32) * v4)) - (1 : Int32))) (v := (.long z13)) (by rw [e0]; exact Ar14.1) (State.isArrayOf_alike hZ.alike Ar14.2.1) Ar14.2.2 hin14 hat14 (g := (mkF m 46 #[.val (.ref r0), .val (.int p1), .val (.int p2), .val (.long q3), .second, .val (.int p4), .val (.int p1), .val (.int v1), .val (.int v4), .val (.int v12), .val (.int (3 : Int32)), .val (.long (UU (((p1 + ((2 : Int32) * v4)) - (1 : Int32))).toNatClampNeg)), .second] [(.int ((p1 + ((3 : Int32) * v4)) - (1 : Int32))), (.ref r0)])) rfl rfl (hb hby d3_46) _ ?_
      show Steps p.tables e below (s₁.setTop (mkF m 47 #[.val (.ref r0), .val (.int p1), .val (.int p2), .val (.long q3), .second, .val (.int p4), .val (.int p1), .val (.int v1), .val (.int v4), .val (.int v12), .val (.int (3 : Int32)), .val (.long (UU (((p1 + ((2 : Int32) * v4)) - (1 : Int32))).toNatClampNeg)), .second] [(.long z13)])) _
      refine XS.iload X0.here hx rfl (hb hby d3_47) rfl ?_
      show Steps p.tables e below (s₁.setTop (mkF m 49 #[.val (.ref r0), .val (.int p1), .val (.int p2), .val (.long q3), .second, .val (.int p4), .val (.int p1), .val (.int v1), .val (.int v4), .val (.int v12), .val (.int (3 : Int32)), .val (.long (UU (((p1 + ((2 : Int32) * v4)) - (1 : Int32))).toNatClampNeg)), .second] [(.int p4), (.long z13)])) _
      refine XS.lushr X0.here hx rfl (hb hby d3_49) rfl ?_
      show Steps p.tables e below (s₁.setTop (mkF m 50 #[.val (.ref r0), .val (.int p1), .val (.int p2), .val (.long q3), .second, .val (.int p4), .val (.int p1), .val (.int v1), .val (.int v4), .val (.int v12), .val (.int (3 : Int32)), .val (.long (UU (((p1 + ((2 : Int32) * v4)) - (1 : Int32))).toNatClampNeg)), .second] [(.long ((z13.toUInt64 >>> (p4 &&& 0x3f).toInt64.toUInt64).toInt64))])) _
      rw [hu13]
      show Steps p.tables e below (s₁.setTop (mkF m 50 #[.val (.ref r0), .val (.int p1), .val (.int p2), .val (.long q3), .second, .val (.int p4), .val (.int p1), .val (.int v1), .val (.int v4), .val (.int v12), .val (.int (3 : Int32)), .val (.long (UU (((p1 + ((2 : Int32) * v4)) - (1 : Int32))).toNatClampNeg)), .second] [(.long (UU (((p1 + ((3 : Int32) * v4)) - (1 : Int32))).toNatClampNeg))])) _
      refine XS.lstore X0.here hx rfl (hb hby d3_50) rfl (l' := #[.val (.ref r0), .val (.int p1), .val (.int p2), .val (.long q3), .second, .val (.int p4), .val (.int p1), .val (.int v1), .val (.int v4), .val (.int v12), .val (.int (3 : Int32)), .val (.long (UU (((p1 + ((3 : Int32) * v4)) - (1 : Int32))).toNatClampNeg)), .second]) rfl ?_
      show Steps p.tables e below (s₁.setTop (mkF m 52 #[.val (.ref r0), .val (.int p1), .val (.int p2), .val (.long q3), .second, .val (.int p4), .val (.int p1), .val (.int v1), .val (.int v4), .val (.int v12), .val (.int (3 : Int32)), .val (.long (UU (((p1 + ((3 : Int32) * v4)) - (1 : Int32))).toNatClampNeg)), .second] [])) _
      refine XS.iload X0.here hx rfl (hb hby d3_52) rfl ?_
      show Steps p.tables e below (s₁.setTop (mkF m 54 #[.val (.ref r0), .val (.int p1), .val (.int p2), .val (.long q3), .second, .val (.int p4), .val (.int p1), .val (.int v1), .val (.int v4), .val (.int v12), .val (.int (3 : Int32)), .val (.long (UU (((p1 + ((3 : Int32) * v4)) - (1 : Int32))).toNatClampNeg)), .second] [(.int v12)])) _
      refine XS.lload X0.here hx rfl (hb hby d3_54) rfl ?_
      show Steps p.tables e below (s₁.setTop (mkF m 56 #[.val (.ref r0), .val (.int p1), .val (.int p2), .val (.long q3), .second, .val (.int p4), .val (.int p1), .val (.int v1), .val (.int v4), .val (.int v12), .val (.int (3 : Int32)), .val (.long (UU (((p1 + ((3 : Int32) * v4)) - (1 : Int32))).toNatClampNeg)), .second] [(.long (UU (((p1 + ((3 : Int32) * v4)) - (1 : Int32))).toNatClampNeg)), (.int v12)])) _
      refine XS.lloadN X0.here hx rfl (hb hby d3_56) rfl ?_
      show Steps p.tables e below (s₁.setTop (mkF m 57 #[.val (.ref r0), .val (.int p1), .val (.int p2), .val (.long q3), .second, .val (.int p4), .val (.int p1), .val (.int v1), .val (.int v4), .val (.int v12), .val (.int (3 : Int32)), .val (.long (UU (((p1 + ((3 : Int32) * v4)) - (1 : Int32))).toNatClampNeg)), .second] [(.long q3), (.long (UU (((p1 + ((3 : Int32) * v4)) - (1 : Int32))).toNatClampNeg)), (.int v12)])) _
      refine XS.lsub X0.here hx rfl (hb hby d3_57) rfl ?_
      show Steps p.tables e below (s₁.setTop (mkF m 58 #[.val (.ref r0), .val (.int p1), .val (.int p2), .val (.long q3), .second, .val (.int p4), .val (.int p1), .val (.int v1), .val (.int v4), .val (.int v12), .val (.int (3 : Int32)), .val (.long (UU (((p1 + ((3 : Int32) * v4)) - (1 : Int32))).toNatClampNeg)), .second] [(.long ((UU (((p1 + ((3 : Int32) * v4)) - (1 : Int32))).toNatClampNeg) - q3)), (.int v12)])) _
      refine XS.bipush X0.here hx rfl (hb hby d3_58) ?_
      show Steps p.tables e below (s₁.setTop (mkF m 60 #[.val (.ref r0), .val (.int p1), .val (.int p2), .val (.long q3), .second, .val (.int p4), .val (.int p1), .val (.int v1), .val (.int v4), .val (.int v12), .val (.int (3 : Int32)), .val (.long (UU (((p1 + ((3 : Int32) * v4)) - (1 : Int32))).toNatClampNeg)), .second] [(.int (63 : Int32)), (.long ((UU (((p1 + ((3 : Int32) * v4)) - (1 : Int32))).toNatClampNeg) - q3)), (.int v12)])) _
      refine XS.lushr X0.here hx rfl (hb hby d3_60) rfl ?_
      show Steps p.tables e below (s₁.setTop (mkF m 61 #[.val (.ref r0), .val (.int p1), .val (.int p2), .val (.long q3), .second, .val (.int p4), .val (.int p1), .val (.int v1), .val (.int v4), .val (.int v12), .val (.int (3 : Int32)), .val (.long (UU (((p1 + ((3 : Int32) * v4)) - (1 : Int32))).toNatClampNeg)), .second] [(.long ((((UU (((p1 + ((3 : Int32) * v4)) - (1 : Int32))).toNatClampNeg) - q3).toUInt64 >>> ((63 : Int32) &&& 0x3f).toInt64.toUInt64).toInt64)), (.int v12)])) _
      refine XS.l2i X0.here hx rfl (hb hby d3_61) rfl ?_
      show Steps p.tables e below (s₁.setTop (mkF m 62 #[.val (.ref r0), .val (.int p1), .val (.int p2), .val (.long q3), .second, .val (.int p4), .val (.int p1), .val (.int v1), .val (.int v4), .val (.int v12), .val (.int (3 : Int32)), .val (.long (UU (((p1 + ((3 : Int32) * v4)) - (1 : Int32))).toNatClampNeg)), .second] [(.int (((((UU (((p1 + ((3 : Int32) * v4)) - (1 : Int32))).toNatClampNeg) - q3).toUInt64 >>> ((63 : Int32) &&& 0x3f).toInt64.toUInt64).toInt64).toInt32)), (.int v12)])) _
      rw [← ec15]
      show Steps p.tables e below (s₁.setTop (mkF m 62 #[.val (.ref r0), .val (.int p1), .val (.int p2), .val (.long q3), .second, .val (.int p4), .val (.int p1), .val (.int v1), .val (.int v4), .val (.int v12), .val (.int (3 : Int32)), .val (.long (UU (((p1 + ((3 : Int32) * v4)) - (1 : Int32))).toNatClampNeg)), .second] [(.int c15), (.int v12)])) _
      refine XS.iadd X0.here hx rfl (hb hby d3_62) rfl ?_
      show Steps p.tables e below (s₁.setTop (mkF m 63 #[.val (.ref r0), .val (.int p1), .val (.int p2), .val (.long q3), .second, .val (.int p4), .val (.int p1), .val (.int v1), .val (.int v4), .val (.int v12), .val (.int (3 : Int32)), .val (.long (UU (((p1 + ((3 : Int32) * v4)) - (1 : Int32))).toNatClampNeg)), .second] [(.int (v12 + c15))])) _
      rw [← ev16]
      show Steps p.tables e below (s₁.setTop (mkF m 63 #[.val (.ref r0), .val (.int p1), .val (.int p2), .val (.long q3), .second, .val (.int p4), .val (.int p1), .val (.int v1), .val (.int v4), .val (.int v12), .val (.int (3 : Int32)), .val (.long (UU (((p1 + ((3 : Int32) * v4)) - (1 : Int32))).toNatClampNeg)), .second] [(.int v16)])) _
      refine XS.istore X0.here hx rfl (hb hby d3_63) rfl (l' := #[.val (.ref r0), .val (.int p1), .val (.int p2), .val (.long q3), .second, .val (.int p4), .val (.int p1), .val (.int v1), .val (.int v4), .val (.int v16), .val (.int (3 : Int32)), .val (.long (UU (((p1 + ((3 : Int32) * v4)) - (1 : Int32))).toNatClampNeg)), .second]) rfl ?_
      show Steps p.tables e below (s₁.setTop (mkF m 65 #[.val (.ref r0), .val (.int p1), .val (.int p2), .val (.long q3), .second, .val (.int p4), .val (.int p1), .val (.int v1), .val (.int v4), .val (.int v16), .val (.int (3 : Int32)), .val (.long (UU (((p1 + ((3 : Int32) * v4)) - (1 : Int32))).toNatClampNeg)), .second] [])) _
      refine XS.iinc X0.here hx rfl (hb hby d3_65) rfl (l' := #[.val (.ref r0), .val (.int p1), .val (.int p2), .val (.long q3), .second, .val (.int p4), .val (.int p1), .val (.int v1), .val (.int v4), .val (.int v16), .val (.int (4 : Int32)), .val (.long (UU (((p1 + ((3 : Int32) * v4)) - (1 : Int32))).toNatClampNeg)), .second]) rfl ?_
      show Steps p.tables e below (s₁.setTop (mkF m 68 #[.val (.ref r0), .val (.int p1), .val (.int p2), .val (.long q3), .second, .val (.int p4), .val (.int p1), .val (.int v1), .val (.int v4), .val (.int v16), .val (.int (4 : Int32)), .val (.long (UU (((p1 + ((3 : Int32) * v4)) - (1 : Int32))).toNatClampNeg)), .second] [])) _
      refine XS.goto X0.here hx rfl (pc0 := 68) (pc' := 28) rfl (hb hby d3_68) (by decide) (by decide) ?_
      show Steps p.tables e below (s₁.setTop (mkF m 28 #[.val (.ref r0), .val (.int p1), .val (.int p2), .val (.long q3), .second, .val (.int p4), .val (.int p1), .val (.int v1), .val (.int v4), .val (.int v16), .val (.int (4 : Int32)), .val (.long (UU (((p1 + ((3 : Int32) * v4)) - (1 : Int32))).toNatClampNeg)), .second] [])) _
      refine XS.iload X0.here hx rfl (hb hby d3_28) rfl ?_
      show Steps p.tables e below (s₁.setTop (mkF m 30 #[.val (.ref r0), .val (.int p1), .val (.int p2), .val (.long q3), .second, .val (.int p4), .val (.int p1), .val (.int v1), .val (.int v4), .val (.int v16), .val (.int (4 : Int32)), .val (.long (UU (((p1 + ((3 : Int32) * v4)) - (1 : Int32))).toNatClampNeg)), .second] [(.int (4 : Int32))])) _
      refine XS.bipush X0.here hx rfl (hb hby d3_30) ?_
      show Steps p.tables e below (s₁.setTop (mkF m 32 #[.val (.ref r0), .val (.int p1), .val (.int p2), .val (.long q3), .second, .val (.int p4), .val (.int p1), .val (.int v1), .val (.int v4), .val (.int v16), .val (.int (4 : Int32)), .val (.long (UU (((p1 + ((3 : Int32) * v4)) - (1 : Int32))).toNatClampNeg)), .second] [(.int (8 : Int32)), (.int (4 : Int32))])) _
      refine XS.icmpNo X0.here hx rfl (hb hby d3_32) rfl (tlt (by decide)).2.1 ?_
      show Steps p.tables e below (s₁.setTop (mkF m 35 #[.val (.ref r0), .val (.int p1), .val (.int p2), .val (.long q3), .second, .val (.int p4), .val (.int p1), .val (.int v1), .val (.int v4), .val (.int v16), .val (.int (4 : Int32)), .val (.long (UU (((p1 + ((3 : Int32) * v4)) - (1 : Int32))).toNatClampNeg)), .second] [])) _
      refine XS.aloadN X0.here hx rfl (hb hby d3_35) rfl rfl ?_
      show Steps p.tables e below (s₁.setTop (mkF m 36 #[.val (.ref r0), .val (.int p1), .val (.int p2), .val (.long q3), .second, .val (.int p4), .val (.int p1), .val (.int v1), .val (.int v4), .val (.int v16), .val (.int (4 : Int32)), .val (.long (UU (((p1 + ((3 : Int32) * v4)) - (1 : Int32))).toNatClampNeg)), .second] [(.ref r0)])) _
      refine XS.iload X0.here hx rfl (hb hby d3_36) rfl ?_
      show Steps p.tables e below (s₁.setTop (mkF m 38 #[.val (.ref r0), .val (.int p1), .val (.int p2), .val (.long q3), .second, .val (.int p4), .val (.int p1), .val (.int v1), .val (.int v4), .val (.int v16), .val (.int (4 : Int32)), .val (.long (UU (((p1 + ((3 : Int32) * v4)) - (1 : Int32))).toNatClampNeg)), .second] [(.int p1), (.ref r0)])) _
      refine XS.iload X0.here hx rfl (hb hby d3_38) rfl ?_
      show Steps p.tables e below (s₁.setTop (mkF m 40 #[.val (.ref r0), .val (.int p1), .val (.int p2), .val (.long q3), .second, .val (.int p4), .val (.int p1), .val (.int v1), .val (.int v4), .val (.int v16), .val (.int (4 : Int32)), .val (.long (UU (((p1 + ((3 : Int32) * v4)) - (1 : Int32))).toNatClampNeg)), .second] [(.int (4 : Int32)), (.int p1), (.ref r0)])) _
      refine XS.iload X0.here hx rfl (hb hby d3_40) rfl ?_
      show Steps p.tables e below (s₁.setTop (mkF m 42 #[.val (.ref r0), .val (.int p1), .val (.int p2), .val (.long q3), .second, .val (.int p4), .val (.int p1), .val (.int v1), .val (.int v4), .val (.int v16), .val (.int (4 : Int32)), .val (.long (UU (((p1 + ((3 : Int32) * v4)) - (1 : Int32))).toNatClampNeg)), .second] [(.int v4), (.int (4 : Int32)), (.int p1), (.ref r0)])) _
      refine XS.imul X0.here hx rfl (hb hby d3_42) rfl ?_
      show Steps p.tables e below (s₁.setTop (mkF m 43 #[.val (.ref r0), .val (.int p1), .val (.int p2), .val (.long q3), .second, .val (.int p4), .val (.int p1), .val (.int v1), .val (.int v4), .val (.int v16), .val (.int (4 : Int32)), .val (.long (UU (((p1 + ((3 : Int32) * v4)) - (1 : Int32))).toNatClampNeg)), .second] [(.int ((4 : Int32) * v4)), (.int p1), (.ref r0)])) _
      refine XS.iadd X0.here hx rfl (hb hby d3_43) rfl ?_
      show Steps p.tables e below (s₁.setTop (mkF m 44 #[.val (.ref r0), .val (.int p1), .val (.int p2), .val (.long q3), .second, .val (.int p4), .val (.int p1), .val (.int v1), .val (.int v4), .val (.int v16), .val (.int (4 : Int32)), .val (.long (UU (((p1 + ((3 : Int32) * v4)) - (1 : Int32))).toNatClampNeg)), .second] [(.int (p1 + ((4 : Int32) * v4))), (.ref r0)])) _
      refine XS.iconst X0.here hx rfl (hb hby d3_44) ?_
      show Steps p.tables e below (s₁.setTop (mkF m 45 #[.val (.ref r0), .val (.int p1), .val (.int p2), .val (.long q3), .second, .val (.int p4), .val (.int p1), .val (.int v1), .val (.int v4), .val (.int v16), .val (.int (4 : Int32)), .val (.long (UU (((p1 + ((3 : Int32) * v4)) - (1 : Int32))).toNatClampNeg)), .second] [(.int (1 : Int32)), (.int (p1 + ((4 : Int32) * v4))), (.ref r0)])) _
      refine XS.isub X0.here hx rfl (hb hby d3_45) rfl ?_
      show Steps p.tables e below (s₁.setTop (mkF m 46 #[.val (.ref r0), .val (.int p1), .val (.int p2), .val (.long q3), .second, .val (.int p4), .val (.int p1), .val (.int v1), .val (.int v4), .val (.int v16), .val (.int (4 : Int32)), .val (.long (UU (((p1 + ((3 : Int32) * v4)) - (1 : Int32))).toNatClampNeg)), .second] [(.int ((p1 + ((4 : Int32) * v4)) - (1 : Int32))), (.ref r0)])) _
      refine X0.laload hx (j := ((p1 + ((4 : Int32) * v4)) - (1 : Int32))) (v := (.long z17)) (by rw [e0]; exact Ar18.1) (State.isArrayOf_alike hZ.alike Ar18.2.1) Ar18.2.2 hin18 hat18 (g := (mkF m 46 #[.val (.ref r0), .val (.int p1), .val (.int p2), .val (.long q3), .second, .val (.int p4), .val (.int p1), .val (.int v1), .val (.int v4), .val (.int v16), .val (.int (4 : Int32)), .val (.long (UU (((p1 + ((3 : Int32) * v4)) - (1 : Int32))).toNatClampNeg)), .second] [(.int ((p1 + ((4 : Int32) * v4)) - (1 : Int32))), (.ref r0)])) rfl rfl (hb hby d3_46) _ ?_
      show Steps p.tables e below (s₁.setTop (mkF m 47 #[.val (.ref r0), .val (.int p1), .val (.int p2), .val (.long q3), .second, .val (.int p4), .val (.int p1), .val (.int v1), .val (.int v4), .val (.int v16), .val (.int (4 : Int32)), .val (.long (UU (((p1 + ((3 : Int32) * v4)) - (1 : Int32))).toNatClampNeg)), .second] [(.long z17)])) _
      refine XS.iload X0.here hx rfl (hb hby d3_47) rfl ?_
      show Steps p.tables e below (s₁.setTop (mkF m 49 #[.val (.ref r0), .val (.int p1), .val (.int p2), .val (.long q3), .second, .val (.int p4), .val (.int p1), .val (.int v1), .val (.int v4), .val (.int v16), .val (.int (4 : Int32)), .val (.long (UU (((p1 + ((3 : Int32) * v4)) - (1 : Int32))).toNatClampNeg)), .second] [(.int p4), (.long z17)])) _
      refine XS.lushr X0.here hx rfl (hb hby d3_49) rfl ?_
      show Steps p.tables e below (s₁.setTop (mkF m 50 #[.val (.ref r0), .val (.int p1), .val (.int p2), .val (.long q3), .second, .val (.int p4), .val (.int p1), .val (.int v1), .val (.int v4), .val (.int v16), .val (.int (4 : Int32)), .val (.long (UU (((p1 + ((3 : Int32) * v4)) - (1 : Int32))).toNatClampNeg)), .second] [(.long ((z17.toUInt64 >>> (p4 &&& 0x3f).toInt64.toUInt64).toInt64))])) _
      rw [hu17]
      show Steps p.tables e below (s₁.setTop (mkF m 50 #[.val (.ref r0), .val (.int p1), .val (.int p2), .val (.long q3), .second, .val (.int p4), .val (.int p1), .val (.int v1), .val (.int v4), .val (.int v16), .val (.int (4 : Int32)), .val (.long (UU (((p1 + ((3 : Int32) * v4)) - (1 : Int32))).toNatClampNeg)), .second] [(.long (UU (((p1 + ((4 : Int32) * v4)) - (1 : Int32))).toNatClampNeg))])) _
      refine XS.lstore X0.here hx rfl (hb hby d3_50) rfl (l' := #[.val (.ref r0), .val (.int p1), .val (.int p2), .val (.long q3), .second, .val (.int p4), .val (.int p1), .val (.int v1), .val (.int v4), .val (.int v16), .val (.int (4 : Int32)), .val (.long (UU (((p1 + ((4 : Int32) * v4)) - (1 : Int32))).toNatClampNeg)), .second]) rfl ?_
      show Steps p.tables e below (s₁.setTop (mkF m 52 #[.val (.ref r0), .val (.int p1), .val (.int p2), .val (.long q3), .second, .val (.int p4), .val (.int p1), .val (.int v1), .val (.int v4), .val (.int v16), .val (.int (4 : Int32)), .val (.long (UU (((p1 + ((4 : Int32) * v4)) - (1 : Int32))).toNatClampNeg)), .second] [])) _
      refine XS.iload X0.here hx rfl (hb hby d3_52) rfl ?_
      show Steps p.tables e below (s₁.setTop (mkF m 54 #[.val (.ref r0), .val (.int p1), .val (.int p2), .val (.long q3), .second, .val (.int p4), .val (.int p1), .val (.int v1), .val (.int v4), .val (.int v16), .val (.int (4 : Int32)), .val (.long (UU (((p1 + ((4 : Int32) * v4)) - (1 : Int32))).toNatClampNeg)), .second] [(.int v16)])) _
      refine XS.lload X0.here hx rfl (hb hby d3_54) rfl ?_
      show Steps p.tables e below (s₁.setTop (mkF m 56 #[.val (.ref r0), .val (.int p1), .val (.int p2), .val (.long q3), .second, .val (.int p4), .val (.int p1), .val (.int v1), .val (.int v4), .val (.int v16), .val (.int (4 : Int32)), .val (.long (UU (((p1 + ((4 : Int32) * v4)) - (1 : Int32))).toNatClampNeg)), .second] [(.long (UU (((p1 + ((4 : Int32) * v4)) - (1 : Int32))).toNatClampNeg)), (.int v16)])) _
      refine XS.lloadN X0.here hx rfl (hb hby d3_56) rfl ?_
      show Steps p.tables e below (s₁.setTop (mkF m 57 #[.val (.ref r0), .val (.int p1), .val (.int p2), .val (.long q3), .second, .val (.int p4), .val (.int p1), .val (.int v1), .val (.int v4), .val (.int v16), .val (.int (4 : Int32)), .val (.long (UU (((p1 + ((4 : Int32) * v4)) - (1 : Int32))).toNatClampNeg)), .second] [(.long q3), (.long (UU (((p1 + ((4 : Int32) * v4)) - (1 : Int32))).toNatClampNeg)), (.int v16)])) _
      refine XS.lsub X0.here hx rfl (hb hby d3_57) rfl ?_
      show Steps p.tables e below (s₁.setTop (mkF m 58 #[.val (.ref r0), .val (.int p1), .val (.int p2), .val (.long q3), .second, .val (.int p4), .val (.int p1), .val (.int v1), .val (.int v4), .val (.int v16), .val (.int (4 : Int32)), .val (.long (UU (((p1 + ((4 : Int32) * v4)) - (1 : Int32))).toNatClampNeg)), .second] [(.long ((UU (((p1 + ((4 : Int32) * v4)) - (1 : Int32))).toNatClampNeg) - q3)), (.int v16)])) _
      refine XS.bipush X0.here hx rfl (hb hby d3_58) ?_
      show Steps p.tables e below (s₁.setTop (mkF m 60 #[.val (.ref r0), .val (.int p1), .val (.int p2), .val (.long q3), .second, .val (.int p4), .val (.int p1), .val (.int v1), .val (.int v4), .val (.int v16), .val (.int (4 : Int32)), .val (.long (UU (((p1 + ((4 : Int32) * v4)) - (1 : Int32))).toNatClampNeg)), .second] [(.int (63 : Int32)), (.long ((UU (((p1 + ((4 : Int32) * v4)) - (1 : Int32))).toNatClampNeg) - q3)), (.int v16)])) _
      refine XS.lushr X0.here hx rfl (hb hby d3_60) rfl ?_
      show Steps p.tables e below (s₁.setTop (mkF m 61 #[.val (.ref r0), .val (.int p1), .val (.int p2), .val (.long q3), .second, .val (.int p4), .val (.int p1), .val (.int v1), .val (.int v4), .val (.int v16), .val (.int (4 : Int32)), .val (.long (UU (((p1 + ((4 : Int32) * v4)) - (1 : Int32))).toNatClampNeg)), .second] [(.long ((((UU (((p1 + ((4 : Int32) * v4)) - (1 : Int32))).toNatClampNeg) - q3).toUInt64 >>> ((63 : Int32) &&& 0x3f).toInt64.toUInt64).toInt64)), (.int v16)])) _
      refine XS.l2i X0.here hx rfl (hb hby d3_61) rfl ?_
      show Steps p.tables e below (s₁.setTop (mkF m 62 #[.val (.ref r0), .val (.int p1), .val (.int p2), .val (.long q3), .second, .val (.int p4), .val (.int p1), .val (.int v1), .val (.int v4), .val (.int v16), .val (.int (4 : Int32)), .val (.long (UU (((p1 + ((4 : Int32) * v4)) - (1 : Int32))).toNatClampNeg)), .second] [(.int (((((UU (((p1 + ((4 : Int32) * v4)) - (1 : Int32))).toNatClampNeg) - q3).toUInt64 >>> ((63 : Int32) &&& 0x3f).toInt64.toUInt64).toInt64).toInt32)), (.int v16)])) _
      rw [← ec19]
      show Steps p.tables e below (s₁.setTop (mkF m 62 #[.val (.ref r0), .val (.int p1), .val (.int p2), .val (.long q3), .second, .val (.int p4), .val (.int p1), .val (.int v1), .val (.int v4), .val (.int v16), .val (.int (4 : Int32)), .val (.long (UU (((p1 + ((4 : Int32) * v4)) - (1 : Int32))).toNatClampNeg)), .second] [(.int c19), (.int v16)])) _
      refine XS.iadd X0.here hx rfl (hb hby d3_62) rfl ?_
      show Steps p.tables e below (s₁.setTop (mkF m 63 #[.val (.ref r0), .val (.int p1), .val (.int p2), .val (.long q3), .second, .val (.int p4), .val (.int p1), .val (.int v1), .val (.int v4), .val (.int v16), .val (.int (4 : Int32)), .val (.long (UU (((p1 + ((4 : Int32) * v4)) - (1 : Int32))).toNatClampNeg)), .second] [(.int (v16 + c19))])) _
      rw [← ev20]
      show Steps p.tables e below (s₁.setTop (mkF m 63 #[.val (.ref r0), .val (.int p1), .val (.int p2), .val (.long q3), .second, .val (.int p4), .val (.int p1), .val (.int v1), .val (.int v4), .val (.int v16), .val (.int (4 : Int32)), .val (.long (UU (((p1 + ((4 : Int32) * v4)) - (1 : Int32))).toNatClampNeg)), .second] [(.int v20)])) _
      refine XS.istore X0.here hx rfl (hb hby d3_63) rfl (l' := #[.val (.ref r0), .val (.int p1), .val (.int p2), .val (.long q3), .second, .val (.int p4), .val (.int p1), .val (.int v1), .val (.int v4), .val (.int v20), .val (.int (4 : Int32)), .val (.long (UU (((p1 + ((4 : Int32) * v4)) - (1 : Int32))).toNatClampNeg)), .second]) rfl ?_
      show Steps p.tables e below (s₁.setTop (mkF m 65 #[.val (.ref r0), .val (.int p1), .val (.int p2), .val (.long q3), .second, .val (.int p4), .val (.int p1), .val (.int v1), .val (.int v4), .val (.int v20), .val (.int (4 : Int32)), .val (.long (UU (((p1 + ((4 : Int32) * v4)) - (1 : Int32))).toNatClampNeg)), .second] [])) _
      refine XS.iinc X0.here hx rfl (hb hby d3_65) rfl (l' := #[.val (.ref r0), .val (.int p1), .val (.int p2), .val (.long q3), .second, .val (.int p4), .val (.int p1), .val (.int v1), .val (.int v4), .val (.int v20), .val (.int (5 : Int32)), .val (.long (UU (((p1 + ((4 : Int32) * v4)) - (1 : Int32))).toNatClampNeg)), .second]) rfl ?_
      show Steps p.tables e below (s₁.setTop (mkF m 68 #[.val (.ref r0), .val (.int p1), .val (.int p2), .val (.long q3), .second, .val (.int p4), .val (.int p1), .val (.int v1), .val (.int v4), .val (.int v20), .val (.int (5 : Int32)), .val (.long (UU (((p1 + ((4 : Int32) * v4)) - (1 : Int32))).toNatClampNeg)), .second] [])) _
      refine XS.goto X0.here hx rfl (pc0 := 68) (pc' := 28) rfl (hb hby d3_68) (by decide) (by decide) ?_
      show Steps p.tables e below (s₁.setTop (mkF m 28 #[.val (.ref r0), .val (.int p1), .val (.int p2), .val (.long q3), .second, .val (.int p4), .val (.int p1), .val (.int v1), .val (.int v4), .val (.int v20), .val (.int (5 : Int32)), .val (.long (UU (((p1 + ((4 : Int32) * v4)) - (1 : Int32))).toNatClampNeg)), .second] [])) _
      refine XS.iload X0.here hx rfl (hb hby d3_28) rfl ?_
      show Steps p.tables e below (s₁.setTop (mkF m 30 #[.val (.ref r0), .val (.int p1), .val (.int p2), .val (.long q3), .second, .val (.int p4), .val (.int p1), .val (.int v1), .val (.int v4), .val (.int v20), .val (.int (5 : Int32)), .val (.long (UU (((p1 + ((4 : Int32) * v4)) - (1 : Int32))).toNatClampNeg)), .second] [(.int (5 : Int32))])) _
      refine XS.bipush X0.here hx rfl (hb hby d3_30) ?_
      show Steps p.tables e below (s₁.setTop (mkF m 32 #[.val (.ref r0), .val (.int p1), .val (.int p2), .val (.long q3), .second, .val (.int p4), .val (.int p1), .val (.int v1), .val (.int v4), .val (.int v20), .val (.int (5 : Int32)), .val (.long (UU (((p1 + ((4 : Int32) * v4)) - (1 : Int32))).toNatClampNeg)), .second] [(.int (8 : Int32)), (.int (5 : Int32))])) _
      refine XS.icmpNo X0.here hx rfl (hb hby d3_32) rfl (tlt (by decide)).2.1 ?_
      show Steps p.tables e below (s₁.setTop (mkF m 35 #[.val (.ref r0), .val (.int p1), .val (.int p2), .val (.long q3), .second, .val (.int p4), .val (.int p1), .val (.int v1), .val (.int v4), .val (.int v20), .val (.int (5 : Int32)), .val (.long (UU (((p1 + ((4 : Int32) * v4)) - (1 : Int32))).toNatClampNeg)), .second] [])) _
      refine XS.aloadN X0.here hx rfl (hb hby d3_35) rfl rfl ?_
      show Steps p.tables e below (s₁.setTop (mkF m 36 #[.val (.ref r0), .val (.int p1), .val (.int p2), .val (.long q3), .second, .val (.int p4), .val (.int p1), .val (.int v1), .val (.int v4), .val (.int v20), .val (.int (5 : Int32)), .val (.long (UU (((p1 + ((4 : Int32) * v4)) - (1 : Int32))).toNatClampNeg)), .second] [(.ref r0)])) _
      refine XS.iload X0.here hx rfl (hb hby d3_36) rfl ?_
      show Steps p.tables e below (s₁.setTop (mkF m 38 #[.val (.ref r0), .val (.int p1), .val (.int p2), .val (.long q3), .second, .val (.int p4), .val (.int p1), .val (.int v1), .val (.int v4), .val (.int v20), .val (.int (5 : Int32)), .val (.long (UU (((p1 + ((4 : Int32) * v4)) - (1 : Int32))).toNatClampNeg)), .second] [(.int p1), (.ref r0)])) _
      refine XS.iload X0.here hx rfl (hb hby d3_38) rfl ?_
      show Steps p.tables e below (s₁.setTop (mkF m 40 #[.val (.ref r0), .val (.int p1), .val (.int p2), .val (.long q3), .second, .val (.int p4), .val (.int p1), .val (.int v1), .val (.int v4), .val (.int v20), .val (.int (5 : Int32)), .val (.long (UU (((p1 + ((4 : Int32) * v4)) - (1 : Int32))).toNatClampNeg)), .second] [(.int (5 : Int32)), (.int p1), (.ref r0)])) _
      refine XS.iload X0.here hx rfl (hb hby d3_40) rfl ?_
      show Steps p.tables e below (s₁.setTop (mkF m 42 #[.val (.ref r0), .val (.int p1), .val (.int p2), .val (.long q3), .second, .val (.int p4), .val (.int p1), .val (.int v1), .val (.int v4), .val (.int v20), .val (.int (5 : Int32)), .val (.long (UU (((p1 + ((4 : Int32) * v4)) - (1 : Int32))).toNatClampNeg)), .second] [(.int v4), (.int (5 : Int32)), (.int p1), (.ref r0)])) _
      refine XS.imul X0.here hx rfl (hb hby d3_42) rfl ?_
      show Steps p.tables e below (s₁.setTop (mkF m 43 #[.val (.ref r0), .val (.int p1), .val (.int p2), .val (.long q3), .second, .val (.int p4), .val (.int p1), .val (.int v1), .val (.int v4), .val (.int v20), .val (.int (5 : Int32)), .val (.long (UU (((p1 + ((4 : Int32) * v4)) - (1 : Int32))).toNatClampNeg)), .second] [(.int ((5 : Int32) * v4)), (.int p1), (.ref r0)])) _
      refine XS.iadd X0.here hx rfl (hb hby d3_43) rfl ?_
      show Steps p.tables e below (s₁.setTop (mkF m 44 #[.val (.ref r0), .val (.int p1), .val (.int p2), .val (.long q3), .second, .val (.int p4), .val (.int p1), .val (.int v1), .val (.int v4), .val (.int v20), .val (.int (5 : Int32)), .val (.long (UU (((p1 + ((4 : Int32) * v4)) - (1 : Int32))).toNatClampNeg)), .second] [(.int (p1 + ((5 : Int32) * v4))), (.ref r0)])) _
      refine XS.iconst X0.here hx rfl (hb hby d3_44) ?_
      show Steps p.tables e below (s₁.setTop (mkF m 45 #[.val (.ref r0), .val (.int p1), .val (.int p2), .val (.long q3), .second, .val (.int p4), .val (.int p1), .val (.int v1), .val (.int v4), .val (.int v20), .val (.int (5 : Int32)), .val (.long (UU (((p1 + ((4 : Int32) * v4)) - (1 : Int32))).toNatClampNeg)), .second] [(.int (1 : Int32)), (.int (p1 + ((5 : Int32) * v4))), (.ref r0)])) _
      refine XS.isub X0.here hx rfl (hb hby d3_45) rfl ?_
      show Steps p.tables e below (s₁.setTop (mkF m 46 #[.val (.ref r0), .val (.int p1), .val (.int p2), .val (.long q3), .second, .val (.int p4), .val (.int p1), .val (.int v1), .val (.int v4), .val (.int v20), .val (.int (5 : Int32)), .val (.long (UU (((p1 + ((4 : Int32) * v4)) - (1 : Int32))).toNatClampNeg)), .second] [(.int ((p1 + ((5 : Int32) * v4)) - (1 : Int32))), (.ref r0)])) _
      refine X0.laload hx (j := ((p1 + ((5 : Int32) * v4)) - (1 : Int32))) (v := (.long z21)) (by rw [e0]; exact Ar22.1) (State.isArrayOf_alike hZ.alike Ar22.2.1) Ar22.2.2 hin22 hat22 (g := (mkF m 46 #[.val (.ref r0), .val (.int p1), .val (.int p2), .val (.long q3), .second, .val (.int p4), .val (.int p1), .val (.int v1), .val (.int v4), .val (.int v20), .val (.int (5 : Int32)), .val (.long (UU (((p1 + ((4 : Int32) * v4)) - (1 : Int32))).toNatClampNeg)), .second] [(.int ((p1 + ((5 : Int32) * v4)) - (1 : Int32))), (.ref r0)])) rfl rfl (hb hby d3_46) _ ?_
      show Steps p.tables e below (s₁.setTop (mkF m 47 #[.val (.ref r0), .val (.int p1), .val (.int p2), .val (.long q3), .second, .val (.int p4), .val (.int p1), .val (.int v1), .val (.int v4), .val (.int v20), .val (.int (5 : Int32)), .val (.long (UU (((p1 + ((4 : Int32) * v4)) - (1 : Int32))).toNatClampNeg)), .second] [(.long z21)])) _
      refine XS.iload X0.here hx rfl (hb hby d3_47) rfl ?_
      show Steps p.tables e below (s₁.setTop (mkF m 49 #[.val (.ref r0), .val (.int p1), .val (.int p2), .val (.long q3), .second, .val (.int p4), .val (.int p1), .val (.int v1), .val (.int v4), .val (.int v20), .val (.int (5 : Int32)), .val (.long (UU (((p1 + ((4 : Int32) * v4)) - (1 : Int32))).toNatClampNeg)), .second] [(.int p4), (.long z21)])) _
      refine XS.lushr X0.here hx rfl (hb hby d3_49) rfl ?_
      show Steps p.tables e below (s₁.setTop (mkF m 50 #[.val (.ref r0), .val (.int p1), .val (.int p2), .val (.long q3), .second, .val (.int p4), .val (.int p1), .val (.int v1), .val (.int v4), .val (.int v20), .val (.int (5 : Int32)), .val (.long (UU (((p1 + ((4 : Int32) * v4)) - (1 : Int32))).toNatClampNeg)), .second] [(.long ((z21.toUInt64 >>> (p4 &&& 0x3f).toInt64.toUInt64).toInt64))])) _
      rw [hu21]
      show Steps p.tables e below (s₁.setTop (mkF m 50 #[.val (.ref r0), .val (.int p1), .val (.int p2), .val (.long q3), .second, .val (.int p4), .val (.int p1), .val (.int v1), .val (.int v4), .val (.int v20), .val (.int (5 : Int32)), .val (.long (UU (((p1 + ((4 : Int32) * v4)) - (1 : Int32))).toNatClampNeg)), .second] [(.long (UU (((p1 + ((5 : Int32) * v4)) - (1 : Int32))).toNatClampNeg))])) _
      refine XS.lstore X0.here hx rfl (hb hby d3_50) rfl (l' := #[.val (.ref r0), .val (.int p1), .val (.int p2), .val (.long q3), .second, .val (.int p4), .val (.int p1), .val (.int v1), .val (.int v4), .val (.int v20), .val (.int (5 : Int32)), .val (.long (UU (((p1 + ((5 : Int32) * v4)) - (1 : Int32))).toNatClampNeg)), .second]) rfl ?_
      show Steps p.tables e below (s₁.setTop (mkF m 52 #[.val (.ref r0), .val (.int p1), .val (.int p2), .val (.long q3), .second, .val (.int p4), .val (.int p1), .val (.int v1), .val (.int v4), .val (.int v20), .val (.int (5 : Int32)), .val (.long (UU (((p1 + ((5 : Int32) * v4)) - (1 : Int32))).toNatClampNeg)), .second] [])) _
      refine XS.iload X0.here hx rfl (hb hby d3_52) rfl ?_
      show Steps p.tables e below (s₁.setTop (mkF m 54 #[.val (.ref r0), .val (.int p1), .val (.int p2), .val (.long q3), .second, .val (.int p4), .val (.int p1), .val (.int v1), .val (.int v4), .val (.int v20), .val (.int (5 : Int32)), .val (.long (UU (((p1 + ((5 : Int32) * v4)) - (1 : Int32))).toNatClampNeg)), .second] [(.int v20)])) _
      refine XS.lload X0.here hx rfl (hb hby d3_54) rfl ?_
      show Steps p.tables e below (s₁.setTop (mkF m 56 #[.val (.ref r0), .val (.int p1), .val (.int p2), .val (.long q3), .second, .val (.int p4), .val (.int p1), .val (.int v1), .val (.int v4), .val (.int v20), .val (.int (5 : Int32)), .val (.long (UU (((p1 + ((5 : Int32) * v4)) - (1 : Int32))).toNatClampNeg)), .second] [(.long (UU (((p1 + ((5 : Int32) * v4)) - (1 : Int32))).toNatClampNeg)), (.int v20)])) _
      refine XS.lloadN X0.here hx rfl (hb hby d3_56) rfl ?_
      show Steps p.tables e below (s₁.setTop (mkF m 57 #[.val (.ref r0), .val (.int p1), .val (.int p2), .val (.long q3), .second, .val (.int p4), .val (.int p1), .val (.int v1), .val (.int v4), .val (.int v20), .val (.int (5 : Int32)), .val (.long (UU (((p1 + ((5 : Int32) * v4)) - (1 : Int32))).toNatClampNeg)), .second] [(.long q3), (.long (UU (((p1 + ((5 : Int32) * v4)) - (1 : Int32))).toNatClampNeg)), (.int v20)])) _
      refine XS.lsub X0.here hx rfl (hb hby d3_57) rfl ?_
      show Steps p.tables e below (s₁.setTop (mkF m 58 #[.val (.ref r0), .val (.int p1), .val (.int p2), .val (.long q3), .second, .val (.int p4), .val (.int p1), .val (.int v1), .val (.int v4), .val (.int v20), .val (.int (5 : Int32)), .val (.long (UU (((p1 + ((5 : Int32) * v4)) - (1 : Int32))).toNatClampNeg)), .second] [(.long ((UU (((p1 + ((5 : Int32) * v4)) - (1 : Int32))).toNatClampNeg) - q3)), (.int v20)])) _
      refine XS.bipush X0.here hx rfl (hb hby d3_58) ?_
      show Steps p.tables e below (s₁.setTop (mkF m 60 #[.val (.ref r0), .val (.int p1), .val (.int p2), .val (.long q3), .second, .val (.int p4), .val (.int p1), .val (.int v1), .val (.int v4), .val (.int v20), .val (.int (5 : Int32)), .val (.long (UU (((p1 + ((5 : Int32) * v4)) - (1 : Int32))).toNatClampNeg)), .second] [(.int (63 : Int32)), (.long ((UU (((p1 + ((5 : Int32) * v4)) - (1 : Int32))).toNatClampNeg) - q3)), (.int v20)])) _
      refine XS.lushr X0.here hx rfl (hb hby d3_60) rfl ?_
      show Steps p.tables e below (s₁.setTop (mkF m 61 #[.val (.ref r0), .val (.int p1), .val (.int p2), .val (.long q3), .second, .val (.int p4), .val (.int p1), .val (.int v1), .val (.int v4), .val (.int v20), .val (.int (5 : Int32)), .val (.long (UU (((p1 + ((5 : Int32) * v4)) - (1 : Int32))).toNatClampNeg)), .second] [(.long ((((UU (((p1 + ((5 : Int32) * v4)) - (1 : Int32))).toNatClampNeg) - q3).toUInt64 >>> ((63 : Int32) &&& 0x3f).toInt64.toUInt64).toInt64)), (.int v20)])) _
      refine XS.l2i X0.here hx rfl (hb hby d3_61) rfl ?_
      show Steps p.tables e below (s₁.setTop (mkF m 62 #[.val (.ref r0), .val (.int p1), .val (.int p2), .val (.long q3), .second, .val (.int p4), .val (.int p1), .val (.int v1), .val (.int v4), .val (.int v20), .val (.int (5 : Int32)), .val (.long (UU (((p1 + ((5 : Int32) * v4)) - (1 : Int32))).toNatClampNeg)), .second] [(.int (((((UU (((p1 + ((5 : Int32) * v4)) - (1 : Int32))).toNatClampNeg) - q3).toUInt64 >>> ((63 : Int32) &&& 0x3f).toInt64.toUInt64).toInt64).toInt32)), (.int v20)])) _
      rw [← ec23]
      show Steps p.tables e below (s₁.setTop (mkF m 62 #[.val (.ref r0), .val (.int p1), .val (.int p2), .val (.long q3), .second, .val (.int p4), .val (.int p1), .val (.int v1), .val (.int v4), .val (.int v20), .val (.int (5 : Int32)), .val (.long (UU (((p1 + ((5 : Int32) * v4)) - (1 : Int32))).toNatClampNeg)), .second] [(.int c23), (.int v20)])) _
      refine XS.iadd X0.here hx rfl (hb hby d3_62) rfl ?_
      show Steps p.tables e below (s₁.setTop (mkF m 63 #[.val (.ref r0), .val (.int p1), .val (.int p2), .val (.long q3), .second, .val (.int p4), .val (.int p1), .val (.int v1), .val (.int v4), .val (.int v20), .val (.int (5 : Int32)), .val (.long (UU (((p1 + ((5 : Int32) * v4)) - (1 : Int32))).toNatClampNeg)), .second] [(.int (v20 + c23))])) _
      rw [← ev24]
      show Steps p.tables e below (s₁.setTop (mkF m 63 #[.val (.ref r0), .val (.int p1), .val (.int p2), .val (.long q3), .second, .val (.int p4), .val (.int p1), .val (.int v1), .val (.int v4), .val (.int v20), .val (.int (5 : Int32)), .val (.long (UU (((p1 + ((5 : Int32) * v4)) - (1 : Int32))).toNatClampNeg)), .second] [(.int v24)])) _
      refine XS.istore X0.here hx rfl (hb hby d3_63) rfl (l' := #[.val (.ref r0), .val (.int p1), .val (.int p2), .val (.long q3), .second, .val (.int p4), .val (.int p1), .val (.int v1), .val (.int v4), .val (.int v24), .val (.int (5 : Int32)), .val (.long (UU (((p1 + ((5 : Int32) * v4)) - (1 : Int32))).toNatClampNeg)), .second]) rfl ?_
      show Steps p.tables e below (s₁.setTop (mkF m 65 #[.val (.ref r0), .val (.int p1), .val (.int p2), .val (.long q3), .second, .val (.int p4), .val (.int p1), .val (.int v1), .val (.int v4), .val (.int v24), .val (.int (5 : Int32)), .val (.long (UU (((p1 + ((5 : Int32) * v4)) - (1 : Int32))).toNatClampNeg)), .second] [])) _
      refine XS.iinc X0.here hx rfl (hb hby d3_65) rfl (l' := #[.val (.ref r0), .val (.int p1), .val (.int p2), .val (.long q3), .second, .val (.int p4), .val (.int p1), .val (.int v1), .val (.int v4), .val (.int v24), .val (.int (6 : Int32)), .val (.long (UU (((p1 + ((5 : Int32) * v4)) - (1 : Int32))).toNatClampNeg)), .second]) rfl ?_
      show Steps p.tables e below (s₁.setTop (mkF m 68 #[.val (.ref r0), .val (.int p1), .val (.int p2), .val (.long q3), .second, .val (.int p4), .val (.int p1), .val (.int v1), .val (.int v4), .val (.int v24), .val (.int (6 : Int32)), .val (.long (UU (((p1 + ((5 : Int32) * v4)) - (1 : Int32))).toNatClampNeg)), .second] [])) _
      refine XS.goto X0.here hx rfl (pc0 := 68) (pc' := 28) rfl (hb hby d3_68) (by decide) (by decide) ?_
      show Steps p.tables e below (s₁.setTop (mkF m 28 #[.val (.ref r0), .val (.int p1), .val (.int p2), .val (.long q3), .second, .val (.int p4), .val (.int p1), .val (.int v1), .val (.int v4), .val (.int v24), .val (.int (6 : Int32)), .val (.long (UU (((p1 + ((5 : Int32) * v4)) - (1 : Int32))).toNatClampNeg)), .second] [])) _
      refine XS.iload X0.here hx rfl (hb hby d3_28) rfl ?_
      show Steps p.tables e below (s₁.setTop (mkF m 30 #[.val (.ref r0), .val (.int p1), .val (.int p2), .val (.long q3), .second, .val (.int p4), .val (.int p1), .val (.int v1), .val (.int v4), .val (.int v24), .val (.int (6 : Int32)), .val (.long (UU (((p1 + ((5 : Int32) * v4)) - (1 : Int32))).toNatClampNeg)), .second] [(.int (6 : Int32))])) _
      refine XS.bipush X0.here hx rfl (hb hby d3_30) ?_
      show Steps p.tables e below (s₁.setTop (mkF m 32 #[.val (.ref r0), .val (.int p1), .val (.int p2), .val (.long q3), .second, .val (.int p4), .val (.int p1), .val (.int v1), .val (.int v4), .val (.int v24), .val (.int (6 : Int32)), .val (.long (UU (((p1 + ((5 : Int32) * v4)) - (1 : Int32))).toNatClampNeg)), .second] [(.int (8 : Int32)), (.int (6 : Int32))])) _
      refine XS.icmpNo X0.here hx rfl (hb hby d3_32) rfl (tlt (by decide)).2.1 ?_
      show Steps p.tables e below (s₁.setTop (mkF m 35 #[.val (.ref r0), .val (.int p1), .val (.int p2), .val (.long q3), .second, .val (.int p4), .val (.int p1), .val (.int v1), .val (.int v4), .val (.int v24), .val (.int (6 : Int32)), .val (.long (UU (((p1 + ((5 : Int32) * v4)) - (1 : Int32))).toNatClampNeg)), .second] [])) _
      refine XS.aloadN X0.here hx rfl (hb hby d3_35) rfl rfl ?_
      show Steps p.tables e below (s₁.setTop (mkF m 36 #[.val (.ref r0), .val (.int p1), .val (.int p2), .val (.long q3), .second, .val (.int p4), .val (.int p1), .val (.int v1), .val (.int v4), .val (.int v24), .val (.int (6 : Int32)), .val (.long (UU (((p1 + ((5 : Int32) * v4)) - (1 : Int32))).toNatClampNeg)), .second] [(.ref r0)])) _
      refine XS.iload X0.here hx rfl (hb hby d3_36) rfl ?_
      show Steps p.tables e below (s₁.setTop (mkF m 38 #[.val (.ref r0), .val (.int p1), .val (.int p2), .val (.long q3), .second, .val (.int p4), .val (.int p1), .val (.int v1), .val (.int v4), .val (.int v24), .val (.int (6 : Int32)), .val (.long (UU (((p1 + ((5 : Int32) * v4)) - (1 : Int32))).toNatClampNeg)), .second] [(.int p1), (.ref r0)])) _
      refine XS.iload X0.here hx rfl (hb hby d3_38) rfl ?_
      show Steps p.tables e below (s₁.setTop (mkF m 40 #[.val (.ref r0), .val (.int p1), .val (.int p2), .val (.long q3), .second, .val (.int p4), .val (.int p1), .val (.int v1), .val (.int v4), .val (.int v24), .val (.int (6 : Int32)), .val (.long (UU (((p1 + ((5 : Int32) * v4)) - (1 : Int32))).toNatClampNeg)), .second] [(.int (6 : Int32)), (.int p1), (.ref r0)])) _
      refine XS.iload X0.here hx rfl (hb hby d3_40) rfl ?_
      show Steps p.tables e below (s₁.setTop (mkF m 42 #[.val (.ref r0), .val (.int p1), .val (.int p2), .val (.long q3), .second, .val (.int p4), .val (.int p1), .val (.int v1), .val (.int v4), .val (.int v24), .val (.int (6 : Int32)), .val (.long (UU (((p1 + ((5 : Int32) * v4)) - (1 : Int32))).toNatClampNeg)), .second] [(.int v4), (.int (6 : Int32)), (.int p1), (.ref r0)])) _
      refine XS.imul X0.here hx rfl (hb hby d3_42) rfl ?_
      show Steps p.tables e below (s₁.setTop (mkF m 43 #[.val (.ref r0), .val (.int p1), .val (.int p2), .val (.long q3), .second, .val (.int p4), .val (.int p1), .val (.int v1), .val (.int v4), .val (.int v24), .val (.int (6 : Int32)), .val (.long (UU (((p1 + ((5 : Int32) * v4)) - (1 : Int32))).toNatClampNeg)), .second] [(.int ((6 : Int32) * v4)), (.int p1), (.ref r0)])) _
      refine XS.iadd X0.here hx rfl (hb hby d3_43) rfl ?_
      show Steps p.tables e below (s₁.setTop (mkF m 44 #[.val (.ref r0), .val (.int p1), .val (.int p2), .val (.long q3), .second, .val (.int p4), .val (.int p1), .val (.int v1), .val (.int v4), .val (.int v24), .val (.int (6 : Int32)), .val (.long (UU (((p1 + ((5 : Int32) * v4)) - (1 : Int32))).toNatClampNeg)), .second] [(.int (p1 + ((6 : Int32) * v4))), (.ref r0)])) _
      refine XS.iconst X0.here hx rfl (hb hby d3_44) ?_
      show Steps p.tables e below (s₁.setTop (mkF m 45 #[.val (.ref r0), .val (.int p1), .val (.int p2), .val (.long q3), .second, .val (.int p4), .val (.int p1), .val (.int v1), .val (.int v4), .val (.int v24), .val (.int (6 : Int32)), .val (.long (UU (((p1 + ((5 : Int32) * v4)) - (1 : Int32))).toNatClampNeg)), .second] [(.int (1 : Int32)), (.int (p1 + ((6 : Int32) * v4))), (.ref r0)])) _
      refine XS.isub X0.here hx rfl (hb hby d3_45) rfl ?_
      show Steps p.tables e below (s₁.setTop (mkF m 46 #[.val (.ref r0), .val (.int p1), .val (.int p2), .val (.long q3), .second, .val (.int p4), .val (.int p1), .val (.int v1), .val (.int v4), .val (.int v24), .val (.int (6 : Int32)), .val (.long (UU (((p1 + ((5 : Int32) * v4)) - (1 : Int32))).toNatClampNeg)), .second] [(.int ((p1 + ((6 : Int32) * v4)) - (1 : Int32))), (.ref r0)])) _
      refine X0.laload hx (j := ((p1 + ((6 : Int32) * v4)) - (1 : Int32))) (v := (.long z25)) (by rw [e0]; exact Ar26.1) (State.isArrayOf_alike hZ.alike Ar26.2.1) Ar26.2.2 hin26 hat26 (g := (mkF m 46 #[.val (.ref r0), .val (.int p1), .val (.int p2), .val (.long q3), .second, .val (.int p4), .val (.int p1), .val (.int v1), .val (.int v4), .val (.int v24), .val (.int (6 : Int32)), .val (.long (UU (((p1 + ((5 : Int32) * v4)) - (1 : Int32))).toNatClampNeg)), .second] [(.int ((p1 + ((6 : Int32) * v4)) - (1 : Int32))), (.ref r0)])) rfl rfl (hb hby d3_46) _ ?_
      show Steps p.tables e below (s₁.setTop (mkF m 47 #[.val (.ref r0), .val (.int p1), .val (.int p2), .val (.long q3), .second, .val (.int p4), .val (.int p1), .val (.int v1), .val (.int v4), .val (.int v24), .val (.int (6 : Int32)), .val (.long (UU (((p1 + ((5 : Int32) * v4)) - (1 : Int32))).toNatClampNeg)), .second] [(.long z25)])) _
      refine XS.iload X0.here hx rfl (hb hby d3_47) rfl ?_
      show Steps p.tables e below (s₁.setTop (mkF m 49 #[.val (.ref r0), .val (.int p1), .val (.int p2), .val (.long q3), .second, .val (.int p4), .val (.int p1), .val (.int v1), .val (.int v4), .val (.int v24), .val (.int (6 : Int32)), .val (.long (UU (((p1 + ((5 : Int32) * v4)) - (1 : Int32))).toNatClampNeg)), .second] [(.int p4), (.long z25)])) _
      refine XS.lushr X0.here hx rfl (hb hby d3_49) rfl ?_
      show Steps p.tables e below (s₁.setTop (mkF m 50 #[.val (.ref r0), .val (.int p1), .val (.int p2), .val (.long q3), .second, .val (.int p4), .val (.int p1), .val (.int v1), .val (.int v4), .val (.int v24), .val (.int (6 : Int32)), .val (.long (UU (((p1 + ((5 : Int32) * v4)) - (1 : Int32))).toNatClampNeg)), .second] [(.long ((z25.toUInt64 >>> (p4 &&& 0x3f).toInt64.toUInt64).toInt64))])) _
      rw [hu25]
      show Steps p.tables e below (s₁.setTop (mkF m 50 #[.val (.ref r0), .val (.int p1), .val (.int p2), .val (.long q3), .second, .val (.int p4), .val (.int p1), .val (.int v1), .val (.int v4), .val (.int v24), .val (.int (6 : Int32)), .val (.long (UU (((p1 + ((5 : Int32) * v4)) - (1 : Int32))).toNatClampNeg)), .second] [(.long (UU (((p1 + ((6 : Int32) * v4)) - (1 : Int32))).toNatClampNeg))])) _
      refine XS.lstore X0.here hx rfl (hb hby d3_50) rfl (l' := #[.val (.ref r0), .val (.int p1), .val (.int p2), .val (.long q3), .second, .val (.int p4), .val (.int p1), .val (.int v1), .val (.int v4), .val (.int v24), .val (.int (6 : Int32)), .val (.long (UU (((p1 + ((6 : Int32) * v4)) - (1 : Int32))).toNatClampNeg)), .second]) rfl ?_
      show Steps p.tables e below (s₁.setTop (mkF m 52 #[.val (.ref r0), .val (.int p1), .val (.int p2), .val (.long q3), .second, .val (.int p4), .val (.int p1), .val (.int v1), .val (.int v4), .val (.int v24), .val (.int (6 : Int32)), .val (.long (UU (((p1 + ((6 : Int32) * v4)) - (1 : Int32))).toNatClampNeg)), .second] [])) _
      refine XS.iload X0.here hx rfl (hb hby d3_52) rfl ?_
      show Steps p.tables e below (s₁.setTop (mkF m 54 #[.val (.ref r0), .val (.int p1), .val (.int p2), .val (.long q3), .second, .val (.int p4), .val (.int p1), .val (.int v1), .val (.int v4), .val (.int v24), .val (.int (6 : Int32)), .val (.long (UU (((p1 + ((6 : Int32) * v4)) - (1 : Int32))).toNatClampNeg)), .second] [(.int v24)])) _
      refine XS.lload X0.here hx rfl (hb hby d3_54) rfl ?_
      show Steps p.tables e below (s₁.setTop (mkF m 56 #[.val (.ref r0), .val (.int p1), .val (.int p2), .val (.long q3), .second, .val (.int p4), .val (.int p1), .val (.int v1), .val (.int v4), .val (.int v24), .val (.int (6 : Int32)), .val (.long (UU (((p1 + ((6 : Int32) * v4)) - (1 : Int32))).toNatClampNeg)), .second] [(.long (UU (((p1 + ((6 : Int32) * v4)) - (1 : Int32))).toNatClampNeg)), (.int v24)])) _
      refine XS.lloadN X0.here hx rfl (hb hby d3_56) rfl ?_
      show Steps p.tables e below (s₁.setTop (mkF m 57 #[.val (.ref r0), .val (.int p1), .val (.int p2), .val (.long q3), .second, .val (.int p4), .val (.int p1), .val (.int v1), .val (.int v4), .val (.int v24), .val (.int (6 : Int32)), .val (.long (UU (((p1 + ((6 : Int32) * v4)) - (1 : Int32))).toNatClampNeg)), .second] [(.long q3), (.long (UU (((p1 + ((6 : Int32) * v4)) - (1 : Int32))).toNatClampNeg)), (.int v24)])) _
      refine XS.lsub X0.here hx rfl (hb hby d3_57) rfl ?_
      show Steps p.tables e below (s₁.setTop (mkF m 58 #[.val (.ref r0), .val (.int p1), .val (.int p2), .val (.long q3), .second, .val (.int p4), .val (.int p1), .val (.int v1), .val (.int v4), .val (.int v24), .val (.int (6 : Int32)), .val (.long (UU (((p1 + ((6 : Int32) * v4)) - (1 : Int32))).toNatClampNeg)), .second] [(.long ((UU (((p1 + ((6 : Int32) * v4)) - (1 : Int32))).toNatClampNeg) - q3)), (.int v24)])) _
      refine XS.bipush X0.here hx rfl (hb hby d3_58) ?_
      show Steps p.tables e below (s₁.setTop (mkF m 60 #[.val (.ref r0), .val (.int p1), .val (.int p2), .val (.long q3), .second, .val (.int p4), .val (.int p1), .val (.int v1), .val (.int v4), .val (.int v24), .val (.int (6 : Int32)), .val (.long (UU (((p1 + ((6 : Int32) * v4)) - (1 : Int32))).toNatClampNeg)), .second] [(.int (63 : Int32)), (.long ((UU (((p1 + ((6 : Int32) * v4)) - (1 : Int32))).toNatClampNeg) - q3)), (.int v24)])) _
      refine XS.lushr X0.here hx rfl (hb hby d3_60) rfl ?_
      show Steps p.tables e below (s₁.setTop (mkF m 61 #[.val (.ref r0), .val (.int p1), .val (.int p2), .val (.long q3), .second, .val (.int p4), .val (.int p1), .val (.int v1), .val (.int v4), .val (.int v24), .val (.int (6 : Int32)), .val (.long (UU (((p1 + ((6 : Int32) * v4)) - (1 : Int32))).toNatClampNeg)), .second] [(.long ((((UU (((p1 + ((6 : Int32) * v4)) - (1 : Int32))).toNatClampNeg) - q3).toUInt64 >>> ((63 : Int32) &&& 0x3f).toInt64.toUInt64).toInt64)), (.int v24)])) _
      refine XS.l2i X0.here hx rfl (hb hby d3_61) rfl ?_
      show Steps p.tables e below (s₁.setTop (mkF m 62 #[.val (.ref r0), .val (.int p1), .val (.int p2), .val (.long q3), .second, .val (.int p4), .val (.int p1), .val (.int v1), .val (.int v4), .val (.int v24), .val (.int (6 : Int32)), .val (.long (UU (((p1 + ((6 : Int32) * v4)) - (1 : Int32))).toNatClampNeg)), .second] [(.int (((((UU (((p1 + ((6 : Int32) * v4)) - (1 : Int32))).toNatClampNeg) - q3).toUInt64 >>> ((63 : Int32) &&& 0x3f).toInt64.toUInt64).toInt64).toInt32)), (.int v24)])) _
      rw [← ec27]
      show Steps p.tables e below (s₁.setTop (mkF m 62 #[.val (.ref r0), .val (.int p1), .val (.int p2), .val (.long q3), .second, .val (.int p4), .val (.int p1), .val (.int v1), .val (.int v4), .val (.int v24), .val (.int (6 : Int32)), .val (.long (UU (((p1 + ((6 : Int32) * v4)) - (1 : Int32))).toNatClampNeg)), .second] [(.int c27), (.int v24)])) _
      refine XS.iadd X0.here hx rfl (hb hby d3_62) rfl ?_
      show Steps p.tables e below (s₁.setTop (mkF m 63 #[.val (.ref r0), .val (.int p1), .val (.int p2), .val (.long q3), .second, .val (.int p4), .val (.int p1), .val (.int v1), .val (.int v4), .val (.int v24), .val (.int (6 : Int32)), .val (.long (UU (((p1 + ((6 : Int32) * v4)) - (1 : Int32))).toNatClampNeg)), .second] [(.int (v24 + c27))])) _
      rw [← ev28]
      show Steps p.tables e below (s₁.setTop (mkF m 63 #[.val (.ref r0), .val (.int p1), .val (.int p2), .val (.long q3), .second, .val (.int p4), .val (.int p1), .val (.int v1), .val (.int v4), .val (.int v24), .val (.int (6 : Int32)), .val (.long (UU (((p1 + ((6 : Int32) * v4)) - (1 : Int32))).toNatClampNeg)), .second] [(.int v28)])) _
      refine XS.istore X0.here hx rfl (hb hby d3_63) rfl (l' := #[.val (.ref r0), .val (.int p1), .val (.int p2), .val (.long q3), .second, .val (.int p4), .val (.int p1), .val (.int v1), .val (.int v4), .val (.int v28), .val (.int (6 : Int32)), .val (.long (UU (((p1 + ((6 : Int32) * v4)) - (1 : Int32))).toNatClampNeg)), .second]) rfl ?_
      show Steps p.tables e below (s₁.setTop (mkF m 65 #[.val (.ref r0), .val (.int p1), .val (.int p2), .val (.long q3), .second, .val (.int p4), .val (.int p1), .val (.int v1), .val (.int v4), .val (.int v28), .val (.int (6 : Int32)), .val (.long (UU (((p1 + ((6 : Int32) * v4)) - (1 : Int32))).toNatClampNeg)), .second] [])) _
      refine XS.iinc X0.here hx rfl (hb hby d3_65) rfl (l' := #[.val (.ref r0), .val (.int p1), .val (.int p2), .val (.long q3), .second, .val (.int p4), .val (.int p1), .val (.int v1), .val (.int v4), .val (.int v28), .val (.int (7 : Int32)), .val (.long (UU (((p1 + ((6 : Int32) * v4)) - (1 : Int32))).toNatClampNeg)), .second]) rfl ?_
      show Steps p.tables e below (s₁.setTop (mkF m 68 #[.val (.ref r0), .val (.int p1), .val (.int p2), .val (.long q3), .second, .val (.int p4), .val (.int p1), .val (.int v1), .val (.int v4), .val (.int v28), .val (.int (7 : Int32)), .val (.long (UU (((p1 + ((6 : Int32) * v4)) - (1 : Int32))).toNatClampNeg)), .second] [])) _
      refine XS.goto X0.here hx rfl (pc0 := 68) (pc' := 28) rfl (hb hby d3_68) (by decide) (by decide) ?_
      show Steps p.tables e below (s₁.setTop (mkF m 28 #[.val (.ref r0), .val (.int p1), .val (.int p2), .val (.long q3), .second, .val (.int p4), .val (.int p1), .val (.int v1), .val (.int v4), .val (.int v28), .val (.int (7 : Int32)), .val (.long (UU (((p1 + ((6 : Int32) * v4)) - (1 : Int32))).toNatClampNeg)), .second] [])) _
      refine XS.iload X0.here hx rfl (hb hby d3_28) rfl ?_
      show Steps p.tables e below (s₁.setTop (mkF m 30 #[.val (.ref r0), .val (.int p1), .val (.int p2), .val (.long q3), .second, .val (.int p4), .val (.int p1), .val (.int v1), .val (.int v4), .val (.int v28), .val (.int (7 : Int32)), .val (.long (UU (((p1 + ((6 : Int32) * v4)) - (1 : Int32))).toNatClampNeg)), .second] [(.int (7 : Int32))])) _
      refine XS.bipush X0.here hx rfl (hb hby d3_30) ?_
      show Steps p.tables e below (s₁.setTop (mkF m 32 #[.val (.ref r0), .val (.int p1), .val (.int p2), .val (.long q3), .second, .val (.int p4), .val (.int p1), .val (.int v1), .val (.int v4), .val (.int v28), .val (.int (7 : Int32)), .val (.long (UU (((p1 + ((6 : Int32) * v4)) - (1 : Int32))).toNatClampNeg)), .second] [(.int (8 : Int32)), (.int (7 : Int32))])) _
      refine XS.icmpNo X0.here hx rfl (hb hby d3_32) rfl (tlt (by decide)).2.1 ?_
      show Steps p.tables e below (s₁.setTop (mkF m 35 #[.val (.ref r0), .val (.int p1), .val (.int p2), .val (.long q3), .second, .val (.int p4), .val (.int p1), .val (.int v1), .val (.int v4), .val (.int v28), .val (.int (7 : Int32)), .val (.long (UU (((p1 + ((6 : Int32) * v4)) - (1 : Int32))).toNatClampNeg)), .second] [])) _
      refine XS.aloadN X0.here hx rfl (hb hby d3_35) rfl rfl ?_
      show Steps p.tables e below (s₁.setTop (mkF m 36 #[.val (.ref r0), .val (.int p1), .val (.int p2), .val (.long q3), .second, .val (.int p4), .val (.int p1), .val (.int v1), .val (.int v4), .val (.int v28), .val (.int (7 : Int32)), .val (.long (UU (((p1 + ((6 : Int32) * v4)) - (1 : Int32))).toNatClampNeg)), .second] [(.ref r0)])) _
      refine XS.iload X0.here hx rfl (hb hby d3_36) rfl ?_
      show Steps p.tables e below (s₁.setTop (mkF m 38 #[.val (.ref r0), .val (.int p1), .val (.int p2), .val (.long q3), .second, .val (.int p4), .val (.int p1), .val (.int v1), .val (.int v4), .val (.int v28), .val (.int (7 : Int32)), .val (.long (UU (((p1 + ((6 : Int32) * v4)) - (1 : Int32))).toNatClampNeg)), .second] [(.int p1), (.ref r0)])) _
      refine XS.iload X0.here hx rfl (hb hby d3_38) rfl ?_
      show Steps p.tables e below (s₁.setTop (mkF m 40 #[.val (.ref r0), .val (.int p1), .val (.int p2), .val (.long q3), .second, .val (.int p4), .val (.int p1), .val (.int v1), .val (.int v4), .val (.int v28), .val (.int (7 : Int32)), .val (.long (UU (((p1 + ((6 : Int32) * v4)) - (1 : Int32))).toNatClampNeg)), .second] [(.int (7 : Int32)), (.int p1), (.ref r0)])) _
      refine XS.iload X0.here hx rfl (hb hby d3_40) rfl ?_
      show Steps p.tables e below (s₁.setTop (mkF m 42 #[.val (.ref r0), .val (.int p1), .val (.int p2), .val (.long q3), .second, .val (.int p4), .val (.int p1), .val (.int v1), .val (.int v4), .val (.int v28), .val (.int (7 : Int32)), .val (.long (UU (((p1 + ((6 : Int32) * v4)) - (1 : Int32))).toNatClampNeg)), .second] [(.int v4), (.int (7 : Int32)), (.int p1), (.ref r0)])) _
      refine XS.imul X0.here hx rfl (hb hby d3_42) rfl ?_
      show Steps p.tables e below (s₁.setTop (mkF m 43 #[.val (.ref r0), .val (.int p1), .val (.int p2), .val (.long q3), .second, .val (.int p4), .val (.int p1), .val (.int v1), .val (.int v4), .val (.int v28), .val (.int (7 : Int32)), .val (.long (UU (((p1 + ((6 : Int32) * v4)) - (1 : Int32))).toNatClampNeg)), .second] [(.int ((7 : Int32) * v4)), (.int p1), (.ref r0)])) _
      refine XS.iadd X0.here hx rfl (hb hby d3_43) rfl ?_
      show Steps p.tables e below (s₁.setTop (mkF m 44 #[.val (.ref r0), .val (.int p1), .val (.int p2), .val (.long q3), .second, .val (.int p4), .val (.int p1), .val (.int v1), .val (.int v4), .val (.int v28), .val (.int (7 : Int32)), .val (.long (UU (((p1 + ((6 : Int32) * v4)) - (1 : Int32))).toNatClampNeg)), .second] [(.int (p1 + ((7 : Int32) * v4))), (.ref r0)])) _
      refine XS.iconst X0.here hx rfl (hb hby d3_44) ?_
      show Steps p.tables e below (s₁.setTop (mkF m 45 #[.val (.ref r0), .val (.int p1), .val (.int p2), .val (.long q3), .second, .val (.int p4), .val (.int p1), .val (.int v1), .val (.int v4), .val (.int v28), .val (.int (7 : Int32)), .val (.long (UU (((p1 + ((6 : Int32) * v4)) - (1 : Int32))).toNatClampNeg)), .second] [(.int (1 : Int32)), (.int (p1 + ((7 : Int32) * v4))), (.ref r0)])) _
      refine XS.isub X0.here hx rfl (hb hby d3_45) rfl ?_
      show Steps p.tables e below (s₁.setTop (mkF m 46 #[.val (.ref r0), .val (.int p1), .val (.int p2), .val (.long q3), .second, .val (.int p4), .val (.int p1), .val (.int v1), .val (.int v4), .val (.int v28), .val (.int (7 : Int32)), .val (.long (UU (((p1 + ((6 : Int32) * v4)) - (1 : Int32))).toNatClampNeg)), .second] [(.int ((p1 + ((7 : Int32) * v4)) - (1 : Int32))), (.ref r0)])) _
      refine X0.laload hx (j := ((p1 + ((7 : Int32) * v4)) - (1 : Int32))) (v := (.long z29)) (by rw [e0]; exact Ar30.1) (State.isArrayOf_alike hZ.alike Ar30.2.1) Ar30.2.2 hin30 hat30 (g := (mkF m 46 #[.val (.ref r0), .val (.int p1), .val (.int p2), .val (.long q3), .second, .val (.int p4), .val (.int p1), .val (.int v1), .val (.int v4), .val (.int v28), .val (.int (7 : Int32)), .val (.long (UU (((p1 + ((6 : Int32) * v4)) - (1 : Int32))).toNatClampNeg)), .second] [(.int ((p1 + ((7 : Int32) * v4)) - (1 : Int32))), (.ref r0)])) rfl rfl (hb hby d3_46) _ ?_
      show Steps p.tables e below (s₁.setTop (mkF m 47 #[.val (.ref r0), .val (.int p1), .val (.int p2), .val (.long q3), .second, .val (.int p4), .val (.int p1), .val (.int v1), .val (.int v4), .val (.int v28), .val (.int (7 : Int32)), .val (.long (UU (((p1 + ((6 : Int32) * v4)) - (1 : Int32))).toNatClampNeg)), .second] [(.long z29)])) _
      refine XS.iload X0.here hx rfl (hb hby d3_47) rfl ?_
      show Steps p.tables e below (s₁.setTop (mkF m 49 #[.val (.ref r0), .val (.int p1), .val (.int p2), .val (.long q3), .second, .val (.int p4), .val (.int p1), .val (.int v1), .val (.int v4), .val (.int v28), .val (.int (7 : Int32)), .val (.long (UU (((p1 + ((6 : Int32) * v4)) - (1 : Int32))).toNatClampNeg)), .second] [(.int p4), (.long z29)])) _
      refine XS.lushr X0.here hx rfl (hb hby d3_49) rfl ?_
      show Steps p.tables e below (s₁.setTop (mkF m 50 #[.val (.ref r0), .val (.int p1), .val (.int p2), .val (.long q3), .second, .val (.int p4), .val (.int p1), .val (.int v1), .val (.int v4), .val (.int v28), .val (.int (7 : Int32)), .val (.long (UU (((p1 + ((6 : Int32) * v4)) - (1 : Int32))).toNatClampNeg)), .second] [(.long ((z29.toUInt64 >>> (p4 &&& 0x3f).toInt64.toUInt64).toInt64))])) _
      rw [hu29]
      show Steps p.tables e below (s₁.setTop (mkF m 50 #[.val (.ref r0), .val (.int p1), .val (.int p2), .val (.long q3), .second, .val (.int p4), .val (.int p1), .val (.int v1), .val (.int v4), .val (.int v28), .val (.int (7 : Int32)), .val (.long (UU (((p1 + ((6 : Int32) * v4)) - (1 : Int32))).toNatClampNeg)), .second] [(.long (UU (((p1 + ((7 : Int32) * v4)) - (1 : Int32))).toNatClampNeg))])) _
      refine XS.lstore X0.here hx rfl (hb hby d3_50) rfl (l' := #[.val (.ref r0), .val (.int p1), .val (.int p2), .val (.long q3), .second, .val (.int p4), .val (.int p1), .val (.int v1), .val (.int v4), .val (.int v28), .val (.int (7 : Int32)), .val (.long (UU (((p1 + ((7 : Int32) * v4)) - (1 : Int32))).toNatClampNeg)), .second]) rfl ?_
      show Steps p.tables e below (s₁.setTop (mkF m 52 #[.val (.ref r0), .val (.int p1), .val (.int p2), .val (.long q3), .second, .val (.int p4), .val (.int p1), .val (.int v1), .val (.int v4), .val (.int v28), .val (.int (7 : Int32)), .val (.long (UU (((p1 + ((7 : Int32) * v4)) - (1 : Int32))).toNatClampNeg)), .second] [])) _
      refine XS.iload X0.here hx rfl (hb hby d3_52) rfl ?_
      show Steps p.tables e below (s₁.setTop (mkF m 54 #[.val (.ref r0), .val (.int p1), .val (.int p2), .val (.long q3), .second, .val (.int p4), .val (.int p1), .val (.int v1), .val (.int v4), .val (.int v28), .val (.int (7 : Int32)), .val (.long (UU (((p1 + ((7 : Int32) * v4)) - (1 : Int32))).toNatClampNeg)), .second] [(.int v28)])) _
      refine XS.lload X0.here hx rfl (hb hby d3_54) rfl ?_
      show Steps p.tables e below (s₁.setTop (mkF m 56 #[.val (.ref r0), .val (.int p1), .val (.int p2), .val (.long q3), .second, .val (.int p4), .val (.int p1), .val (.int v1), .val (.int v4), .val (.int v28), .val (.int (7 : Int32)), .val (.long (UU (((p1 + ((7 : Int32) * v4)) - (1 : Int32))).toNatClampNeg)), .second] [(.long (UU (((p1 + ((7 : Int32) * v4)) - (1 : Int32))).toNatClampNeg)), (.int v28)])) _
      refine XS.lloadN X0.here hx rfl (hb hby d3_56) rfl ?_
      show Steps p.tables e below (s₁.setTop (mkF m 57 #[.val (.ref r0), .val (.int p1), .val (.int p2), .val (.long q3), .second, .val (.int p4), .val (.int p1), .val (.int v1), .val (.int v4), .val (.int v28), .val (.int (7 : Int32)), .val (.long (UU (((p1 + ((7 : Int32) * v4)) - (1 : Int32))).toNatClampNeg)), .second] [(.long q3), (.long (UU (((p1 + ((7 : Int32) * v4)) - (1 : Int32))).toNatClampNeg)), (.int v28)])) _
      refine XS.lsub X0.here hx rfl (hb hby d3_57) rfl ?_
      show Steps p.tables e below (s₁.setTop (mkF m 58 #[.val (.ref r0), .val (.int p1), .val (.int p2), .val (.long q3), .second, .val (.int p4), .val (.int p1), .val (.int v1), .val (.int v4), .val (.int v28), .val (.int (7 : Int32)), .val (.long (UU (((p1 + ((7 : Int32) * v4)) - (1 : Int32))).toNatClampNeg)), .second] [(.long ((UU (((p1 + ((7 : Int32) * v4)) - (1 : Int32))).toNatClampNeg) - q3)), (.int v28)])) _
      refine XS.bipush X0.here hx rfl (hb hby d3_58) ?_
      show Steps p.tables e below (s₁.setTop (mkF m 60 #[.val (.ref r0), .val (.int p1), .val (.int p2), .val (.long q3), .second, .val (.int p4), .val (.int p1), .val (.int v1), .val (.int v4), .val (.int v28), .val (.int (7 : Int32)), .val (.long (UU (((p1 + ((7 : Int32) * v4)) - (1 : Int32))).toNatClampNeg)), .second] [(.int (63 : Int32)), (.long ((UU (((p1 + ((7 : Int32) * v4)) - (1 : Int32))).toNatClampNeg) - q3)), (.int v28)])) _
      refine XS.lushr X0.here hx rfl (hb hby d3_60) rfl ?_
      show Steps p.tables e below (s₁.setTop (mkF m 61 #[.val (.ref r0), .val (.int p1), .val (.int p2), .val (.long q3), .second, .val (.int p4), .val (.int p1), .val (.int v1), .val (.int v4), .val (.int v28), .val (.int (7 : Int32)), .val (.long (UU (((p1 + ((7 : Int32) * v4)) - (1 : Int32))).toNatClampNeg)), .second] [(.long ((((UU (((p1 + ((7 : Int32) * v4)) - (1 : Int32))).toNatClampNeg) - q3).toUInt64 >>> ((63 : Int32) &&& 0x3f).toInt64.toUInt64).toInt64)), (.int v28)])) _
      refine XS.l2i X0.here hx rfl (hb hby d3_61) rfl ?_
      show Steps p.tables e below (s₁.setTop (mkF m 62 #[.val (.ref r0), .val (.int p1), .val (.int p2), .val (.long q3), .second, .val (.int p4), .val (.int p1), .val (.int v1), .val (.int v4), .val (.int v28), .val (.int (7 : Int32)), .val (.long (UU (((p1 + ((7 : Int32) * v4)) - (1 : Int32))).toNatClampNeg)), .second] [(.int (((((UU (((p1 + ((7 : Int32) * v4)) - (1 : Int32))).toNatClampNeg) - q3).toUInt64 >>> ((63 : Int32) &&& 0x3f).toInt64.toUInt64).toInt64).toInt32)), (.int v28)])) _
      rw [← ec31]
      show Steps p.tables e below (s₁.setTop (mkF m 62 #[.val (.ref r0), .val (.int p1), .val (.int p2), .val (.long q3), .second, .val (.int p4), .val (.int p1), .val (.int v1), .val (.int v4), .val (.int v28), .val (.int (7 : Int32)), .val (.long (UU (((p1 + ((7 : Int32) * v4)) - (1 : Int32))).toNatClampNeg)), .second] [(.int c31), (.int v28)])) _
      refine XS.iadd X0.here hx rfl (hb hby d3_62) rfl ?_
      show Steps p.tables e below (s₁.setTop (mkF m 63 #[.val (.ref r0), .val (.int p1), .val (.int p2), .val (.long q3), .second, .val (.int p4), .val (.int p1), .val (.int v1), .val (.int v4), .val (.int v28), .val (.int (7 : Int32)), .val (.long (UU (((p1 + ((7 : Int32) * v4)) - (1 : Int32))).toNatClampNeg)), .second] [(.int (v28 + c31))])) _
      rw [← ev32]
      show Steps p.tables e below (s₁.setTop (mkF m 63 #[.val (.ref r0), .val (.int p1), .val (.int p2), .val (.long q3), .second, .val (.int p4), .val (.int p1), .val (.int v1), .val (.int v4), .val (.int v28), .val (.int (7 : Int32)), .val (.long (UU (((p1 + ((7 : Int32) * v4)) - (1 : Int32))).toNatClampNeg)), .second] [(.int v32)])) _
      refine XS.istore X0.here hx rfl (hb hby d3_63) rfl (l' := #[.val (.ref r0), .val (.int p1), .val (.int p2), .val (.long q3), .second, .val (.int p4), .val (.int p1), .val (.int v1), .val (.int v4), .val (.int v32), .val (.int (7 : Int32)), .val (.long (UU (((p1 + ((7 : Int32) * v4)) - (1 : Int32))).toNatClampNeg)), .second]) rfl ?_
      show Steps p.tables e below (s₁.setTop (mkF m 65 #[.val (.ref r0), .val (.int p1), .val (.int p2), .val (.long q3), .second, .val (.int p4), .val (.int p1), .val (.int v1), .val (.int v4), .val (.int v32), .val (.int (7 : Int32)), .val (.long (UU (((p1 + ((7 : Int32) * v4)) - (1 : Int32))).toNatClampNeg)), .second] [])) _
      refine XS.iinc X0.here hx rfl (hb hby d3_65) rfl (l' := #[.val (.ref r0), .val (.int p1), .val (.int p2), .val (.long q3), .second, .val (.int p4), .val (.int p1), .val (.int v1), .val (.int v4), .val (.int v32), .val (.int (8 : Int32)), .val (.long (UU (((p1 + ((7 : Int32) * v4)) - (1 : Int32))).toNatClampNeg)), .second]) rfl ?_
      show Steps p.tables e below (s₁.setTop (mkF m 68 #[.val (.ref r0), .val (.int p1), .val (.int p2), .val (.long q3), .second, .val (.int p4), .val (.int p1), .val (.int v1), .val (.int v4), .val (.int v32), .val (.int (8 : Int32)), .val (.long (UU (((p1 + ((7 : Int32) * v4)) - (1 : Int32))).toNatClampNeg)), .second] [])) _
      refine XS.goto X0.here hx rfl (pc0 := 68) (pc' := 28) rfl (hb hby d3_68) (by decide) (by decide) ?_
      show Steps p.tables e below (s₁.setTop (mkF m 28 #[.val (.ref r0), .val (.int p1), .val (.int p2), .val (.long q3), .second, .val (.int p4), .val (.int p1), .val (.int v1), .val (.int v4), .val (.int v32), .val (.int (8 : Int32)), .val (.long (UU (((p1 + ((7 : Int32) * v4)) - (1 : Int32))).toNatClampNeg)), .second] [])) _
      refine XS.iload X0.here hx rfl (hb hby d3_28) rfl ?_
      show Steps p.tables e below (s₁.setTop (mkF m 30 #[.val (.ref r0), .val (.int p1), .val (.int p2), .val (.long q3), .second, .val (.int p4), .val (.int p1), .val (.int v1), .val (.int v4), .val (.int v32), .val (.int (8 : Int32)), .val (.long (UU (((p1 + ((7 : Int32) * v4)) - (1 : Int32))).toNatClampNeg)), .second] [(.int (8 : Int32))])) _
      refine XS.bipush X0.here hx rfl (hb hby d3_30) ?_
      show Steps p.tables e below (s₁.setTop (mkF m 32 #[.val (.ref r0), .val (.int p1), .val (.int p2), .val (.long q3), .second, .val (.int p4), .val (.int p1), .val (.int v1), .val (.int v4), .val (.int v32), .val (.int (8 : Int32)), .val (.long (UU (((p1 + ((7 : Int32) * v4)) - (1 : Int32))).toNatClampNeg)), .second] [(.int (8 : Int32)), (.int (8 : Int32))])) _
      refine XS.icmpYes X0.here hx rfl (pc0 := 32) (pc' := 71) rfl (hb hby d3_32) rfl (flt (by decide)).2.1 (by decide) (by decide) ?_
      show Steps p.tables e below (s₁.setTop (mkF m 71 #[.val (.ref r0), .val (.int p1), .val (.int p2), .val (.long q3), .second, .val (.int p4), .val (.int p1), .val (.int v1), .val (.int v4), .val (.int v32), .val (.int (8 : Int32)), .val (.long (UU (((p1 + ((7 : Int32) * v4)) - (1 : Int32))).toNatClampNeg)), .second] [])) _
      refine XS.iload X0.here hx rfl (hb hby d3_71) rfl ?_
      show Steps p.tables e below (s₁.setTop (mkF m 73 #[.val (.ref r0), .val (.int p1), .val (.int p2), .val (.long q3), .second, .val (.int p4), .val (.int p1), .val (.int v1), .val (.int v4), .val (.int v32), .val (.int (8 : Int32)), .val (.long (UU (((p1 + ((7 : Int32) * v4)) - (1 : Int32))).toNatClampNeg)), .second] [(.int v32)])) _
      refine XS.bipush X0.here hx rfl (hb hby d3_73) ?_
      exact kk)
    obtain ⟨v34, ev34, pre34⟩ : ∃ z : Int32, z = (if v32 = (7 : Int32) then (v1 - (v32 * v4)) else v4) ∧ ∀ t, Steps p.tables e below (s₁.setTop (mkF m 91 #[.val (.ref r0), .val (.int p1), .val (.int p2), .val (.long q3), .second, .val (.int p4), .val (.int p1), .val (.int v1), .val (.int v4), .val (.int v32), .val (.int (8 : Int32)), .val (.long (UU (((p1 + ((7 : Int32) * v4)) - (1 : Int32))).toNatClampNeg)), .second] [(.int z)])) t → Steps p.tables e below (s₁.setTop (entryFrame m #[(.ref r0), (.int p1), (.int p2), (.long q3), (.int p4)] 13)) t := by
      by_cases hd35 : v32 = (7 : Int32)
      · refine ⟨(v1 - (v32 * v4)), (by rw [if_pos hd35]), fun t kk => pre33 t ?_⟩
        show Steps p.tables e below (s₁.setTop (mkF m 75 #[.val (.ref r0), .val (.int p1), .val (.int p2), .val (.long q3), .second, .val (.int p4), .val (.int p1), .val (.int v1), .val (.int v4), .val (.int v32), .val (.int (8 : Int32)), .val (.long (UU (((p1 + ((7 : Int32) * v4)) - (1 : Int32))).toNatClampNeg)), .second] [(.int (7 : Int32)), (.int v32)])) _
        refine XS.icmpNo X0.here hx rfl (hb hby d3_75) rfl (teq hd35).2 ?_
        show Steps p.tables e below (s₁.setTop (mkF m 78 #[.val (.ref r0), .val (.int p1), .val (.int p2), .val (.long q3), .second, .val (.int p4), .val (.int p1), .val (.int v1), .val (.int v4), .val (.int v32), .val (.int (8 : Int32)), .val (.long (UU (((p1 + ((7 : Int32) * v4)) - (1 : Int32))).toNatClampNeg)), .second] [])) _
        refine XS.iload X0.here hx rfl (hb hby d3_78) rfl ?_
        show Steps p.tables e below (s₁.setTop (mkF m 80 #[.val (.ref r0), .val (.int p1), .val (.int p2), .val (.long q3), .second, .val (.int p4), .val (.int p1), .val (.int v1), .val (.int v4), .val (.int v32), .val (.int (8 : Int32)), .val (.long (UU (((p1 + ((7 : Int32) * v4)) - (1 : Int32))).toNatClampNeg)), .second] [(.int v1)])) _
        refine XS.iload X0.here hx rfl (hb hby d3_80) rfl ?_
        show Steps p.tables e below (s₁.setTop (mkF m 82 #[.val (.ref r0), .val (.int p1), .val (.int p2), .val (.long q3), .second, .val (.int p4), .val (.int p1), .val (.int v1), .val (.int v4), .val (.int v32), .val (.int (8 : Int32)), .val (.long (UU (((p1 + ((7 : Int32) * v4)) - (1 : Int32))).toNatClampNeg)), .second] [(.int v32), (.int v1)])) _
        refine XS.iload X0.here hx rfl (hb hby d3_82) rfl ?_
        show Steps p.tables e below (s₁.setTop (mkF m 84 #[.val (.ref r0), .val (.int p1), .val (.int p2), .val (.long q3), .second, .val (.int p4), .val (.int p1), .val (.int v1), .val (.int v4), .val (.int v32), .val (.int (8 : Int32)), .val (.long (UU (((p1 + ((7 : Int32) * v4)) - (1 : Int32))).toNatClampNeg)), .second] [(.int v4), (.int v32), (.int v1)])) _
        refine XS.imul X0.here hx rfl (hb hby d3_84) rfl ?_
        show Steps p.tables e below (s₁.setTop (mkF m 85 #[.val (.ref r0), .val (.int p1), .val (.int p2), .val (.long q3), .second, .val (.int p4), .val (.int p1), .val (.int v1), .val (.int v4), .val (.int v32), .val (.int (8 : Int32)), .val (.long (UU (((p1 + ((7 : Int32) * v4)) - (1 : Int32))).toNatClampNeg)), .second] [(.int (v32 * v4)), (.int v1)])) _
        refine XS.isub X0.here hx rfl (hb hby d3_85) rfl ?_
        show Steps p.tables e below (s₁.setTop (mkF m 86 #[.val (.ref r0), .val (.int p1), .val (.int p2), .val (.long q3), .second, .val (.int p4), .val (.int p1), .val (.int v1), .val (.int v4), .val (.int v32), .val (.int (8 : Int32)), .val (.long (UU (((p1 + ((7 : Int32) * v4)) - (1 : Int32))).toNatClampNeg)), .second] [(.int (v1 - (v32 * v4)))])) _
        refine XS.goto X0.here hx rfl (pc0 := 86) (pc' := 91) rfl (hb hby d3_86) (by decide) (by decide) ?_
        exact kk
      · refine ⟨v4, (by rw [if_neg hd35]), fun t kk => pre33 t ?_⟩
        show Steps p.tables e below (s₁.setTop (mkF m 75 #[.val (.ref r0), .val (.int p1), .val (.int p2), .val (.long q3), .second, .val (.int p4), .val (.int p1), .val (.int v1), .val (.int v4), .val (.int v32), .val (.int (8 : Int32)), .val (.long (UU (((p1 + ((7 : Int32) * v4)) - (1 : Int32))).toNatClampNeg)), .second] [(.int (7 : Int32)), (.int v32)])) _
        refine XS.icmpYes X0.here hx rfl (pc0 := 75) (pc' := 89) rfl (hb hby d3_75) rfl (feq hd35).2 (by decide) (by decide) ?_
        show Steps p.tables e below (s₁.setTop (mkF m 89 #[.val (.ref r0), .val (.int p1), .val (.int p2), .val (.long q3), .second, .val (.int p4), .val (.int p1), .val (.int v1), .val (.int v4), .val (.int v32), .val (.int (8 : Int32)), .val (.long (UU (((p1 + ((7 : Int32) * v4)) - (1 : Int32))).toNatClampNeg)), .second] [])) _
        refine XS.iload X0.here hx rfl (hb hby d3_89) rfl ?_
        exact kk
    obtain ⟨v36, ev36⟩ : ∃ z : Int32, z = (p1 + (v32 * v4)) := ⟨_, rfl⟩
    have pre37 : ∀ t, Steps p.tables e below (s₁.setTop (mkF m 8 #[.val (.ref r0), .val (.int p1), .val (.int p2), .val (.long q3), .second, .val (.int p4), .val (.int v36), .val (.int v34), .val (.int v4), .val (.int v32), .val (.int (8 : Int32)), .val (.long (UU (((p1 + ((7 : Int32) * v4)) - (1 : Int32))).toNatClampNeg)), .second] [])) t → Steps p.tables e below (s₁.setTop (entryFrame m #[(.ref r0), (.int p1), (.int p2), (.long q3), (.int p4)] 13)) t := fun t kk => pre34 t (by
      show Steps p.tables e below (s₁.setTop (mkF m 91 #[.val (.ref r0), .val (.int p1), .val (.int p2), .val (.long q3), .second, .val (.int p4), .val (.int p1), .val (.int v1), .val (.int v4), .val (.int v32), .val (.int (8 : Int32)), .val (.long (UU (((p1 + ((7 : Int32) * v4)) - (1 : Int32))).toNatClampNeg)), .second] [(.int v34)])) _
      refine XS.istore X0.here hx rfl (hb hby d3_91) rfl (l' := #[.val (.ref r0), .val (.int p1), .val (.int p2), .val (.long q3), .second, .val (.int p4), .val (.int p1), .val (.int v34), .val (.int v4), .val (.int v32), .val (.int (8 : Int32)), .val (.long (UU (((p1 + ((7 : Int32) * v4)) - (1 : Int32))).toNatClampNeg)), .second]) rfl ?_
      show Steps p.tables e below (s₁.setTop (mkF m 93 #[.val (.ref r0), .val (.int p1), .val (.int p2), .val (.long q3), .second, .val (.int p4), .val (.int p1), .val (.int v34), .val (.int v4), .val (.int v32), .val (.int (8 : Int32)), .val (.long (UU (((p1 + ((7 : Int32) * v4)) - (1 : Int32))).toNatClampNeg)), .second] [])) _
      refine XS.iload X0.here hx rfl (hb hby d3_93) rfl ?_
      show Steps p.tables e below (s₁.setTop (mkF m 95 #[.val (.ref r0), .val (.int p1), .val (.int p2), .val (.long q3), .second, .val (.int p4), .val (.int p1), .val (.int v34), .val (.int v4), .val (.int v32), .val (.int (8 : Int32)), .val (.long (UU (((p1 + ((7 : Int32) * v4)) - (1 : Int32))).toNatClampNeg)), .second] [(.int p1)])) _
      refine XS.iload X0.here hx rfl (hb hby d3_95) rfl ?_
      show Steps p.tables e below (s₁.setTop (mkF m 97 #[.val (.ref r0), .val (.int p1), .val (.int p2), .val (.long q3), .second, .val (.int p4), .val (.int p1), .val (.int v34), .val (.int v4), .val (.int v32), .val (.int (8 : Int32)), .val (.long (UU (((p1 + ((7 : Int32) * v4)) - (1 : Int32))).toNatClampNeg)), .second] [(.int v32), (.int p1)])) _
      refine XS.iload X0.here hx rfl (hb hby d3_97) rfl ?_
      show Steps p.tables e below (s₁.setTop (mkF m 99 #[.val (.ref r0), .val (.int p1), .val (.int p2), .val (.long q3), .second, .val (.int p4), .val (.int p1), .val (.int v34), .val (.int v4), .val (.int v32), .val (.int (8 : Int32)), .val (.long (UU (((p1 + ((7 : Int32) * v4)) - (1 : Int32))).toNatClampNeg)), .second] [(.int v4), (.int v32), (.int p1)])) _
      refine XS.imul X0.here hx rfl (hb hby d3_99) rfl ?_
      show Steps p.tables e below (s₁.setTop (mkF m 100 #[.val (.ref r0), .val (.int p1), .val (.int p2), .val (.long q3), .second, .val (.int p4), .val (.int p1), .val (.int v34), .val (.int v4), .val (.int v32), .val (.int (8 : Int32)), .val (.long (UU (((p1 + ((7 : Int32) * v4)) - (1 : Int32))).toNatClampNeg)), .second] [(.int (v32 * v4)), (.int p1)])) _
      refine XS.iadd X0.here hx rfl (hb hby d3_100) rfl ?_
      show Steps p.tables e below (s₁.setTop (mkF m 101 #[.val (.ref r0), .val (.int p1), .val (.int p2), .val (.long q3), .second, .val (.int p4), .val (.int p1), .val (.int v34), .val (.int v4), .val (.int v32), .val (.int (8 : Int32)), .val (.long (UU (((p1 + ((7 : Int32) * v4)) - (1 : Int32))).toNatClampNeg)), .second] [(.int (p1 + (v32 * v4)))])) _
      rw [← ev36]
      show Steps p.tables e below (s₁.setTop (mkF m 101 #[.val (.ref r0), .val (.int p1), .val (.int p2), .val (.long q3), .second, .val (.int p4), .val (.int p1), .val (.int v34), .val (.int v4), .val (.int v32), .val (.int (8 : Int32)), .val (.long (UU (((p1 + ((7 : Int32) * v4)) - (1 : Int32))).toNatClampNeg)), .second] [(.int v36)])) _
      refine XS.istore X0.here hx rfl (hb hby d3_101) rfl (l' := #[.val (.ref r0), .val (.int p1), .val (.int p2), .val (.long q3), .second, .val (.int p4), .val (.int v36), .val (.int v34), .val (.int v4), .val (.int v32), .val (.int (8 : Int32)), .val (.long (UU (((p1 + ((7 : Int32) * v4)) - (1 : Int32))).toNatClampNeg)), .second]) rfl ?_
      show Steps p.tables e below (s₁.setTop (mkF m 103 #[.val (.ref r0), .val (.int p1), .val (.int p2), .val (.long q3), .second, .val (.int p4), .val (.int v36), .val (.int v34), .val (.int v4), .val (.int v32), .val (.int (8 : Int32)), .val (.long (UU (((p1 + ((7 : Int32) * v4)) - (1 : Int32))).toNatClampNeg)), .second] [])) _
      refine XS.goto X0.here hx rfl (pc0 := 103) (pc' := 8) rfl (hb hby d3_103) (by decide) (by decide) ?_
      exact kk)
    obtain ⟨hI1, hle8⟩ := own_t1 hI0 hs hf0 ht16 hc3 ev4 sc7 sc11 sc15 sc19 sc23 sc27 sc31 (by rw [ev32, ev28, ev24, ev20, ev16, ev12, ev8]) ev34 ev36
    have hn8 : ¬ (8 : Int32) < v34 := by rw [Int32.lt_iff_toInt_lt]; show ¬ (8 : Int) < _; omega
    have pre38 : ∀ t, Steps p.tables e below (s₁.setTop (mkF m 106 #[.val (.ref r0), .val (.int p1), .val (.int p2), .val (.long q3), .second, .val (.int p4), .val (.int v36), .val (.int v34), .val (.int v4), .val (.int v32), .val (.int (8 : Int32)), .val (.long (UU (((p1 + ((7 : Int32) * v4)) - (1 : Int32))).toNatClampNeg)), .second] [])) t → Steps p.tables e below (s₁.setTop (entryFrame m #[(.ref r0), (.int p1), (.int p2), (.long q3), (.int p4)] 13)) t := fun t kk => pre37 t (by
      show Steps p.tables e below (s₁.setTop (mkF m 8 #[.val (.ref r0), .val (.int p1), .val (.int p2), .val (.long q3), .second, .val (.int p4), .val (.int v36), .val (.int v34), .val (.int v4), .val (.int v32), .val (.int (8 : Int32)), .val (.long (UU (((p1 + ((7 : Int32) * v4)) - (1 : Int32))).toNatClampNeg)), .second] [])) _
      refine XS.iload X0.here hx rfl (hb hby d3_8) rfl ?_
      show Steps p.tables e below (s₁.setTop (mkF m 10 #[.val (.ref r0), .val (.int p1), .val (.int p2), .val (.long q3), .second, .val (.int p4), .val (.int v36), .val (.int v34), .val (.int v4), .val (.int v32), .val (.int (8 : Int32)), .val (.long (UU (((p1 + ((7 : Int32) * v4)) - (1 : Int32))).toNatClampNeg)), .second] [(.int v34)])) _
      refine XS.bipush X0.here hx rfl (hb hby d3_10) ?_
      show Steps p.tables e below (s₁.setTop (mkF m 12 #[.val (.ref r0), .val (.int p1), .val (.int p2), .val (.long q3), .second, .val (.int p4), .val (.int v36), .val (.int v34), .val (.int v4), .val (.int v32), .val (.int (8 : Int32)), .val (.long (UU (((p1 + ((7 : Int32) * v4)) - (1 : Int32))).toNatClampNeg)), .second] [(.int (8 : Int32)), (.int v34)])) _
      refine XS.icmpYes X0.here hx rfl (pc0 := 12) (pc' := 106) rfl (hb hby d3_12) rfl (flt hn8).2.2.2 (by decide) (by decide) ?_
      exact kk)
    obtain ⟨b39, l39, s39, h01, hI39, lp39⟩ := loop2 r0 p1 p2 q3 p4 kA ins UU X0 hx hZ hby e0 Va hU hs hnn hw0 hf0 ht16 (.val (.int v32)) (.val (.int (8 : Int32))) (.val (.long (UU (((p1 + ((7 : Int32) * v4)) - (1 : Int32))).toNatClampNeg))) (.second) 16 v36 v34 (.val (.int v4)) (One.val rfl) hI1 (own_le16 hI1 hf0 ht16)
    have pre40 : ∀ t, Steps p.tables e below (s₁.setTop (mkF m 154 #[.val (.ref r0), .val (.int p1), .val (.int p2), .val (.long q3), .second, .val (.int p4), .val (.int b39), .val (.int l39), s39, .val (.int v32), .val (.int (8 : Int32)), .val (.long (UU (((p1 + ((7 : Int32) * v4)) - (1 : Int32))).toNatClampNeg)), .second] [])) t → Steps p.tables e below (s₁.setTop (entryFrame m #[(.ref r0), (.int p1), (.int p2), (.long q3), (.int p4)] 13)) t := fun t kk => pre38 t (by
      show Steps p.tables e below (s₁.setTop (mkF m 106 #[.val (.ref r0), .val (.int p1), .val (.int p2), .val (.long q3), .second, .val (.int p4), .val (.int v36), .val (.int v34), .val (.int v4), .val (.int v32), .val (.int (8 : Int32)), .val (.long (UU (((p1 + ((7 : Int32) * v4)) - (1 : Int32))).toNatClampNeg)), .second] [])) _
      refine lp39 _ ?_
      exact kk)
    rcases h01 with hl | hl
    · have hIz := hI39; rw [hl] at hIz
      obtain ⟨fs, hr, hrun, hended, hW, hsame⟩ := X0.leave (v := some (.int b39)) (fun h => by rw [Bd.returns] at h; cases h)
      refine ⟨_, _, pre40 _ ?_, hrun, hended, _, _, rfl, ?_, ⟨_, rfl⟩, hW, hsame.mono (by decide) (by decide)⟩
      · show Steps p.tables e below (s₁.setTop (mkF m 154 #[.val (.ref r0), .val (.int p1), .val (.int p2), .val (.long q3), .second, .val (.int p4), .val (.int b39), .val (.int l39), s39, .val (.int v32), .val (.int (8 : Int32)), .val (.long (UU (((p1 + ((7 : Int32) * v4)) - (1 : Int32))).toNatClampNeg)), .second] [])) _
        rw [hl]
        show Steps p.tables e below (s₁.setTop (mkF m 154 #[.val (.ref r0), .val (.int p1), .val (.int p2), .val (.long q3), .second, .val (.int p4), .val (.int b39), .val (.int (0 : Int32)), s39, .val (.int v32), .val (.int (8 : Int32)), .val (.long (UU (((p1 + ((7 : Int32) * v4)) - (1 : Int32))).toNatClampNeg)), .second] [])) _
        refine XS.iload X0.here hx rfl (hb hby d3_154) rfl ?_
        show Steps p.tables e below (s₁.setTop (mkF m 156 #[.val (.ref r0), .val (.int p1), .val (.int p2), .val (.long q3), .second, .val (.int p4), .val (.int b39), .val (.int (0 : Int32)), s39, .val (.int v32), .val (.int (8 : Int32)), .val (.long (UU (((p1 + ((7 : Int32) * v4)) - (1 : Int32))).toNatClampNeg)), .second] [(.int (0 : Int32))])) _
        refine XS.ifNo X0.here hx rfl (hb hby d3_156) rfl ((if0 _ _).trans (teq (rfl : (0 : Int32) = (0 : Int32))).2) ?_
        show Steps p.tables e below (s₁.setTop (mkF m 159 #[.val (.ref r0), .val (.int p1), .val (.int p2), .val (.long q3), .second, .val (.int p4), .val (.int b39), .val (.int (0 : Int32)), s39, .val (.int v32), .val (.int (8 : Int32)), .val (.long (UU (((p1 + ((7 : Int32) * v4)) - (1 : Int32))).toNatClampNeg)), .second] [])) _
        refine XS.iload X0.here hx rfl (hb hby d3_159) rfl ?_
        show Steps p.tables e below (s₁.setTop (mkF m 161 #[.val (.ref r0), .val (.int p1), .val (.int p2), .val (.long q3), .second, .val (.int p4), .val (.int b39), .val (.int (0 : Int32)), s39, .val (.int v32), .val (.int (8 : Int32)), .val (.long (UU (((p1 + ((7 : Int32) * v4)) - (1 : Int32))).toNatClampNeg)), .second] [(.int b39)])) _
        refine XS.goto X0.here hx rfl (pc0 := 161) (pc' := 180) rfl (hb hby d3_161) (by decide) (by decide) ?_
        show Steps p.tables e below (s₁.setTop (mkF m 180 #[.val (.ref r0), .val (.int p1), .val (.int p2), .val (.long q3), .second, .val (.int p4), .val (.int b39), .val (.int (0 : Int32)), s39, .val (.int v32), .val (.int (8 : Int32)), .val (.long (UU (((p1 + ((7 : Int32) * v4)) - (1 : Int32))).toNatClampNeg)), .second] [(.int b39)])) _
        exact retI X0 hx Bd.returns (hb hby d3_180) hr
      · show Q3 UU p1 p2 q3 h0 n0 _ s₁.heap _
        rw [e0]
        exact ⟨_, rfl, N0, rfl, own_end0 hIz⟩
    · have hIz := hI39; rw [hl] at hIz
      obtain ⟨hj41, hjj41, hjn41⟩ := (own_i3 hIz hf0 ht16)
      obtain ⟨z41, hz41, hu41⟩ := hU (b39).toNatClampNeg hjn41
      obtain ⟨cl42, Ar42, -, S42, -, H42, -⟩ := id Va
      have hin42 : ¬ (b39 < 0 ∨ cl42.slots.size ≤ (b39).toNatClampNeg) := inb_of S42 ⟨hj41, hjj41⟩
      have hat42 : cl42.slots[(b39).toNatClampNeg]? = some (.long z41) := Has.at H42 hin42 hz41
      obtain ⟨c43, ec43⟩ : ∃ z : Int32, z = (((((UU (b39).toNatClampNeg) - q3).toUInt64 >>> ((63 : Int32) &&& 0x3f).toInt64.toUInt64).toInt64).toInt32) := ⟨_, rfl⟩
      have sc43 := own_sg (hnn _ hjn41) hw0 ec43
      obtain ⟨fs, hr, hrun, hended, hW, hsame⟩ := X0.leave (v := some (.int (b39 + c43))) (fun h => by rw [Bd.returns] at h; cases h)
      refine ⟨_, _, pre40 _ ?_, hrun, hended, _, _, rfl, ?_, ⟨_, rfl⟩, hW, hsame.mono (by decide) (by decide)⟩
      · show Steps p.tables e below (s₁.setTop (mkF m 154 #[.val (.ref r0), .val (.int p1), .val (.int p2), .val (.long q3), .second, .val (.int p4), .val (.int b39), .val (.int l39), s39, .val (.int v32), .val (.int (8 : Int32)), .val (.long (UU (((p1 + ((7 : Int32) * v4)) - (1 : Int32))).toNatClampNeg)), .second] [])) _
        rw [hl]
        show Steps p.tables e below (s₁.setTop (mkF m 154 #[.val (.ref r0), .val (.int p1), .val (.int p2), .val (.long q3), .second, .val (.int p4), .val (.int b39), .val (.int (1 : Int32)), s39, .val (.int v32), .val (.int (8 : Int32)), .val (.long (UU (((p1 + ((7 : Int32) * v4)) - (1 : Int32))).toNatClampNeg)), .second] [])) _
        refine XS.iload X0.here hx rfl (hb hby d3_154) rfl ?_
        show Steps p.tables e below (s₁.setTop (mkF m 156 #[.val (.ref r0), .val (.int p1), .val (.int p2), .val (.long q3), .second, .val (.int p4), .val (.int b39), .val (.int (1 : Int32)), s39, .val (.int v32), .val (.int (8 : Int32)), .val (.long (UU (((p1 + ((7 : Int32) * v4)) - (1 : Int32))).toNatClampNeg)), .second] [(.int (1 : Int32))])) _
        refine XS.ifYes X0.here hx rfl (pc0 := 156) (pc' := 164) rfl (hb hby d3_156) rfl ((if0 _ _).trans (feq (by decide)).2) (by decide) (by decide) ?_
        show Steps p.tables e below (s₁.setTop (mkF m 164 #[.val (.ref r0), .val (.int p1), .val (.int p2), .val (.long q3), .second, .val (.int p4), .val (.int b39), .val (.int (1 : Int32)), s39, .val (.int v32), .val (.int (8 : Int32)), .val (.long (UU (((p1 + ((7 : Int32) * v4)) - (1 : Int32))).toNatClampNeg)), .second] [])) _
        refine XS.iload X0.here hx rfl (hb hby d3_164) rfl ?_
        show Steps p.tables e below (s₁.setTop (mkF m 166 #[.val (.ref r0), .val (.int p1), .val (.int p2), .val (.long q3), .second, .val (.int p4), .val (.int b39), .val (.int (1 : Int32)), s39, .val (.int v32), .val (.int (8 : Int32)), .val (.long (UU (((p1 + ((7 : Int32) * v4)) - (1 : Int32))).toNatClampNeg)), .second] [(.int b39)])) _
        refine XS.aloadN X0.here hx rfl (hb hby d3_166) rfl rfl ?_
        show Steps p.tables e below (s₁.setTop (mkF m 167 #[.val (.ref r0), .val (.int p1), .val (.int p2), .val (.long q3), .second, .val (.int p4), .val (.int b39), .val (.int (1 : Int32)), s39, .val (.int v32), .val (.int (8 : Int32)), .val (.long (UU (((p1 + ((7 : Int32) * v4)) - (1 : Int32))).toNatClampNeg)), .second] [(.ref r0), (.int b39)])) _
        refine XS.iload X0.here hx rfl (hb hby d3_167) rfl ?_
        show Steps p.tables e below (s₁.setTop (mkF m 169 #[.val (.ref r0), .val (.int p1), .val (.int p2), .val (.long q3), .second, .val (.int p4), .val (.int b39), .val (.int (1 : Int32)), s39, .val (.int v32), .val (.int (8 : Int32)), .val (.long (UU (((p1 + ((7 : Int32) * v4)) - (1 : Int32))).toNatClampNeg)), .second] [(.int b39), (.ref r0), (.int b39)])) _
        refine X0.laload hx (j := b39) (v := (.long z41)) (by rw [e0]; exact Ar42.1) (State.isArrayOf_alike hZ.alike Ar42.2.1) Ar42.2.2 hin42 hat42 (g := (mkF m 169 #[.val (.ref r0), .val (.int p1), .val (.int p2), .val (.long q3), .second, .val (.int p4), .val (.int b39), .val (.int (1 : Int32)), s39, .val (.int v32), .val (.int (8 : Int32)), .val (.long (UU (((p1 + ((7 : Int32) * v4)) - (1 : Int32))).toNatClampNeg)), .second] [(.int b39), (.ref r0), (.int b39)])) rfl rfl (hb hby d3_169) _ ?_
        show Steps p.tables e below (s₁.setTop (mkF m 170 #[.val (.ref r0), .val (.int p1), .val (.int p2), .val (.long q3), .second, .val (.int p4), .val (.int b39), .val (.int (1 : Int32)), s39, .val (.int v32), .val (.int (8 : Int32)), .val (.long (UU (((p1 + ((7 : Int32) * v4)) - (1 : Int32))).toNatClampNeg)), .second] [(.long z41), (.int b39)])) _
        refine XS.iload X0.here hx rfl (hb hby d3_170) rfl ?_
        show Steps p.tables e below (s₁.setTop (mkF m 172 #[.val (.ref r0), .val (.int p1), .val (.int p2), .val (.long q3), .second, .val (.int p4), .val (.int b39), .val (.int (1 : Int32)), s39, .val (.int v32), .val (.int (8 : Int32)), .val (.long (UU (((p1 + ((7 : Int32) * v4)) - (1 : Int32))).toNatClampNeg)), .second] [(.int p4), (.long z41), (.int b39)])) _
        refine XS.lushr X0.here hx rfl (hb hby d3_172) rfl ?_
        show Steps p.tables e below (s₁.setTop (mkF m 173 #[.val (.ref r0), .val (.int p1), .val (.int p2), .val (.long q3), .second, .val (.int p4), .val (.int b39), .val (.int (1 : Int32)), s39, .val (.int v32), .val (.int (8 : Int32)), .val (.long (UU (((p1 + ((7 : Int32) * v4)) - (1 : Int32))).toNatClampNeg)), .second] [(.long ((z41.toUInt64 >>> (p4 &&& 0x3f).toInt64.toUInt64).toInt64)), (.int b39)])) _
        rw [hu41]
        show Steps p.tables e below (s₁.setTop (mkF m 173 #[.val (.ref r0), .val (.int p1), .val (.int p2), .val (.long q3), .second, .val (.int p4), .val (.int b39), .val (.int (1 : Int32)), s39, .val (.int v32), .val (.int (8 : Int32)), .val (.long (UU (((p1 + ((7 : Int32) * v4)) - (1 : Int32))).toNatClampNeg)), .second] [(.long (UU (b39).toNatClampNeg)), (.int b39)])) _
        refine XS.lloadN X0.here hx rfl (hb hby d3_173) rfl ?_
        show Steps p.tables e below (s₁.setTop (mkF m 174 #[.val (.ref r0), .val (.int p1), .val (.int p2), .val (.long q3), .second, .val (.int p4), .val (.int b39), .val (.int (1 : Int32)), s39, .val (.int v32), .val (.int (8 : Int32)), .val (.long (UU (((p1 + ((7 : Int32) * v4)) - (1 : Int32))).toNatClampNeg)), .second] [(.long q3), (.long (UU (b39).toNatClampNeg)), (.int b39)])) _
        refine XS.lsub X0.here hx rfl (hb hby d3_174) rfl ?_
        show Steps p.tables e below (s₁.setTop (mkF m 175 #[.val (.ref r0), .val (.int p1), .val (.int p2), .val (.long q3), .second, .val (.int p4), .val (.int b39), .val (.int (1 : Int32)), s39, .val (.int v32), .val (.int (8 : Int32)), .val (.long (UU (((p1 + ((7 : Int32) * v4)) - (1 : Int32))).toNatClampNeg)), .second] [(.long ((UU (b39).toNatClampNeg) - q3)), (.int b39)])) _
        refine XS.bipush X0.here hx rfl (hb hby d3_175) ?_
        show Steps p.tables e below (s₁.setTop (mkF m 177 #[.val (.ref r0), .val (.int p1), .val (.int p2), .val (.long q3), .second, .val (.int p4), .val (.int b39), .val (.int (1 : Int32)), s39, .val (.int v32), .val (.int (8 : Int32)), .val (.long (UU (((p1 + ((7 : Int32) * v4)) - (1 : Int32))).toNatClampNeg)), .second] [(.int (63 : Int32)), (.long ((UU (b39).toNatClampNeg) - q3)), (.int b39)])) _
        refine XS.lushr X0.here hx rfl (hb hby d3_177) rfl ?_
        show Steps p.tables e below (s₁.setTop (mkF m 178 #[.val (.ref r0), .val (.int p1), .val (.int p2), .val (.long q3), .second, .val (.int p4), .val (.int b39), .val (.int (1 : Int32)), s39, .val (.int v32), .val (.int (8 : Int32)), .val (.long (UU (((p1 + ((7 : Int32) * v4)) - (1 : Int32))).toNatClampNeg)), .second] [(.long ((((UU (b39).toNatClampNeg) - q3).toUInt64 >>> ((63 : Int32) &&& 0x3f).toInt64.toUInt64).toInt64)), (.int b39)])) _
        refine XS.l2i X0.here hx rfl (hb hby d3_178) rfl ?_
        show Steps p.tables e below (s₁.setTop (mkF m 179 #[.val (.ref r0), .val (.int p1), .val (.int p2), .val (.long q3), .second, .val (.int p4), .val (.int b39), .val (.int (1 : Int32)), s39, .val (.int v32), .val (.int (8 : Int32)), .val (.long (UU (((p1 + ((7 : Int32) * v4)) - (1 : Int32))).toNatClampNeg)), .second] [(.int (((((UU (b39).toNatClampNeg) - q3).toUInt64 >>> ((63 : Int32) &&& 0x3f).toInt64.toUInt64).toInt64).toInt32)), (.int b39)])) _
        rw [← ec43]
        show Steps p.tables e below (s₁.setTop (mkF m 179 #[.val (.ref r0), .val (.int p1), .val (.int p2), .val (.long q3), .second, .val (.int p4), .val (.int b39), .val (.int (1 : Int32)), s39, .val (.int v32), .val (.int (8 : Int32)), .val (.long (UU (((p1 + ((7 : Int32) * v4)) - (1 : Int32))).toNatClampNeg)), .second] [(.int c43), (.int b39)])) _
        refine XS.iadd X0.here hx rfl (hb hby d3_179) rfl ?_
        show Steps p.tables e below (s₁.setTop (mkF m 180 #[.val (.ref r0), .val (.int p1), .val (.int p2), .val (.long q3), .second, .val (.int p4), .val (.int b39), .val (.int (1 : Int32)), s39, .val (.int v32), .val (.int (8 : Int32)), .val (.long (UU (((p1 + ((7 : Int32) * v4)) - (1 : Int32))).toNatClampNeg)), .second] [(.int (b39 + c43))])) _
        exact retI X0 hx Bd.returns (hb hby d3_180) hr
      · show Q3 UU p1 p2 q3 h0 n0 _ s₁.heap _
        rw [e0]
        exact ⟨_, rfl, N0, rfl, own_end1 hIz hs hf0 ht16 sc43⟩
  · have pre44 : ∀ t, Steps p.tables e below (s₁.setTop (mkF m 106 #[.val (.ref r0), .val (.int p1), .val (.int p2), .val (.long q3), .second, .val (.int p4), .val (.int p1), .val (.int v1), .unset, .unset, .unset, .unset, .unset] [])) t → Steps p.tables e below (s₁.setTop (entryFrame m #[(.ref r0), (.int p1), (.int p2), (.long q3), (.int p4)] 13)) t := fun t kk => pre2 t (by
      show Steps p.tables e below (s₁.setTop (mkF m 12 #[.val (.ref r0), .val (.int p1), .val (.int p2), .val (.long q3), .second, .val (.int p4), .val (.int p1), .val (.int v1), .unset, .unset, .unset, .unset, .unset] [(.int (8 : Int32)), (.int v1)])) _
      refine XS.icmpYes X0.here hx rfl (pc0 := 12) (pc' := 106) rfl (hb hby d3_12) rfl (flt hc3).2.2.2 (by decide) (by decide) ?_
      exact kk)
    obtain ⟨b45, l45, s45, h01, hI45, lp45⟩ := loop2 r0 p1 p2 q3 p4 kA ins UU X0 hx hZ hby e0 Va hU hs hnn hw0 hf0 ht16 (.unset) (.unset) (.unset) (.unset) 16 p1 v1 (.unset) One.u hI0 (own_le16 hI0 hf0 ht16)
    have pre46 : ∀ t, Steps p.tables e below (s₁.setTop (mkF m 154 #[.val (.ref r0), .val (.int p1), .val (.int p2), .val (.long q3), .second, .val (.int p4), .val (.int b45), .val (.int l45), s45, .unset, .unset, .unset, .unset] [])) t → Steps p.tables e below (s₁.setTop (entryFrame m #[(.ref r0), (.int p1), (.int p2), (.long q3), (.int p4)] 13)) t := fun t kk => pre44 t (by
      show Steps p.tables e below (s₁.setTop (mkF m 106 #[.val (.ref r0), .val (.int p1), .val (.int p2), .val (.long q3), .second, .val (.int p4), .val (.int p1), .val (.int v1), .unset, .unset, .unset, .unset, .unset] [])) _
      refine lp45 _ ?_
      exact kk)
    rcases h01 with hl | hl
    · have hIz := hI45; rw [hl] at hIz
      obtain ⟨fs, hr, hrun, hended, hW, hsame⟩ := X0.leave (v := some (.int b45)) (fun h => by rw [Bd.returns] at h; cases h)
      refine ⟨_, _, pre46 _ ?_, hrun, hended, _, _, rfl, ?_, ⟨_, rfl⟩, hW, hsame.mono (by decide) (by decide)⟩
      · show Steps p.tables e below (s₁.setTop (mkF m 154 #[.val (.ref r0), .val (.int p1), .val (.int p2), .val (.long q3), .second, .val (.int p4), .val (.int b45), .val (.int l45), s45, .unset, .unset, .unset, .unset] [])) _
        rw [hl]
        show Steps p.tables e below (s₁.setTop (mkF m 154 #[.val (.ref r0), .val (.int p1), .val (.int p2), .val (.long q3), .second, .val (.int p4), .val (.int b45), .val (.int (0 : Int32)), s45, .unset, .unset, .unset, .unset] [])) _
        refine XS.iload X0.here hx rfl (hb hby d3_154) rfl ?_
        show Steps p.tables e below (s₁.setTop (mkF m 156 #[.val (.ref r0), .val (.int p1), .val (.int p2), .val (.long q3), .second, .val (.int p4), .val (.int b45), .val (.int (0 : Int32)), s45, .unset, .unset, .unset, .unset] [(.int (0 : Int32))])) _
        refine XS.ifNo X0.here hx rfl (hb hby d3_156) rfl ((if0 _ _).trans (teq (rfl : (0 : Int32) = (0 : Int32))).2) ?_
        show Steps p.tables e below (s₁.setTop (mkF m 159 #[.val (.ref r0), .val (.int p1), .val (.int p2), .val (.long q3), .second, .val (.int p4), .val (.int b45), .val (.int (0 : Int32)), s45, .unset, .unset, .unset, .unset] [])) _
        refine XS.iload X0.here hx rfl (hb hby d3_159) rfl ?_
        show Steps p.tables e below (s₁.setTop (mkF m 161 #[.val (.ref r0), .val (.int p1), .val (.int p2), .val (.long q3), .second, .val (.int p4), .val (.int b45), .val (.int (0 : Int32)), s45, .unset, .unset, .unset, .unset] [(.int b45)])) _
        refine XS.goto X0.here hx rfl (pc0 := 161) (pc' := 180) rfl (hb hby d3_161) (by decide) (by decide) ?_
        show Steps p.tables e below (s₁.setTop (mkF m 180 #[.val (.ref r0), .val (.int p1), .val (.int p2), .val (.long q3), .second, .val (.int p4), .val (.int b45), .val (.int (0 : Int32)), s45, .unset, .unset, .unset, .unset] [(.int b45)])) _
        exact retI X0 hx Bd.returns (hb hby d3_180) hr
      · show Q3 UU p1 p2 q3 h0 n0 _ s₁.heap _
        rw [e0]
        exact ⟨_, rfl, N0, rfl, own_end0 hIz⟩
    · have hIz := hI45; rw [hl] at hIz
      obtain ⟨hj47, hjj47, hjn47⟩ := (own_i3 hIz hf0 ht16)
      obtain ⟨z47, hz47, hu47⟩ := hU (b45).toNatClampNeg hjn47
      obtain ⟨cl48, Ar48, -, S48, -, H48, -⟩ := id Va
      have hin48 : ¬ (b45 < 0 ∨ cl48.slots.size ≤ (b45).toNatClampNeg) := inb_of S48 ⟨hj47, hjj47⟩
      have hat48 : cl48.slots[(b45).toNatClampNeg]? = some (.long z47) := Has.at H48 hin48 hz47
      obtain ⟨c49, ec49⟩ : ∃ z : Int32, z = (((((UU (b45).toNatClampNeg) - q3).toUInt64 >>> ((63 : Int32) &&& 0x3f).toInt64.toUInt64).toInt64).toInt32) := ⟨_, rfl⟩
      have sc49 := own_sg (hnn _ hjn47) hw0 ec49
      obtain ⟨fs, hr, hrun, hended, hW, hsame⟩ := X0.leave (v := some (.int (b45 + c49))) (fun h => by rw [Bd.returns] at h; cases h)
      refine ⟨_, _, pre46 _ ?_, hrun, hended, _, _, rfl, ?_, ⟨_, rfl⟩, hW, hsame.mono (by decide) (by decide)⟩
      · show Steps p.tables e below (s₁.setTop (mkF m 154 #[.val (.ref r0), .val (.int p1), .val (.int p2), .val (.long q3), .second, .val (.int p4), .val (.int b45), .val (.int l45), s45, .unset, .unset, .unset, .unset] [])) _
        rw [hl]
        show Steps p.tables e below (s₁.setTop (mkF m 154 #[.val (.ref r0), .val (.int p1), .val (.int p2), .val (.long q3), .second, .val (.int p4), .val (.int b45), .val (.int (1 : Int32)), s45, .unset, .unset, .unset, .unset] [])) _
        refine XS.iload X0.here hx rfl (hb hby d3_154) rfl ?_
        show Steps p.tables e below (s₁.setTop (mkF m 156 #[.val (.ref r0), .val (.int p1), .val (.int p2), .val (.long q3), .second, .val (.int p4), .val (.int b45), .val (.int (1 : Int32)), s45, .unset, .unset, .unset, .unset] [(.int (1 : Int32))])) _
        refine XS.ifYes X0.here hx rfl (pc0 := 156) (pc' := 164) rfl (hb hby d3_156) rfl ((if0 _ _).trans (feq (by decide)).2) (by decide) (by decide) ?_
        show Steps p.tables e below (s₁.setTop (mkF m 164 #[.val (.ref r0), .val (.int p1), .val (.int p2), .val (.long q3), .second, .val (.int p4), .val (.int b45), .val (.int (1 : Int32)), s45, .unset, .unset, .unset, .unset] [])) _
        refine XS.iload X0.here hx rfl (hb hby d3_164) rfl ?_
        show Steps p.tables e below (s₁.setTop (mkF m 166 #[.val (.ref r0), .val (.int p1), .val (.int p2), .val (.long q3), .second, .val (.int p4), .val (.int b45), .val (.int (1 : Int32)), s45, .unset, .unset, .unset, .unset] [(.int b45)])) _
        refine XS.aloadN X0.here hx rfl (hb hby d3_166) rfl rfl ?_
        show Steps p.tables e below (s₁.setTop (mkF m 167 #[.val (.ref r0), .val (.int p1), .val (.int p2), .val (.long q3), .second, .val (.int p4), .val (.int b45), .val (.int (1 : Int32)), s45, .unset, .unset, .unset, .unset] [(.ref r0), (.int b45)])) _
        refine XS.iload X0.here hx rfl (hb hby d3_167) rfl ?_
        show Steps p.tables e below (s₁.setTop (mkF m 169 #[.val (.ref r0), .val (.int p1), .val (.int p2), .val (.long q3), .second, .val (.int p4), .val (.int b45), .val (.int (1 : Int32)), s45, .unset, .unset, .unset, .unset] [(.int b45), (.ref r0), (.int b45)])) _
        refine X0.laload hx (j := b45) (v := (.long z47)) (by rw [e0]; exact Ar48.1) (State.isArrayOf_alike hZ.alike Ar48.2.1) Ar48.2.2 hin48 hat48 (g := (mkF m 169 #[.val (.ref r0), .val (.int p1), .val (.int p2), .val (.long q3), .second, .val (.int p4), .val (.int b45), .val (.int (1 : Int32)), s45, .unset, .unset, .unset, .unset] [(.int b45), (.ref r0), (.int b45)])) rfl rfl (hb hby d3_169) _ ?_
        show Steps p.tables e below (s₁.setTop (mkF m 170 #[.val (.ref r0), .val (.int p1), .val (.int p2), .val (.long q3), .second, .val (.int p4), .val (.int b45), .val (.int (1 : Int32)), s45, .unset, .unset, .unset, .unset] [(.long z47), (.int b45)])) _
        refine XS.iload X0.here hx rfl (hb hby d3_170) rfl ?_
        show Steps p.tables e below (s₁.setTop (mkF m 172 #[.val (.ref r0), .val (.int p1), .val (.int p2), .val (.long q3), .second, .val (.int p4), .val (.int b45), .val (.int (1 : Int32)), s45, .unset, .unset, .unset, .unset] [(.int p4), (.long z47), (.int b45)])) _
        refine XS.lushr X0.here hx rfl (hb hby d3_172) rfl ?_
        show Steps p.tables e below (s₁.setTop (mkF m 173 #[.val (.ref r0), .val (.int p1), .val (.int p2), .val (.long q3), .second, .val (.int p4), .val (.int b45), .val (.int (1 : Int32)), s45, .unset, .unset, .unset, .unset] [(.long ((z47.toUInt64 >>> (p4 &&& 0x3f).toInt64.toUInt64).toInt64)), (.int b45)])) _
        rw [hu47]
        show Steps p.tables e below (s₁.setTop (mkF m 173 #[.val (.ref r0), .val (.int p1), .val (.int p2), .val (.long q3), .second, .val (.int p4), .val (.int b45), .val (.int (1 : Int32)), s45, .unset, .unset, .unset, .unset] [(.long (UU (b45).toNatClampNeg)), (.int b45)])) _
        refine XS.lloadN X0.here hx rfl (hb hby d3_173) rfl ?_
        show Steps p.tables e below (s₁.setTop (mkF m 174 #[.val (.ref r0), .val (.int p1), .val (.int p2), .val (.long q3), .second, .val (.int p4), .val (.int b45), .val (.int (1 : Int32)), s45, .unset, .unset, .unset, .unset] [(.long q3), (.long (UU (b45).toNatClampNeg)), (.int b45)])) _
        refine XS.lsub X0.here hx rfl (hb hby d3_174) rfl ?_
        show Steps p.tables e below (s₁.setTop (mkF m 175 #[.val (.ref r0), .val (.int p1), .val (.int p2), .val (.long q3), .second, .val (.int p4), .val (.int b45), .val (.int (1 : Int32)), s45, .unset, .unset, .unset, .unset] [(.long ((UU (b45).toNatClampNeg) - q3)), (.int b45)])) _
        refine XS.bipush X0.here hx rfl (hb hby d3_175) ?_
        show Steps p.tables e below (s₁.setTop (mkF m 177 #[.val (.ref r0), .val (.int p1), .val (.int p2), .val (.long q3), .second, .val (.int p4), .val (.int b45), .val (.int (1 : Int32)), s45, .unset, .unset, .unset, .unset] [(.int (63 : Int32)), (.long ((UU (b45).toNatClampNeg) - q3)), (.int b45)])) _
        refine XS.lushr X0.here hx rfl (hb hby d3_177) rfl ?_
        show Steps p.tables e below (s₁.setTop (mkF m 178 #[.val (.ref r0), .val (.int p1), .val (.int p2), .val (.long q3), .second, .val (.int p4), .val (.int b45), .val (.int (1 : Int32)), s45, .unset, .unset, .unset, .unset] [(.long ((((UU (b45).toNatClampNeg) - q3).toUInt64 >>> ((63 : Int32) &&& 0x3f).toInt64.toUInt64).toInt64)), (.int b45)])) _
        refine XS.l2i X0.here hx rfl (hb hby d3_178) rfl ?_
        show Steps p.tables e below (s₁.setTop (mkF m 179 #[.val (.ref r0), .val (.int p1), .val (.int p2), .val (.long q3), .second, .val (.int p4), .val (.int b45), .val (.int (1 : Int32)), s45, .unset, .unset, .unset, .unset] [(.int (((((UU (b45).toNatClampNeg) - q3).toUInt64 >>> ((63 : Int32) &&& 0x3f).toInt64.toUInt64).toInt64).toInt32)), (.int b45)])) _
        rw [← ec49]
        show Steps p.tables e below (s₁.setTop (mkF m 179 #[.val (.ref r0), .val (.int p1), .val (.int p2), .val (.long q3), .second, .val (.int p4), .val (.int b45), .val (.int (1 : Int32)), s45, .unset, .unset, .unset, .unset] [(.int c49), (.int b45)])) _
        refine XS.iadd X0.here hx rfl (hb hby d3_179) rfl ?_
        show Steps p.tables e below (s₁.setTop (mkF m 180 #[.val (.ref r0), .val (.int p1), .val (.int p2), .val (.long q3), .second, .val (.int p4), .val (.int b45), .val (.int (1 : Int32)), s45, .unset, .unset, .unset, .unset] [(.int (b45 + c49))])) _
        exact retI X0 hx Bd.returns (hb hby d3_180) hr
      · show Q3 UU p1 p2 q3 h0 n0 _ s₁.heap _
        rw [e0]
        exact ⟨_, rfl, N0, rfl, own_end1 hIz hs hf0 ht16 sc49⟩
theorem pd__28JJII_29J : parseMethodDescriptor "(JJII)J" = some ⟨[.long, .long, .int, .int], some .long⟩ := by decide +kernel
theorem pd__28_5bJ_5bJ_5bJIIJ_29V : parseMethodDescriptor "([J[J[JIIJ)V" = some ⟨[(.array .long), (.array .long), (.array .long), .int, .int, .long], none⟩ := by decide +kernel
theorem pd__28JI_29J : parseMethodDescriptor "(JI)J" = some ⟨[.long, .int], some .long⟩ := by decide +kernel
theorem pd__28_5bJIIJI_29I : parseMethodDescriptor "([JIIJI)I" = some ⟨[(.array .long), .int, .int, .long, .int], some .int⟩ := by decide +kernel
theorem pd__28_5bJIIIJ_29I : parseMethodDescriptor "([JIIIJ)I" = some ⟨[(.array .long), .int, .int, .int, .long], some .int⟩ := by decide +kernel
def Q0 (h0 : Heap) (n0 : Nat) (v : Option Value) (h : Heap) (L : List Loc) : Prop := v = some (.int 1) ∧ Fr n0 L
theorem ef_0 (m : MethodId) (q0 : Int64) (q1 : Int64) (q2 : Int64) (q3 : Int64) (p4 : Int32) (p5 : Int32) : entryFrame m #[(.long q0), (.long q1), (.long q2), (.long q3), (.int p4), (.int p5)] maxLocals = mkF m 0 #[.val (.long q0), .second, .val (.long q1), .second, .val (.long q2), .second, .val (.long q3), .second, .val (.int p4), .val (.int p5), .unset, .unset, .unset, .unset, .unset, .unset, .unset, .unset, .unset, .unset, .unset, .unset, .unset] [] := by first | (simp [entryFrame, mkF, argsToLocals, Value.category, maxLocals]; done) | rfl
set_option maxRecDepth 65536 in
set_option maxHeartbeats 40000000 in
theorem rm0 (l : Launch) (Z : State) (a0 : Array Value) (hw : ∀ d ∈ tables_1, d.before a0 Z = true) (ws : List Jvm.Cond) (q0 : Int64) (q1 : Int64) (q2 : Int64) (q3 : Int64) (p4 : Int32) (p5 : Int32)  (h0 : Heap) (n0 : Nat) (Z0 : n0 ≤ h0.size)  :
    MetFree l x (head1 (Jvm.Cond.code x code maxLocals ret :: ws) room_1) (fun a U => a = #[(.long q0), (.long q1), (.long q2), (.long q3), (.int p4), (.int p5)] ∧ Z.Warmed39 U.vm ∧ U.heap = h0) (fun _ _ _ _ _ => True) (fun _ U o U' => ∃ v L, o = .returned v ∧ Q0 h0 n0 v U'.heap L ∧ FrameEnd U o U' L room_1.cells room_1.slots) := by
  refine MetFree.of_bodySF (plainFor_of_name pn_com_example_copyleaf_copyleaf_page_PageFirstAtLeastPinLaw) hisR ?_
  intro p e s m args below meth c s₁ Bd hml0 hP hK
  obtain ⟨rfl, hZ, hh⟩ := hP
  have hx := Bd.exec
  have hby := Bd.bytes
  have hml : c.maxLocals = 23 := hml0
  have hown : s.vm.findClass "com/example/copyleaf/copyleaf/page/PageFirstAtLeastPinLaw" = some m.cls := findClass_of_methodNamed Bd.named
  have hnm := (name_of_methodNamed Bd.named Bd.method).1
  have X0 : Stand p l e room_1 s m #[(.long q0), (.long q1), (.long q2), (.long q3), (.int p4), (.int p5)] below meth c s₁ [] 0 0 := Stand.of_body Bd
  have e0 : s₁.heap = h0 := by rw [← hh, Bd.state]; rfl
  have N0 := Fr.nil n0
  have pre0 : ∀ t, Steps p.tables e below (s₁.setTop (mkF m 0 #[.val (.long q0), .second, .val (.long q1), .second, .val (.long q2), .second, .val (.long q3), .second, .val (.int p4), .val (.int p5), .unset, .unset, .unset, .unset, .unset, .unset, .unset, .unset, .unset, .unset, .unset, .unset, .unset] [])) t → Steps p.tables e below (s₁.setTop (entryFrame m #[(.long q0), (.long q1), (.long q2), (.long q3), (.int p4), (.int p5)] maxLocals)) t := fun t k => castTop (ef_0 m q0 q1 q2 q3 p4 p5) k
  obtain ⟨v1, ev1⟩ : ∃ z : Int32, z = (p4 &&& (63 : Int32)) := ⟨_, rfl⟩
  obtain ⟨v2, ev2⟩ : ∃ z : Int32, z = ((((p4.toUInt32 >>> ((6 : Int32) &&& 31).toUInt32).toInt32) &&& (63 : Int32)) % (60 : Int32)) := ⟨_, rfl⟩
  have pre3 : ∀ t, Steps p.tables e below (s₁.setTop (mkF m 27 #[.val (.long q0), .second, .val (.long q1), .second, .val (.long q2), .second, .val (.long q3), .second, .val (.int p4), .val (.int p5), .val (.int v1), .val (.int v2), .unset, .unset, .unset, .unset, .unset, .unset, .unset, .unset, .unset, .unset, .unset] [(.int (((p4.toUInt32 >>> ((12 : Int32) &&& 31).toUInt32).toInt32) &&& (1 : Int32)))])) t → Steps p.tables e below (s₁.setTop (entryFrame m #[(.long q0), (.long q1), (.long q2), (.long q3), (.int p4), (.int p5)] maxLocals)) t := fun t kk => pre0 t (by
    show Steps p.tables e below (s₁.setTop (mkF m 0 #[.val (.long q0), .second, .val (.long q1), .second, .val (.long q2), .second, .val (.long q3), .second, .val (.int p4), .val (.int p5), .unset, .unset, .unset, .unset, .unset, .unset, .unset, .unset, .unset, .unset, .unset, .unset, .unset] [])) _
    refine XS.iload X0.here hx rfl (hb hby at_0) rfl ?_
    show Steps p.tables e below (s₁.setTop (mkF m 2 #[.val (.long q0), .second, .val (.long q1), .second, .val (.long q2), .second, .val (.long q3), .second, .val (.int p4), .val (.int p5), .unset, .unset, .unset, .unset, .unset, .unset, .unset, .unset, .unset, .unset, .unset, .unset, .unset] [(.int p4)])) _
    refine XS.bipush X0.here hx rfl (hb hby at_2) ?_
    show Steps p.tables e below (s₁.setTop (mkF m 4 #[.val (.long q0), .second, .val (.long q1), .second, .val (.long q2), .second, .val (.long q3), .second, .val (.int p4), .val (.int p5), .unset, .unset, .unset, .unset, .unset, .unset, .unset, .unset, .unset, .unset, .unset, .unset, .unset] [(.int (63 : Int32)), (.int p4)])) _
    refine XS.iand X0.here hx rfl (hb hby at_4) rfl ?_
    show Steps p.tables e below (s₁.setTop (mkF m 5 #[.val (.long q0), .second, .val (.long q1), .second, .val (.long q2), .second, .val (.long q3), .second, .val (.int p4), .val (.int p5), .unset, .unset, .unset, .unset, .unset, .unset, .unset, .unset, .unset, .unset, .unset, .unset, .unset] [(.int (p4 &&& (63 : Int32)))])) _
    rw [← ev1]
    show Steps p.tables e below (s₁.setTop (mkF m 5 #[.val (.long q0), .second, .val (.long q1), .second, .val (.long q2), .second, .val (.long q3), .second, .val (.int p4), .val (.int p5), .unset, .unset, .unset, .unset, .unset, .unset, .unset, .unset, .unset, .unset, .unset, .unset, .unset] [(.int v1)])) _
    refine XS.istore X0.here hx rfl (hb hby at_5) rfl (l' := #[.val (.long q0), .second, .val (.long q1), .second, .val (.long q2), .second, .val (.long q3), .second, .val (.int p4), .val (.int p5), .val (.int v1), .unset, .unset, .unset, .unset, .unset, .unset, .unset, .unset, .unset, .unset, .unset, .unset]) rfl ?_
    show Steps p.tables e below (s₁.setTop (mkF m 7 #[.val (.long q0), .second, .val (.long q1), .second, .val (.long q2), .second, .val (.long q3), .second, .val (.int p4), .val (.int p5), .val (.int v1), .unset, .unset, .unset, .unset, .unset, .unset, .unset, .unset, .unset, .unset, .unset, .unset] [])) _
    refine XS.iload X0.here hx rfl (hb hby at_7) rfl ?_
    show Steps p.tables e below (s₁.setTop (mkF m 9 #[.val (.long q0), .second, .val (.long q1), .second, .val (.long q2), .second, .val (.long q3), .second, .val (.int p4), .val (.int p5), .val (.int v1), .unset, .unset, .unset, .unset, .unset, .unset, .unset, .unset, .unset, .unset, .unset, .unset] [(.int p4)])) _
    refine XS.bipush X0.here hx rfl (hb hby at_9) ?_
    show Steps p.tables e below (s₁.setTop (mkF m 11 #[.val (.long q0), .second, .val (.long q1), .second, .val (.long q2), .second, .val (.long q3), .second, .val (.int p4), .val (.int p5), .val (.int v1), .unset, .unset, .unset, .unset, .unset, .unset, .unset, .unset, .unset, .unset, .unset, .unset] [(.int (6 : Int32)), (.int p4)])) _
    refine XS.iushr X0.here hx rfl (hb hby at_11) rfl ?_
    show Steps p.tables e below (s₁.setTop (mkF m 12 #[.val (.long q0), .second, .val (.long q1), .second, .val (.long q2), .second, .val (.long q3), .second, .val (.int p4), .val (.int p5), .val (.int v1), .unset, .unset, .unset, .unset, .unset, .unset, .unset, .unset, .unset, .unset, .unset, .unset] [(.int ((p4.toUInt32 >>> ((6 : Int32) &&& 31).toUInt32).toInt32))])) _
    refine XS.bipush X0.here hx rfl (hb hby at_12) ?_
    show Steps p.tables e below (s₁.setTop (mkF m 14 #[.val (.long q0), .second, .val (.long q1), .second, .val (.long q2), .second, .val (.long q3), .second, .val (.int p4), .val (.int p5), .val (.int v1), .unset, .unset, .unset, .unset, .unset, .unset, .unset, .unset, .unset, .unset, .unset, .unset] [(.int (63 : Int32)), (.int ((p4.toUInt32 >>> ((6 : Int32) &&& 31).toUInt32).toInt32))])) _
    refine XS.iand X0.here hx rfl (hb hby at_14) rfl ?_
    show Steps p.tables e below (s₁.setTop (mkF m 15 #[.val (.long q0), .second, .val (.long q1), .second, .val (.long q2), .second, .val (.long q3), .second, .val (.int p4), .val (.int p5), .val (.int v1), .unset, .unset, .unset, .unset, .unset, .unset, .unset, .unset, .unset, .unset, .unset, .unset] [(.int (((p4.toUInt32 >>> ((6 : Int32) &&& 31).toUInt32).toInt32) &&& (63 : Int32)))])) _
    refine XS.bipush X0.here hx rfl (hb hby at_15) ?_
    show Steps p.tables e below (s₁.setTop (mkF m 17 #[.val (.long q0), .second, .val (.long q1), .second, .val (.long q2), .second, .val (.long q3), .second, .val (.int p4), .val (.int p5), .val (.int v1), .unset, .unset, .unset, .unset, .unset, .unset, .unset, .unset, .unset, .unset, .unset, .unset] [(.int (60 : Int32)), (.int (((p4.toUInt32 >>> ((6 : Int32) &&& 31).toUInt32).toInt32) &&& (63 : Int32)))])) _
    refine iremM (g := (mkF m 17 #[.val (.long q0), .second, .val (.long q1), .second, .val (.long q2), .second, .val (.long q3), .second, .val (.int p4), .val (.int p5), .val (.int v1), .unset, .unset, .unset, .unset, .unset, .unset, .unset, .unset, .unset, .unset, .unset, .unset] [(.int (60 : Int32)), (.int (((p4.toUInt32 >>> ((6 : Int32) &&& 31).toUInt32).toInt32) &&& (63 : Int32)))])) X0 hx rfl (hb hby at_17) rfl (by decide) ?_
    show Steps p.tables e below (s₁.setTop (mkF m 18 #[.val (.long q0), .second, .val (.long q1), .second, .val (.long q2), .second, .val (.long q3), .second, .val (.int p4), .val (.int p5), .val (.int v1), .unset, .unset, .unset, .unset, .unset, .unset, .unset, .unset, .unset, .unset, .unset, .unset] [(.int ((((p4.toUInt32 >>> ((6 : Int32) &&& 31).toUInt32).toInt32) &&& (63 : Int32)) % (60 : Int32)))])) _
    rw [← ev2]
    show Steps p.tables e below (s₁.setTop (mkF m 18 #[.val (.long q0), .second, .val (.long q1), .second, .val (.long q2), .second, .val (.long q3), .second, .val (.int p4), .val (.int p5), .val (.int v1), .unset, .unset, .unset, .unset, .unset, .unset, .unset, .unset, .unset, .unset, .unset, .unset] [(.int v2)])) _
    refine XS.istore X0.here hx rfl (hb hby at_18) rfl (l' := #[.val (.long q0), .second, .val (.long q1), .second, .val (.long q2), .second, .val (.long q3), .second, .val (.int p4), .val (.int p5), .val (.int v1), .val (.int v2), .unset, .unset, .unset, .unset, .unset, .unset, .unset, .unset, .unset, .unset, .unset]) rfl ?_
    show Steps p.tables e below (s₁.setTop (mkF m 20 #[.val (.long q0), .second, .val (.long q1), .second, .val (.long q2), .second, .val (.long q3), .second, .val (.int p4), .val (.int p5), .val (.int v1), .val (.int v2), .unset, .unset, .unset, .unset, .unset, .unset, .unset, .unset, .unset, .unset, .unset] [])) _
    refine XS.iload X0.here hx rfl (hb hby at_20) rfl ?_
    show Steps p.tables e below (s₁.setTop (mkF m 22 #[.val (.long q0), .second, .val (.long q1), .second, .val (.long q2), .second, .val (.long q3), .second, .val (.int p4), .val (.int p5), .val (.int v1), .val (.int v2), .unset, .unset, .unset, .unset, .unset, .unset, .unset, .unset, .unset, .unset, .unset] [(.int p4)])) _
    refine XS.bipush X0.here hx rfl (hb hby at_22) ?_
    show Steps p.tables e below (s₁.setTop (mkF m 24 #[.val (.long q0), .second, .val (.long q1), .second, .val (.long q2), .second, .val (.long q3), .second, .val (.int p4), .val (.int p5), .val (.int v1), .val (.int v2), .unset, .unset, .unset, .unset, .unset, .unset, .unset, .unset, .unset, .unset, .unset] [(.int (12 : Int32)), (.int p4)])) _
    refine XS.iushr X0.here hx rfl (hb hby at_24) rfl ?_
    show Steps p.tables e below (s₁.setTop (mkF m 25 #[.val (.long q0), .second, .val (.long q1), .second, .val (.long q2), .second, .val (.long q3), .second, .val (.int p4), .val (.int p5), .val (.int v1), .val (.int v2), .unset, .unset, .unset, .unset, .unset, .unset, .unset, .unset, .unset, .unset, .unset] [(.int ((p4.toUInt32 >>> ((12 : Int32) &&& 31).toUInt32).toInt32))])) _
    refine XS.iconst X0.here hx rfl (hb hby at_25) ?_
    show Steps p.tables e below (s₁.setTop (mkF m 26 #[.val (.long q0), .second, .val (.long q1), .second, .val (.long q2), .second, .val (.long q3), .second, .val (.int p4), .val (.int p5), .val (.int v1), .val (.int v2), .unset, .unset, .unset, .unset, .unset, .unset, .unset, .unset, .unset, .unset, .unset] [(.int (1 : Int32)), (.int ((p4.toUInt32 >>> ((12 : Int32) &&& 31).toUInt32).toInt32))])) _
    refine XS.iand X0.here hx rfl (hb hby at_26) rfl ?_
    exact kk)
  obtain ⟨v4, ev4, pre4⟩ : ∃ z : Int32, z = (if (((p4.toUInt32 >>> ((12 : Int32) &&& 31).toUInt32).toInt32) &&& (1 : Int32)) = (0 : Int32) then (0 : Int32) else (1 : Int32)) ∧ ∀ t, Steps p.tables e below (s₁.setTop (mkF m 35 #[.val (.long q0), .second, .val (.long q1), .second, .val (.long q2), .second, .val (.long q3), .second, .val (.int p4), .val (.int p5), .val (.int v1), .val (.int v2), .unset, .unset, .unset, .unset, .unset, .unset, .unset, .unset, .unset, .unset, .unset] [(.int z)])) t → Steps p.tables e below (s₁.setTop (entryFrame m #[(.long q0), (.long q1), (.long q2), (.long q3), (.int p4), (.int p5)] maxLocals)) t := by
    by_cases hd5 : (((p4.toUInt32 >>> ((12 : Int32) &&& 31).toUInt32).toInt32) &&& (1 : Int32)) = (0 : Int32)
    · refine ⟨(0 : Int32), (by rw [if_pos hd5]), fun t kk => pre3 t ?_⟩
      show Steps p.tables e below (s₁.setTop (mkF m 27 #[.val (.long q0), .second, .val (.long q1), .second, .val (.long q2), .second, .val (.long q3), .second, .val (.int p4), .val (.int p5), .val (.int v1), .val (.int v2), .unset, .unset, .unset, .unset, .unset, .unset, .unset, .unset, .unset, .unset, .unset] [(.int (((p4.toUInt32 >>> ((12 : Int32) &&& 31).toUInt32).toInt32) &&& (1 : Int32)))])) _
      refine XS.ifYes X0.here hx rfl (pc0 := 27) (pc' := 34) rfl (hb hby at_27) rfl ((if0 _ _).trans (teq hd5).1) (by decide) (by decide) ?_
      show Steps p.tables e below (s₁.setTop (mkF m 34 #[.val (.long q0), .second, .val (.long q1), .second, .val (.long q2), .second, .val (.long q3), .second, .val (.int p4), .val (.int p5), .val (.int v1), .val (.int v2), .unset, .unset, .unset, .unset, .unset, .unset, .unset, .unset, .unset, .unset, .unset] [])) _
      refine XS.iconst X0.here hx rfl (hb hby at_34) ?_
      exact kk
    · refine ⟨(1 : Int32), (by rw [if_neg hd5]), fun t kk => pre3 t ?_⟩
      show Steps p.tables e below (s₁.setTop (mkF m 27 #[.val (.long q0), .second, .val (.long q1), .second, .val (.long q2), .second, .val (.long q3), .second, .val (.int p4), .val (.int p5), .val (.int v1), .val (.int v2), .unset, .unset, .unset, .unset, .unset, .unset, .unset, .unset, .unset, .unset, .unset] [(.int (((p4.toUInt32 >>> ((12 : Int32) &&& 31).toUInt32).toInt32) &&& (1 : Int32)))])) _
      refine XS.ifNo X0.here hx rfl (hb hby at_27) rfl ((if0 _ _).trans (feq hd5).1) ?_
      show Steps p.tables e below (s₁.setTop (mkF m 30 #[.val (.long q0), .second, .val (.long q1), .second, .val (.long q2), .second, .val (.long q3), .second, .val (.int p4), .val (.int p5), .val (.int v1), .val (.int v2), .unset, .unset, .unset, .unset, .unset, .unset, .unset, .unset, .unset, .unset, .unset] [])) _
      refine XS.iconst X0.here hx rfl (hb hby at_30) ?_
      show Steps p.tables e below (s₁.setTop (mkF m 31 #[.val (.long q0), .second, .val (.long q1), .second, .val (.long q2), .second, .val (.long q3), .second, .val (.int p4), .val (.int p5), .val (.int v1), .val (.int v2), .unset, .unset, .unset, .unset, .unset, .unset, .unset, .unset, .unset, .unset, .unset] [(.int (1 : Int32))])) _
      refine XS.goto X0.here hx rfl (pc0 := 31) (pc' := 35) rfl (hb hby at_31) (by decide) (by decide) ?_
      exact kk
  obtain ⟨v6, ev6⟩ : ∃ z : Int32, z = (p5 &&& (15 : Int32)) := ⟨_, rfl⟩
  obtain ⟨v7, ev7⟩ : ∃ z : Int32, z = (v6 + ((((p5.toUInt32 >>> ((4 : Int32) &&& 31).toUInt32).toInt32) &&& (268435455 : Int32)) % ((17 : Int32) - v6))) := ⟨_, rfl⟩
  obtain ⟨T8, h8, k8, X8, e8, E8, A8, st8⟩ := newP X0 hx hZ (hw _ (List.mem_of_getElem? (i := 1) rfl)) e0 (g := (mkF m 64 #[.val (.long q0), .second, .val (.long q1), .second, .val (.long q2), .second, .val (.long q3), .second, .val (.int p4), .val (.int p5), .val (.int v1), .val (.int v2), .val (.int v4), .val (.int v6), .val (.int v7), .unset, .unset, .unset, .unset, .unset, .unset, .unset, .unset] [(.int (16 : Int32))])) rfl (hb hby at_64) rfl (by decide) (cap := 16) (by decide) (by decide) (by decide) (by decide)
  obtain ⟨b8, g8⟩ : ∃ z, z = h0.size := ⟨_, rfl⟩
  rw [← g8] at A8 st8
  have g_b8 : n0 ≤ b8 := Nat.le_trans Z0 (Nat.le_of_eq g8.symm)
  have V_b8 : Arv Z h8 b8 k8 .long (16 : Int32) [(.long (0 : Int64)), (.long (0 : Int64)), (.long (0 : Int64)), (.long (0 : Int64)), (.long (0 : Int64)), (.long (0 : Int64)), (.long (0 : Int64)), (.long (0 : Int64)), (.long (0 : Int64)), (.long (0 : Int64)), (.long (0 : Int64)), (.long (0 : Int64)), (.long (0 : Int64)), (.long (0 : Int64)), (.long (0 : Int64)), (.long (0 : Int64))] (.long (0 : Int64)) := (Arv.new A8 (by decide)).pad (pad_rep [] (.long (0 : Int64)) 16)
  obtain ⟨T9, h9, k9, X9, e9, E9, A9, st9⟩ := newP X8 hx hZ (hw _ (List.mem_of_getElem? (i := 1) rfl)) e8 (g := (mkF m 70 #[.val (.long q0), .second, .val (.long q1), .second, .val (.long q2), .second, .val (.long q3), .second, .val (.int p4), .val (.int p5), .val (.int v1), .val (.int v2), .val (.int v4), .val (.int v6), .val (.int v7), .val (.ref b8), .unset, .unset, .unset, .unset, .unset, .unset, .unset] [(.int (16 : Int32))])) rfl (hb hby at_70) rfl (by decide) (cap := 16) (by decide) (by decide) (by decide) (by decide)
  obtain ⟨b9, g9⟩ : ∃ z, z = h8.size := ⟨_, rfl⟩
  rw [← g9] at A9 st9
  have Zz10 := (Nat.le_trans Z0 E8.1)
  have g_b9 : n0 ≤ b9 := Nat.le_trans Zz10 (Nat.le_of_eq g9.symm)
  have ne_b8_b9 : b8 ≠ b9 := Nat.ne_of_lt (Nat.lt_of_lt_of_le V_b8.lt (Nat.le_of_eq g9.symm))
  have V_b9 : Arv Z h9 b9 k9 .long (16 : Int32) [(.long (0 : Int64)), (.long (0 : Int64)), (.long (0 : Int64)), (.long (0 : Int64)), (.long (0 : Int64)), (.long (0 : Int64)), (.long (0 : Int64)), (.long (0 : Int64)), (.long (0 : Int64)), (.long (0 : Int64)), (.long (0 : Int64)), (.long (0 : Int64)), (.long (0 : Int64)), (.long (0 : Int64)), (.long (0 : Int64)), (.long (0 : Int64))] (.long (0 : Int64)) := (Arv.new A9 (by decide)).pad (pad_rep [] (.long (0 : Int64)) 16)
  obtain ⟨T11, h11, k11, X11, e11, E11, A11, st11⟩ := newP X9 hx hZ (hw _ (List.mem_of_getElem? (i := 1) rfl)) e9 (g := (mkF m 76 #[.val (.long q0), .second, .val (.long q1), .second, .val (.long q2), .second, .val (.long q3), .second, .val (.int p4), .val (.int p5), .val (.int v1), .val (.int v2), .val (.int v4), .val (.int v6), .val (.int v7), .val (.ref b8), .val (.ref b9), .unset, .unset, .unset, .unset, .unset, .unset] [(.int (16 : Int32))])) rfl (hb hby at_76) rfl (by decide) (cap := 16) (by decide) (by decide) (by decide) (by decide)
  obtain ⟨b11, g11⟩ : ∃ z, z = h9.size := ⟨_, rfl⟩
  rw [← g11] at A11 st11
  have Zz12 := (Nat.le_trans Zz10 E9.1)
  have g_b11 : n0 ≤ b11 := Nat.le_trans Zz12 (Nat.le_of_eq g11.symm)
  have Av13 := (V_b8.ext E9)
  have ne_b8_b11 : b8 ≠ b11 := Nat.ne_of_lt (Nat.lt_of_lt_of_le Av13.lt (Nat.le_of_eq g11.symm))
  have ne_b9_b11 : b9 ≠ b11 := Nat.ne_of_lt (Nat.lt_of_lt_of_le V_b9.lt (Nat.le_of_eq g11.symm))
  have V_b11 : Arv Z h11 b11 k11 .long (16 : Int32) [(.long (0 : Int64)), (.long (0 : Int64)), (.long (0 : Int64)), (.long (0 : Int64)), (.long (0 : Int64)), (.long (0 : Int64)), (.long (0 : Int64)), (.long (0 : Int64)), (.long (0 : Int64)), (.long (0 : Int64)), (.long (0 : Int64)), (.long (0 : Int64)), (.long (0 : Int64)), (.long (0 : Int64)), (.long (0 : Int64)), (.long (0 : Int64))] (.long (0 : Int64)) := (Arv.new A11 (by decide)).pad (pad_rep [] (.long (0 : Int64)) 16)
  obtain ⟨v14, ev14⟩ : ∃ z : Int64, z = (q0 &&& (9223372036854775807 : Int64)) := ⟨_, rfl⟩
  have Av15 := (Av13.ext E11)
  obtain ⟨cl16, Ar16, q16, S16, Nn16, H16, G16⟩ := id Av15
  have hin16 : ¬ ((0 : Int32) < 0 ∨ cl16.slots.size ≤ ((0 : Int32)).toNatClampNeg) := inb_of S16 ⟨by decide, by decide⟩
  obtain ⟨T17, h17, X17, e17, W17, st17⟩ := stJ X11 hx hZ e11 Ar16 (j := (0 : Int32)) hin16 (g := (mkF m 88 #[.val (.long q0), .second, .val (.long q1), .second, .val (.long q2), .second, .val (.long q3), .second, .val (.int p4), .val (.int p5), .val (.int v1), .val (.int v2), .val (.int v4), .val (.int v6), .val (.int v7), .val (.ref b8), .val (.ref b9), .val (.ref b11), .unset, .unset, .unset, .unset, .unset] [(.long v14), (.int (0 : Int32)), (.ref b8)])) rfl rfl (hb hby at_88)
  have N17 := Fr.snoc X17 N0 g_b8
  have V17 : Arv Z h17 b8 k8 .long (16 : Int32) [(.long v14), (.long (0 : Int64)), (.long (0 : Int64)), (.long (0 : Int64)), (.long (0 : Int64)), (.long (0 : Int64)), (.long (0 : Int64)), (.long (0 : Int64)), (.long (0 : Int64)), (.long (0 : Int64)), (.long (0 : Int64)), (.long (0 : Int64)), (.long (0 : Int64)), (.long (0 : Int64)), (.long (0 : Int64)), (.long (0 : Int64))] (.long (0 : Int64)) := Arv.set Ar16 q16 S16 Nn16 H16 G16 rfl W17 0 rfl (Nat.le_of_ble_eq_true rfl)
  obtain ⟨cl18, Ar18, -, S18, -, H18, -⟩ := id V17
  have hin18 : ¬ ((0 : Int32) < 0 ∨ cl18.slots.size ≤ ((0 : Int32)).toNatClampNeg) := inb_of S18 ⟨by decide, by decide⟩
  have hat18 : cl18.slots[((0 : Int32)).toNatClampNeg]? = some (.long v14) := Has.at H18 hin18 rfl
  have pre19 : ∀ t, Steps p.tables e below (T17.setTop (mkF m 100 #[.val (.long q0), .second, .val (.long q1), .second, .val (.long q2), .second, .val (.long q3), .second, .val (.int p4), .val (.int p5), .val (.int v1), .val (.int v2), .val (.int v4), .val (.int v6), .val (.int v7), .val (.ref b8), .val (.ref b9), .val (.ref b11), .unset, .unset, .unset, .unset, .unset] [(.int v2), (.int (1 : Int32)), (.long q1), (.long v14), (.int (1 : Int32)), (.ref b8)])) t → Steps p.tables e below (s₁.setTop (entryFrame m #[(.long q0), (.long q1), (.long q2), (.long q3), (.int p4), (.int p5)] maxLocals)) t := fun t kk => pre4 t (by
    show Steps p.tables e below (s₁.setTop (mkF m 35 #[.val (.long q0), .second, .val (.long q1), .second, .val (.long q2), .second, .val (.long q3), .second, .val (.int p4), .val (.int p5), .val (.int v1), .val (.int v2), .unset, .unset, .unset, .unset, .unset, .unset, .unset, .unset, .unset, .unset, .unset] [(.int v4)])) _
    refine XS.istore X0.here hx rfl (hb hby at_35) rfl (l' := #[.val (.long q0), .second, .val (.long q1), .second, .val (.long q2), .second, .val (.long q3), .second, .val (.int p4), .val (.int p5), .val (.int v1), .val (.int v2), .val (.int v4), .unset, .unset, .unset, .unset, .unset, .unset, .unset, .unset, .unset, .unset]) rfl ?_
    show Steps p.tables e below (s₁.setTop (mkF m 37 #[.val (.long q0), .second, .val (.long q1), .second, .val (.long q2), .second, .val (.long q3), .second, .val (.int p4), .val (.int p5), .val (.int v1), .val (.int v2), .val (.int v4), .unset, .unset, .unset, .unset, .unset, .unset, .unset, .unset, .unset, .unset] [])) _
    refine XS.iload X0.here hx rfl (hb hby at_37) rfl ?_
    show Steps p.tables e below (s₁.setTop (mkF m 39 #[.val (.long q0), .second, .val (.long q1), .second, .val (.long q2), .second, .val (.long q3), .second, .val (.int p4), .val (.int p5), .val (.int v1), .val (.int v2), .val (.int v4), .unset, .unset, .unset, .unset, .unset, .unset, .unset, .unset, .unset, .unset] [(.int p5)])) _
    refine XS.bipush X0.here hx rfl (hb hby at_39) ?_
    show Steps p.tables e below (s₁.setTop (mkF m 41 #[.val (.long q0), .second, .val (.long q1), .second, .val (.long q2), .second, .val (.long q3), .second, .val (.int p4), .val (.int p5), .val (.int v1), .val (.int v2), .val (.int v4), .unset, .unset, .unset, .unset, .unset, .unset, .unset, .unset, .unset, .unset] [(.int (15 : Int32)), (.int p5)])) _
    refine XS.iand X0.here hx rfl (hb hby at_41) rfl ?_
    show Steps p.tables e below (s₁.setTop (mkF m 42 #[.val (.long q0), .second, .val (.long q1), .second, .val (.long q2), .second, .val (.long q3), .second, .val (.int p4), .val (.int p5), .val (.int v1), .val (.int v2), .val (.int v4), .unset, .unset, .unset, .unset, .unset, .unset, .unset, .unset, .unset, .unset] [(.int (p5 &&& (15 : Int32)))])) _
    rw [← ev6]
    show Steps p.tables e below (s₁.setTop (mkF m 42 #[.val (.long q0), .second, .val (.long q1), .second, .val (.long q2), .second, .val (.long q3), .second, .val (.int p4), .val (.int p5), .val (.int v1), .val (.int v2), .val (.int v4), .unset, .unset, .unset, .unset, .unset, .unset, .unset, .unset, .unset, .unset] [(.int v6)])) _
    refine XS.istore X0.here hx rfl (hb hby at_42) rfl (l' := #[.val (.long q0), .second, .val (.long q1), .second, .val (.long q2), .second, .val (.long q3), .second, .val (.int p4), .val (.int p5), .val (.int v1), .val (.int v2), .val (.int v4), .val (.int v6), .unset, .unset, .unset, .unset, .unset, .unset, .unset, .unset, .unset]) rfl ?_
    show Steps p.tables e below (s₁.setTop (mkF m 44 #[.val (.long q0), .second, .val (.long q1), .second, .val (.long q2), .second, .val (.long q3), .second, .val (.int p4), .val (.int p5), .val (.int v1), .val (.int v2), .val (.int v4), .val (.int v6), .unset, .unset, .unset, .unset, .unset, .unset, .unset, .unset, .unset] [])) _
    refine XS.iload X0.here hx rfl (hb hby at_44) rfl ?_
    show Steps p.tables e below (s₁.setTop (mkF m 46 #[.val (.long q0), .second, .val (.long q1), .second, .val (.long q2), .second, .val (.long q3), .second, .val (.int p4), .val (.int p5), .val (.int v1), .val (.int v2), .val (.int v4), .val (.int v6), .unset, .unset, .unset, .unset, .unset, .unset, .unset, .unset, .unset] [(.int v6)])) _
    refine XS.iload X0.here hx rfl (hb hby at_46) rfl ?_
    show Steps p.tables e below (s₁.setTop (mkF m 48 #[.val (.long q0), .second, .val (.long q1), .second, .val (.long q2), .second, .val (.long q3), .second, .val (.int p4), .val (.int p5), .val (.int v1), .val (.int v2), .val (.int v4), .val (.int v6), .unset, .unset, .unset, .unset, .unset, .unset, .unset, .unset, .unset] [(.int p5), (.int v6)])) _
    refine XS.iconst X0.here hx rfl (hb hby at_48) ?_
    show Steps p.tables e below (s₁.setTop (mkF m 49 #[.val (.long q0), .second, .val (.long q1), .second, .val (.long q2), .second, .val (.long q3), .second, .val (.int p4), .val (.int p5), .val (.int v1), .val (.int v2), .val (.int v4), .val (.int v6), .unset, .unset, .unset, .unset, .unset, .unset, .unset, .unset, .unset] [(.int (4 : Int32)), (.int p5), (.int v6)])) _
    refine XS.iushr X0.here hx rfl (hb hby at_49) rfl ?_
    show Steps p.tables e below (s₁.setTop (mkF m 50 #[.val (.long q0), .second, .val (.long q1), .second, .val (.long q2), .second, .val (.long q3), .second, .val (.int p4), .val (.int p5), .val (.int v1), .val (.int v2), .val (.int v4), .val (.int v6), .unset, .unset, .unset, .unset, .unset, .unset, .unset, .unset, .unset] [(.int ((p5.toUInt32 >>> ((4 : Int32) &&& 31).toUInt32).toInt32)), (.int v6)])) _
    refine X0.ldcInt hx hown (mvT hZ (hw _ (List.mem_of_getElem? (i := 0) rfl))) (g := (mkF m 50 #[.val (.long q0), .second, .val (.long q1), .second, .val (.long q2), .second, .val (.long q3), .second, .val (.int p4), .val (.int p5), .val (.int v1), .val (.int v2), .val (.int v4), .val (.int v6), .unset, .unset, .unset, .unset, .unset, .unset, .unset, .unset, .unset] [(.int ((p5.toUInt32 >>> ((4 : Int32) &&& 31).toUInt32).toInt32)), (.int v6)])) rfl (hb hby at_50) _ ?_
    show Steps p.tables e below (s₁.setTop (mkF m 52 #[.val (.long q0), .second, .val (.long q1), .second, .val (.long q2), .second, .val (.long q3), .second, .val (.int p4), .val (.int p5), .val (.int v1), .val (.int v2), .val (.int v4), .val (.int v6), .unset, .unset, .unset, .unset, .unset, .unset, .unset, .unset, .unset] [(.int (268435455 : Int32)), (.int ((p5.toUInt32 >>> ((4 : Int32) &&& 31).toUInt32).toInt32)), (.int v6)])) _
    refine XS.iand X0.here hx rfl (hb hby at_52) rfl ?_
    show Steps p.tables e below (s₁.setTop (mkF m 53 #[.val (.long q0), .second, .val (.long q1), .second, .val (.long q2), .second, .val (.long q3), .second, .val (.int p4), .val (.int p5), .val (.int v1), .val (.int v2), .val (.int v4), .val (.int v6), .unset, .unset, .unset, .unset, .unset, .unset, .unset, .unset, .unset] [(.int (((p5.toUInt32 >>> ((4 : Int32) &&& 31).toUInt32).toInt32) &&& (268435455 : Int32))), (.int v6)])) _
    refine XS.bipush X0.here hx rfl (hb hby at_53) ?_
    show Steps p.tables e below (s₁.setTop (mkF m 55 #[.val (.long q0), .second, .val (.long q1), .second, .val (.long q2), .second, .val (.long q3), .second, .val (.int p4), .val (.int p5), .val (.int v1), .val (.int v2), .val (.int v4), .val (.int v6), .unset, .unset, .unset, .unset, .unset, .unset, .unset, .unset, .unset] [(.int (17 : Int32)), (.int (((p5.toUInt32 >>> ((4 : Int32) &&& 31).toUInt32).toInt32) &&& (268435455 : Int32))), (.int v6)])) _
    refine XS.iload X0.here hx rfl (hb hby at_55) rfl ?_
    show Steps p.tables e below (s₁.setTop (mkF m 57 #[.val (.long q0), .second, .val (.long q1), .second, .val (.long q2), .second, .val (.long q3), .second, .val (.int p4), .val (.int p5), .val (.int v1), .val (.int v2), .val (.int v4), .val (.int v6), .unset, .unset, .unset, .unset, .unset, .unset, .unset, .unset, .unset] [(.int v6), (.int (17 : Int32)), (.int (((p5.toUInt32 >>> ((4 : Int32) &&& 31).toUInt32).toInt32) &&& (268435455 : Int32))), (.int v6)])) _
    refine XS.isub X0.here hx rfl (hb hby at_57) rfl ?_
    show Steps p.tables e below (s₁.setTop (mkF m 58 #[.val (.long q0), .second, .val (.long q1), .second, .val (.long q2), .second, .val (.long q3), .second, .val (.int p4), .val (.int p5), .val (.int v1), .val (.int v2), .val (.int v4), .val (.int v6), .unset, .unset, .unset, .unset, .unset, .unset, .unset, .unset, .unset] [(.int ((17 : Int32) - v6)), (.int (((p5.toUInt32 >>> ((4 : Int32) &&& 31).toUInt32).toInt32) &&& (268435455 : Int32))), (.int v6)])) _
    refine iremM (g := (mkF m 58 #[.val (.long q0), .second, .val (.long q1), .second, .val (.long q2), .second, .val (.long q3), .second, .val (.int p4), .val (.int p5), .val (.int v1), .val (.int v2), .val (.int v4), .val (.int v6), .unset, .unset, .unset, .unset, .unset, .unset, .unset, .unset, .unset] [(.int ((17 : Int32) - v6)), (.int (((p5.toUInt32 >>> ((4 : Int32) &&& 31).toUInt32).toInt32) &&& (268435455 : Int32))), (.int v6)])) X0 hx rfl (hb hby at_58) rfl (own_17 ev6) ?_
    show Steps p.tables e below (s₁.setTop (mkF m 59 #[.val (.long q0), .second, .val (.long q1), .second, .val (.long q2), .second, .val (.long q3), .second, .val (.int p4), .val (.int p5), .val (.int v1), .val (.int v2), .val (.int v4), .val (.int v6), .unset, .unset, .unset, .unset, .unset, .unset, .unset, .unset, .unset] [(.int ((((p5.toUInt32 >>> ((4 : Int32) &&& 31).toUInt32).toInt32) &&& (268435455 : Int32)) % ((17 : Int32) - v6))), (.int v6)])) _
    refine XS.iadd X0.here hx rfl (hb hby at_59) rfl ?_
    show Steps p.tables e below (s₁.setTop (mkF m 60 #[.val (.long q0), .second, .val (.long q1), .second, .val (.long q2), .second, .val (.long q3), .second, .val (.int p4), .val (.int p5), .val (.int v1), .val (.int v2), .val (.int v4), .val (.int v6), .unset, .unset, .unset, .unset, .unset, .unset, .unset, .unset, .unset] [(.int (v6 + ((((p5.toUInt32 >>> ((4 : Int32) &&& 31).toUInt32).toInt32) &&& (268435455 : Int32)) % ((17 : Int32) - v6))))])) _
    rw [← ev7]
    show Steps p.tables e below (s₁.setTop (mkF m 60 #[.val (.long q0), .second, .val (.long q1), .second, .val (.long q2), .second, .val (.long q3), .second, .val (.int p4), .val (.int p5), .val (.int v1), .val (.int v2), .val (.int v4), .val (.int v6), .unset, .unset, .unset, .unset, .unset, .unset, .unset, .unset, .unset] [(.int v7)])) _
    refine XS.istore X0.here hx rfl (hb hby at_60) rfl (l' := #[.val (.long q0), .second, .val (.long q1), .second, .val (.long q2), .second, .val (.long q3), .second, .val (.int p4), .val (.int p5), .val (.int v1), .val (.int v2), .val (.int v4), .val (.int v6), .val (.int v7), .unset, .unset, .unset, .unset, .unset, .unset, .unset, .unset]) rfl ?_
    show Steps p.tables e below (s₁.setTop (mkF m 62 #[.val (.long q0), .second, .val (.long q1), .second, .val (.long q2), .second, .val (.long q3), .second, .val (.int p4), .val (.int p5), .val (.int v1), .val (.int v2), .val (.int v4), .val (.int v6), .val (.int v7), .unset, .unset, .unset, .unset, .unset, .unset, .unset, .unset] [])) _
    refine XS.bipush X0.here hx rfl (hb hby at_62) ?_
    show Steps p.tables e below (s₁.setTop (mkF m 64 #[.val (.long q0), .second, .val (.long q1), .second, .val (.long q2), .second, .val (.long q3), .second, .val (.int p4), .val (.int p5), .val (.int v1), .val (.int v2), .val (.int v4), .val (.int v6), .val (.int v7), .unset, .unset, .unset, .unset, .unset, .unset, .unset, .unset] [(.int (16 : Int32))])) _
    refine st8 _ ?_
    show Steps p.tables e below (T8.setTop (mkF m 66 #[.val (.long q0), .second, .val (.long q1), .second, .val (.long q2), .second, .val (.long q3), .second, .val (.int p4), .val (.int p5), .val (.int v1), .val (.int v2), .val (.int v4), .val (.int v6), .val (.int v7), .unset, .unset, .unset, .unset, .unset, .unset, .unset, .unset] [(.ref b8)])) _
    refine XS.astore X8.here hx rfl (hb hby at_66) rfl rfl (l' := #[.val (.long q0), .second, .val (.long q1), .second, .val (.long q2), .second, .val (.long q3), .second, .val (.int p4), .val (.int p5), .val (.int v1), .val (.int v2), .val (.int v4), .val (.int v6), .val (.int v7), .val (.ref b8), .unset, .unset, .unset, .unset, .unset, .unset, .unset]) rfl ?_
    show Steps p.tables e below (T8.setTop (mkF m 68 #[.val (.long q0), .second, .val (.long q1), .second, .val (.long q2), .second, .val (.long q3), .second, .val (.int p4), .val (.int p5), .val (.int v1), .val (.int v2), .val (.int v4), .val (.int v6), .val (.int v7), .val (.ref b8), .unset, .unset, .unset, .unset, .unset, .unset, .unset] [])) _
    refine XS.bipush X8.here hx rfl (hb hby at_68) ?_
    show Steps p.tables e below (T8.setTop (mkF m 70 #[.val (.long q0), .second, .val (.long q1), .second, .val (.long q2), .second, .val (.long q3), .second, .val (.int p4), .val (.int p5), .val (.int v1), .val (.int v2), .val (.int v4), .val (.int v6), .val (.int v7), .val (.ref b8), .unset, .unset, .unset, .unset, .unset, .unset, .unset] [(.int (16 : Int32))])) _
    refine st9 _ ?_
    show Steps p.tables e below (T9.setTop (mkF m 72 #[.val (.long q0), .second, .val (.long q1), .second, .val (.long q2), .second, .val (.long q3), .second, .val (.int p4), .val (.int p5), .val (.int v1), .val (.int v2), .val (.int v4), .val (.int v6), .val (.int v7), .val (.ref b8), .unset, .unset, .unset, .unset, .unset, .unset, .unset] [(.ref b9)])) _
    refine XS.astore X9.here hx rfl (hb hby at_72) rfl rfl (l' := #[.val (.long q0), .second, .val (.long q1), .second, .val (.long q2), .second, .val (.long q3), .second, .val (.int p4), .val (.int p5), .val (.int v1), .val (.int v2), .val (.int v4), .val (.int v6), .val (.int v7), .val (.ref b8), .val (.ref b9), .unset, .unset, .unset, .unset, .unset, .unset]) rfl ?_
    show Steps p.tables e below (T9.setTop (mkF m 74 #[.val (.long q0), .second, .val (.long q1), .second, .val (.long q2), .second, .val (.long q3), .second, .val (.int p4), .val (.int p5), .val (.int v1), .val (.int v2), .val (.int v4), .val (.int v6), .val (.int v7), .val (.ref b8), .val (.ref b9), .unset, .unset, .unset, .unset, .unset, .unset] [])) _
    refine XS.bipush X9.here hx rfl (hb hby at_74) ?_
    show Steps p.tables e below (T9.setTop (mkF m 76 #[.val (.long q0), .second, .val (.long q1), .second, .val (.long q2), .second, .val (.long q3), .second, .val (.int p4), .val (.int p5), .val (.int v1), .val (.int v2), .val (.int v4), .val (.int v6), .val (.int v7), .val (.ref b8), .val (.ref b9), .unset, .unset, .unset, .unset, .unset, .unset] [(.int (16 : Int32))])) _
    refine st11 _ ?_
    show Steps p.tables e below (T11.setTop (mkF m 78 #[.val (.long q0), .second, .val (.long q1), .second, .val (.long q2), .second, .val (.long q3), .second, .val (.int p4), .val (.int p5), .val (.int v1), .val (.int v2), .val (.int v4), .val (.int v6), .val (.int v7), .val (.ref b8), .val (.ref b9), .unset, .unset, .unset, .unset, .unset, .unset] [(.ref b11)])) _
    refine XS.astore X11.here hx rfl (hb hby at_78) rfl rfl (l' := #[.val (.long q0), .second, .val (.long q1), .second, .val (.long q2), .second, .val (.long q3), .second, .val (.int p4), .val (.int p5), .val (.int v1), .val (.int v2), .val (.int v4), .val (.int v6), .val (.int v7), .val (.ref b8), .val (.ref b9), .val (.ref b11), .unset, .unset, .unset, .unset, .unset]) rfl ?_
    show Steps p.tables e below (T11.setTop (mkF m 80 #[.val (.long q0), .second, .val (.long q1), .second, .val (.long q2), .second, .val (.long q3), .second, .val (.int p4), .val (.int p5), .val (.int v1), .val (.int v2), .val (.int v4), .val (.int v6), .val (.int v7), .val (.ref b8), .val (.ref b9), .val (.ref b11), .unset, .unset, .unset, .unset, .unset] [])) _
    refine XS.aload X11.here hx rfl (hb hby at_80) rfl rfl ?_
    show Steps p.tables e below (T11.setTop (mkF m 82 #[.val (.long q0), .second, .val (.long q1), .second, .val (.long q2), .second, .val (.long q3), .second, .val (.int p4), .val (.int p5), .val (.int v1), .val (.int v2), .val (.int v4), .val (.int v6), .val (.int v7), .val (.ref b8), .val (.ref b9), .val (.ref b11), .unset, .unset, .unset, .unset, .unset] [(.ref b8)])) _
    refine XS.iconst X11.here hx rfl (hb hby at_82) ?_
    show Steps p.tables e below (T11.setTop (mkF m 83 #[.val (.long q0), .second, .val (.long q1), .second, .val (.long q2), .second, .val (.long q3), .second, .val (.int p4), .val (.int p5), .val (.int v1), .val (.int v2), .val (.int v4), .val (.int v6), .val (.int v7), .val (.ref b8), .val (.ref b9), .val (.ref b11), .unset, .unset, .unset, .unset, .unset] [(.int (0 : Int32)), (.ref b8)])) _
    refine XS.lloadN X11.here hx rfl (hb hby at_83) rfl ?_
    show Steps p.tables e below (T11.setTop (mkF m 84 #[.val (.long q0), .second, .val (.long q1), .second, .val (.long q2), .second, .val (.long q3), .second, .val (.int p4), .val (.int p5), .val (.int v1), .val (.int v2), .val (.int v4), .val (.int v6), .val (.int v7), .val (.ref b8), .val (.ref b9), .val (.ref b11), .unset, .unset, .unset, .unset, .unset] [(.long q0), (.int (0 : Int32)), (.ref b8)])) _
    refine X11.ldc2Long hx hown (mvT hZ (hw _ (List.mem_of_getElem? (i := 2) rfl))) (g := (mkF m 84 #[.val (.long q0), .second, .val (.long q1), .second, .val (.long q2), .second, .val (.long q3), .second, .val (.int p4), .val (.int p5), .val (.int v1), .val (.int v2), .val (.int v4), .val (.int v6), .val (.int v7), .val (.ref b8), .val (.ref b9), .val (.ref b11), .unset, .unset, .unset, .unset, .unset] [(.long q0), (.int (0 : Int32)), (.ref b8)])) rfl (hb hby at_84) _ ?_
    show Steps p.tables e below (T11.setTop (mkF m 87 #[.val (.long q0), .second, .val (.long q1), .second, .val (.long q2), .second, .val (.long q3), .second, .val (.int p4), .val (.int p5), .val (.int v1), .val (.int v2), .val (.int v4), .val (.int v6), .val (.int v7), .val (.ref b8), .val (.ref b9), .val (.ref b11), .unset, .unset, .unset, .unset, .unset] [(.long (9223372036854775807 : Int64)), (.long q0), (.int (0 : Int32)), (.ref b8)])) _
    refine XS.land X11.here hx rfl (hb hby at_87) rfl ?_
    show Steps p.tables e below (T11.setTop (mkF m 88 #[.val (.long q0), .second, .val (.long q1), .second, .val (.long q2), .second, .val (.long q3), .second, .val (.int p4), .val (.int p5), .val (.int v1), .val (.int v2), .val (.int v4), .val (.int v6), .val (.int v7), .val (.ref b8), .val (.ref b9), .val (.ref b11), .unset, .unset, .unset, .unset, .unset] [(.long (q0 &&& (9223372036854775807 : Int64))), (.int (0 : Int32)), (.ref b8)])) _
    rw [← ev14]
    show Steps p.tables e below (T11.setTop (mkF m 88 #[.val (.long q0), .second, .val (.long q1), .second, .val (.long q2), .second, .val (.long q3), .second, .val (.int p4), .val (.int p5), .val (.int v1), .val (.int v2), .val (.int v4), .val (.int v6), .val (.int v7), .val (.ref b8), .val (.ref b9), .val (.ref b11), .unset, .unset, .unset, .unset, .unset] [(.long v14), (.int (0 : Int32)), (.ref b8)])) _
    refine st17 _ ?_
    show Steps p.tables e below (T17.setTop (mkF m 89 #[.val (.long q0), .second, .val (.long q1), .second, .val (.long q2), .second, .val (.long q3), .second, .val (.int p4), .val (.int p5), .val (.int v1), .val (.int v2), .val (.int v4), .val (.int v6), .val (.int v7), .val (.ref b8), .val (.ref b9), .val (.ref b11), .unset, .unset, .unset, .unset, .unset] [])) _
    refine XS.aload X17.here hx rfl (hb hby at_89) rfl rfl ?_
    show Steps p.tables e below (T17.setTop (mkF m 91 #[.val (.long q0), .second, .val (.long q1), .second, .val (.long q2), .second, .val (.long q3), .second, .val (.int p4), .val (.int p5), .val (.int v1), .val (.int v2), .val (.int v4), .val (.int v6), .val (.int v7), .val (.ref b8), .val (.ref b9), .val (.ref b11), .unset, .unset, .unset, .unset, .unset] [(.ref b8)])) _
    refine XS.iconst X17.here hx rfl (hb hby at_91) ?_
    show Steps p.tables e below (T17.setTop (mkF m 92 #[.val (.long q0), .second, .val (.long q1), .second, .val (.long q2), .second, .val (.long q3), .second, .val (.int p4), .val (.int p5), .val (.int v1), .val (.int v2), .val (.int v4), .val (.int v6), .val (.int v7), .val (.ref b8), .val (.ref b9), .val (.ref b11), .unset, .unset, .unset, .unset, .unset] [(.int (1 : Int32)), (.ref b8)])) _
    refine XS.aload X17.here hx rfl (hb hby at_92) rfl rfl ?_
    show Steps p.tables e below (T17.setTop (mkF m 94 #[.val (.long q0), .second, .val (.long q1), .second, .val (.long q2), .second, .val (.long q3), .second, .val (.int p4), .val (.int p5), .val (.int v1), .val (.int v2), .val (.int v4), .val (.int v6), .val (.int v7), .val (.ref b8), .val (.ref b9), .val (.ref b11), .unset, .unset, .unset, .unset, .unset] [(.ref b8), (.int (1 : Int32)), (.ref b8)])) _
    refine XS.iconst X17.here hx rfl (hb hby at_94) ?_
    show Steps p.tables e below (T17.setTop (mkF m 95 #[.val (.long q0), .second, .val (.long q1), .second, .val (.long q2), .second, .val (.long q3), .second, .val (.int p4), .val (.int p5), .val (.int v1), .val (.int v2), .val (.int v4), .val (.int v6), .val (.int v7), .val (.ref b8), .val (.ref b9), .val (.ref b11), .unset, .unset, .unset, .unset, .unset] [(.int (0 : Int32)), (.ref b8), (.int (1 : Int32)), (.ref b8)])) _
    refine X17.laload hx (j := (0 : Int32)) (v := (.long v14)) (by rw [e17]; exact Ar18.1) (State.isArrayOf_alike hZ.alike Ar18.2.1) Ar18.2.2 hin18 hat18 (g := (mkF m 95 #[.val (.long q0), .second, .val (.long q1), .second, .val (.long q2), .second, .val (.long q3), .second, .val (.int p4), .val (.int p5), .val (.int v1), .val (.int v2), .val (.int v4), .val (.int v6), .val (.int v7), .val (.ref b8), .val (.ref b9), .val (.ref b11), .unset, .unset, .unset, .unset, .unset] [(.int (0 : Int32)), (.ref b8), (.int (1 : Int32)), (.ref b8)])) rfl rfl (hb hby at_95) _ ?_
    show Steps p.tables e below (T17.setTop (mkF m 96 #[.val (.long q0), .second, .val (.long q1), .second, .val (.long q2), .second, .val (.long q3), .second, .val (.int p4), .val (.int p5), .val (.int v1), .val (.int v2), .val (.int v4), .val (.int v6), .val (.int v7), .val (.ref b8), .val (.ref b9), .val (.ref b11), .unset, .unset, .unset, .unset, .unset] [(.long v14), (.int (1 : Int32)), (.ref b8)])) _
    refine XS.lloadN X17.here hx rfl (hb hby at_96) rfl ?_
    show Steps p.tables e below (T17.setTop (mkF m 97 #[.val (.long q0), .second, .val (.long q1), .second, .val (.long q2), .second, .val (.long q3), .second, .val (.int p4), .val (.int p5), .val (.int v1), .val (.int v2), .val (.int v4), .val (.int v6), .val (.int v7), .val (.ref b8), .val (.ref b9), .val (.ref b11), .unset, .unset, .unset, .unset, .unset] [(.long q1), (.long v14), (.int (1 : Int32)), (.ref b8)])) _
    refine XS.iconst X17.here hx rfl (hb hby at_97) ?_
    show Steps p.tables e below (T17.setTop (mkF m 98 #[.val (.long q0), .second, .val (.long q1), .second, .val (.long q2), .second, .val (.long q3), .second, .val (.int p4), .val (.int p5), .val (.int v1), .val (.int v2), .val (.int v4), .val (.int v6), .val (.int v7), .val (.ref b8), .val (.ref b9), .val (.ref b11), .unset, .unset, .unset, .unset, .unset] [(.int (1 : Int32)), (.long q1), (.long v14), (.int (1 : Int32)), (.ref b8)])) _
    refine XS.iload X17.here hx rfl (hb hby at_98) rfl ?_
    exact kk)
  have Zz20 := (Nat.le_trans (Nat.le_trans Zz12 E11.1) (Keep.of_wr W17).1)
  have Av21 := ((V_b9.ext E11).other W17 (Ne.symm ne_b8_b9))
  have Av22 := (V_b11.other W17 (Ne.symm ne_b8_b11))
  obtain ⟨Lg23, X23, N23⟩ : ∃ L' : List Loc, Stand p l e room_1 s m #[(.long q0), (.long q1), (.long q2), (.long q3), (.int p4), (.int p5)] below meth c T17 L' 3 48 ∧ Fr n0 L' := ⟨_, X17, N17⟩
  (try clear pre3); (try clear pre4); (try clear X8); (try clear e8); (try clear E8); (try clear A8); (try clear st8); (try clear g8); (try clear V_b8); (try clear X9); (try clear e9); (try clear E9); (try clear A9); (try clear st9); (try clear g9); (try clear Zz10); (try clear V_b9); (try clear X11); (try clear e11); (try clear E11); (try clear A11); (try clear st11); (try clear g11); (try clear Zz12); (try clear Av13); (try clear V_b11); (try clear Av15); (try clear Ar16); (try clear q16); (try clear S16); (try clear Nn16); (try clear H16); (try clear G16); (try clear hin16); (try clear X17); (try clear W17); (try clear st17); (try clear N17); (try clear Ar18); (try clear S18); (try clear H18); (try clear hin18); (try clear hat18)
  obtain ⟨_, _, ⟨T24, L24, k24, n24⟩, -, X24, ⟨Lc24, hQ24, l24, y24, z24⟩, st24⟩ := Jvm.LawKit.callS X23 hx (y := (⟨"com/example/copyleaf/copyleaf/page/PageFirstAtLeastPinLaw", "next", "(JJII)J"⟩ : MethodName)) hown (mvT hZ (hw _ (List.mem_of_getElem? (i := 3) rfl))) (mvT hZ (hw _ (List.mem_of_getElem? (i := 4) rfl))) (mvT hZ (hw _ (List.mem_of_getElem? (i := 5) rfl))) (mvT hZ (hw _ (List.mem_of_getElem? (i := 6) rfl))) (by decide) (backOf (W := 2) (rm1 l Z a0 hw [] v14 q1 (1 : Int32) v2 h17 n0 Zz20) hZ (hw _ (List.mem_of_getElem? (i := 6) rfl)) (hw _ (List.mem_of_getElem? (i := 5) rfl)) (by decide) (by decide)) (g := (mkF m 100 #[.val (.long q0), .second, .val (.long q1), .second, .val (.long q2), .second, .val (.long q3), .second, .val (.int p4), .val (.int p5), .val (.int v1), .val (.int v2), .val (.int v4), .val (.int v6), .val (.int v7), .val (.ref b8), .val (.ref b9), .val (.ref b11), .unset, .unset, .unset, .unset, .unset] [(.int v2), (.int (1 : Int32)), (.long q1), (.long v14), (.int (1 : Int32)), (.ref b8)])) rfl (by rw [hml]; rfl) (argsL := [(.long v14), (.long q1), (.int (1 : Int32)), (.int v2)]) (rest := [(.int (1 : Int32)), (.ref b8)]) (lenOf pd__28JJII_29J rfl) rfl (by show 2 * 0 + _ ≤ _; exact Nat.le_of_eq rfl) (hb hby at_100) (fun _ _ => ⟨rfl, e17, (by decide : 3 + 0 ≤ _), (by decide : 48 + 0 ≤ _)⟩)
  dsimp only [Pt.U, Pt.locs, Pt.cells, Pt.slots] at X24 l24 y24 z24 st24 hQ24
  subst l24 y24 z24
  obtain ⟨rfl, N24q, e24⟩ := hQ24
  have N24 := Fr.app N23 N24q
  obtain ⟨v25, ev25⟩ : ∃ z : Int64, z = (nextF v14 q1 (1 : Int32) v2) := ⟨_, rfl⟩
  obtain ⟨cl26, Ar26, q26, S26, Nn26, H26, G26⟩ := id V17
  have hin26 : ¬ ((1 : Int32) < 0 ∨ cl26.slots.size ≤ ((1 : Int32)).toNatClampNeg) := inb_of S26 ⟨by decide, by decide⟩
  obtain ⟨T27, h27, X27, e27, W27, st27⟩ := stJ X24 hx hZ e24 Ar26 (j := (1 : Int32)) hin26 (g := (mkF m 103 #[.val (.long q0), .second, .val (.long q1), .second, .val (.long q2), .second, .val (.long q3), .second, .val (.int p4), .val (.int p5), .val (.int v1), .val (.int v2), .val (.int v4), .val (.int v6), .val (.int v7), .val (.ref b8), .val (.ref b9), .val (.ref b11), .unset, .unset, .unset, .unset, .unset] [(.long v25), (.int (1 : Int32)), (.ref b8)])) rfl rfl (hb hby at_103)
  have N27 := Fr.snoc X27 N24 g_b8
  have V27 : Arv Z h27 b8 k8 .long (16 : Int32) [(.long v14), (.long v25), (.long (0 : Int64)), (.long (0 : Int64)), (.long (0 : Int64)), (.long (0 : Int64)), (.long (0 : Int64)), (.long (0 : Int64)), (.long (0 : Int64)), (.long (0 : Int64)), (.long (0 : Int64)), (.long (0 : Int64)), (.long (0 : Int64)), (.long (0 : Int64)), (.long (0 : Int64)), (.long (0 : Int64))] (.long (0 : Int64)) := Arv.set Ar26 q26 S26 Nn26 H26 G26 rfl W27 1 rfl (Nat.le_of_ble_eq_true rfl)
  obtain ⟨cl28, Ar28, -, S28, -, H28, -⟩ := id V27
  have hin28 : ¬ ((1 : Int32) < 0 ∨ cl28.slots.size ≤ ((1 : Int32)).toNatClampNeg) := inb_of S28 ⟨by decide, by decide⟩
  have hat28 : cl28.slots[((1 : Int32)).toNatClampNeg]? = some (.long v25) := Has.at H28 hin28 rfl
  have pre29 : ∀ t, Steps p.tables e below (T27.setTop (mkF m 115 #[.val (.long q0), .second, .val (.long q1), .second, .val (.long q2), .second, .val (.long q3), .second, .val (.int p4), .val (.int p5), .val (.int v1), .val (.int v2), .val (.int v4), .val (.int v6), .val (.int v7), .val (.ref b8), .val (.ref b9), .val (.ref b11), .unset, .unset, .unset, .unset, .unset] [(.int v2), (.int (2 : Int32)), (.long q1), (.long v25), (.int (2 : Int32)), (.ref b8)])) t → Steps p.tables e below (s₁.setTop (entryFrame m #[(.long q0), (.long q1), (.long q2), (.long q3), (.int p4), (.int p5)] maxLocals)) t := fun t kk => pre19 t (by
    show Steps p.tables e below (T17.setTop (mkF m 100 #[.val (.long q0), .second, .val (.long q1), .second, .val (.long q2), .second, .val (.long q3), .second, .val (.int p4), .val (.int p5), .val (.int v1), .val (.int v2), .val (.int v4), .val (.int v6), .val (.int v7), .val (.ref b8), .val (.ref b9), .val (.ref b11), .unset, .unset, .unset, .unset, .unset] [(.int v2), (.int (1 : Int32)), (.long q1), (.long v14), (.int (1 : Int32)), (.ref b8)])) _
    refine st24 _ ?_
    show Steps p.tables e below (T24.setTop (mkF m 103 #[.val (.long q0), .second, .val (.long q1), .second, .val (.long q2), .second, .val (.long q3), .second, .val (.int p4), .val (.int p5), .val (.int v1), .val (.int v2), .val (.int v4), .val (.int v6), .val (.int v7), .val (.ref b8), .val (.ref b9), .val (.ref b11), .unset, .unset, .unset, .unset, .unset] [(.long (nextF v14 q1 (1 : Int32) v2)), (.int (1 : Int32)), (.ref b8)])) _
    rw [← ev25]
    show Steps p.tables e below (T24.setTop (mkF m 103 #[.val (.long q0), .second, .val (.long q1), .second, .val (.long q2), .second, .val (.long q3), .second, .val (.int p4), .val (.int p5), .val (.int v1), .val (.int v2), .val (.int v4), .val (.int v6), .val (.int v7), .val (.ref b8), .val (.ref b9), .val (.ref b11), .unset, .unset, .unset, .unset, .unset] [(.long v25), (.int (1 : Int32)), (.ref b8)])) _
    refine st27 _ ?_
    show Steps p.tables e below (T27.setTop (mkF m 104 #[.val (.long q0), .second, .val (.long q1), .second, .val (.long q2), .second, .val (.long q3), .second, .val (.int p4), .val (.int p5), .val (.int v1), .val (.int v2), .val (.int v4), .val (.int v6), .val (.int v7), .val (.ref b8), .val (.ref b9), .val (.ref b11), .unset, .unset, .unset, .unset, .unset] [])) _
    refine XS.aload X27.here hx rfl (hb hby at_104) rfl rfl ?_
    show Steps p.tables e below (T27.setTop (mkF m 106 #[.val (.long q0), .second, .val (.long q1), .second, .val (.long q2), .second, .val (.long q3), .second, .val (.int p4), .val (.int p5), .val (.int v1), .val (.int v2), .val (.int v4), .val (.int v6), .val (.int v7), .val (.ref b8), .val (.ref b9), .val (.ref b11), .unset, .unset, .unset, .unset, .unset] [(.ref b8)])) _
    refine XS.iconst X27.here hx rfl (hb hby at_106) ?_
    show Steps p.tables e below (T27.setTop (mkF m 107 #[.val (.long q0), .second, .val (.long q1), .second, .val (.long q2), .second, .val (.long q3), .second, .val (.int p4), .val (.int p5), .val (.int v1), .val (.int v2), .val (.int v4), .val (.int v6), .val (.int v7), .val (.ref b8), .val (.ref b9), .val (.ref b11), .unset, .unset, .unset, .unset, .unset] [(.int (2 : Int32)), (.ref b8)])) _
    refine XS.aload X27.here hx rfl (hb hby at_107) rfl rfl ?_
    show Steps p.tables e below (T27.setTop (mkF m 109 #[.val (.long q0), .second, .val (.long q1), .second, .val (.long q2), .second, .val (.long q3), .second, .val (.int p4), .val (.int p5), .val (.int v1), .val (.int v2), .val (.int v4), .val (.int v6), .val (.int v7), .val (.ref b8), .val (.ref b9), .val (.ref b11), .unset, .unset, .unset, .unset, .unset] [(.ref b8), (.int (2 : Int32)), (.ref b8)])) _
    refine XS.iconst X27.here hx rfl (hb hby at_109) ?_
    show Steps p.tables e below (T27.setTop (mkF m 110 #[.val (.long q0), .second, .val (.long q1), .second, .val (.long q2), .second, .val (.long q3), .second, .val (.int p4), .val (.int p5), .val (.int v1), .val (.int v2), .val (.int v4), .val (.int v6), .val (.int v7), .val (.ref b8), .val (.ref b9), .val (.ref b11), .unset, .unset, .unset, .unset, .unset] [(.int (1 : Int32)), (.ref b8), (.int (2 : Int32)), (.ref b8)])) _
    refine X27.laload hx (j := (1 : Int32)) (v := (.long v25)) (by rw [e27]; exact Ar28.1) (State.isArrayOf_alike hZ.alike Ar28.2.1) Ar28.2.2 hin28 hat28 (g := (mkF m 110 #[.val (.long q0), .second, .val (.long q1), .second, .val (.long q2), .second, .val (.long q3), .second, .val (.int p4), .val (.int p5), .val (.int v1), .val (.int v2), .val (.int v4), .val (.int v6), .val (.int v7), .val (.ref b8), .val (.ref b9), .val (.ref b11), .unset, .unset, .unset, .unset, .unset] [(.int (1 : Int32)), (.ref b8), (.int (2 : Int32)), (.ref b8)])) rfl rfl (hb hby at_110) _ ?_
    show Steps p.tables e below (T27.setTop (mkF m 111 #[.val (.long q0), .second, .val (.long q1), .second, .val (.long q2), .second, .val (.long q3), .second, .val (.int p4), .val (.int p5), .val (.int v1), .val (.int v2), .val (.int v4), .val (.int v6), .val (.int v7), .val (.ref b8), .val (.ref b9), .val (.ref b11), .unset, .unset, .unset, .unset, .unset] [(.long v25), (.int (2 : Int32)), (.ref b8)])) _
    refine XS.lloadN X27.here hx rfl (hb hby at_111) rfl ?_
    show Steps p.tables e below (T27.setTop (mkF m 112 #[.val (.long q0), .second, .val (.long q1), .second, .val (.long q2), .second, .val (.long q3), .second, .val (.int p4), .val (.int p5), .val (.int v1), .val (.int v2), .val (.int v4), .val (.int v6), .val (.int v7), .val (.ref b8), .val (.ref b9), .val (.ref b11), .unset, .unset, .unset, .unset, .unset] [(.long q1), (.long v25), (.int (2 : Int32)), (.ref b8)])) _
    refine XS.iconst X27.here hx rfl (hb hby at_112) ?_
    show Steps p.tables e below (T27.setTop (mkF m 113 #[.val (.long q0), .second, .val (.long q1), .second, .val (.long q2), .second, .val (.long q3), .second, .val (.int p4), .val (.int p5), .val (.int v1), .val (.int v2), .val (.int v4), .val (.int v6), .val (.int v7), .val (.ref b8), .val (.ref b9), .val (.ref b11), .unset, .unset, .unset, .unset, .unset] [(.int (2 : Int32)), (.long q1), (.long v25), (.int (2 : Int32)), (.ref b8)])) _
    refine XS.iload X27.here hx rfl (hb hby at_113) rfl ?_
    exact kk)
  have Zz30 := (Nat.le_trans Zz20 (Keep.of_wr W27).1)
  have Av31 := (Av21.other W27 (Ne.symm ne_b8_b9))
  have Av32 := (Av22.other W27 (Ne.symm ne_b8_b11))
  obtain ⟨Lg33, X33, N33⟩ : ∃ L' : List Loc, Stand p l e room_1 s m #[(.long q0), (.long q1), (.long q2), (.long q3), (.int p4), (.int p5)] below meth c T27 L' 3 48 ∧ Fr n0 L' := ⟨_, X27, N27⟩
  (try clear e17); (try clear V17); (try clear pre19); (try clear Zz20); (try clear Av21); (try clear Av22); (try clear X23); (try clear N23); (try clear X24); (try clear st24); (try clear N24q); (try clear e24); (try clear N24); (try clear Ar26); (try clear q26); (try clear S26); (try clear Nn26); (try clear H26); (try clear G26); (try clear hin26); (try clear X27); (try clear W27); (try clear st27); (try clear N27); (try clear Ar28); (try clear S28); (try clear H28); (try clear hin28); (try clear hat28)
  obtain ⟨_, _, ⟨T34, L34, k34, n34⟩, -, X34, ⟨Lc34, hQ34, l34, y34, z34⟩, st34⟩ := Jvm.LawKit.callS X33 hx (y := (⟨"com/example/copyleaf/copyleaf/page/PageFirstAtLeastPinLaw", "next", "(JJII)J"⟩ : MethodName)) hown (mvT hZ (hw _ (List.mem_of_getElem? (i := 3) rfl))) (mvT hZ (hw _ (List.mem_of_getElem? (i := 4) rfl))) (mvT hZ (hw _ (List.mem_of_getElem? (i := 5) rfl))) (mvT hZ (hw _ (List.mem_of_getElem? (i := 6) rfl))) (by decide) (backOf (W := 2) (rm1 l Z a0 hw [] v25 q1 (2 : Int32) v2 h27 n0 Zz30) hZ (hw _ (List.mem_of_getElem? (i := 6) rfl)) (hw _ (List.mem_of_getElem? (i := 5) rfl)) (by decide) (by decide)) (g := (mkF m 115 #[.val (.long q0), .second, .val (.long q1), .second, .val (.long q2), .second, .val (.long q3), .second, .val (.int p4), .val (.int p5), .val (.int v1), .val (.int v2), .val (.int v4), .val (.int v6), .val (.int v7), .val (.ref b8), .val (.ref b9), .val (.ref b11), .unset, .unset, .unset, .unset, .unset] [(.int v2), (.int (2 : Int32)), (.long q1), (.long v25), (.int (2 : Int32)), (.ref b8)])) rfl (by rw [hml]; rfl) (argsL := [(.long v25), (.long q1), (.int (2 : Int32)), (.int v2)]) (rest := [(.int (2 : Int32)), (.ref b8)]) (lenOf pd__28JJII_29J rfl) rfl (by show 2 * 0 + _ ≤ _; exact Nat.le_of_eq rfl) (hb hby at_115) (fun _ _ => ⟨rfl, e27, (by decide : 3 + 0 ≤ _), (by decide : 48 + 0 ≤ _)⟩)
  dsimp only [Pt.U, Pt.locs, Pt.cells, Pt.slots] at X34 l34 y34 z34 st34 hQ34
  subst l34 y34 z34
  obtain ⟨rfl, N34q, e34⟩ := hQ34
  have N34 := Fr.app N33 N34q
  obtain ⟨v35, ev35⟩ : ∃ z : Int64, z = (nextF v25 q1 (2 : Int32) v2) := ⟨_, rfl⟩
  obtain ⟨cl36, Ar36, q36, S36, Nn36, H36, G36⟩ := id V27
  have hin36 : ¬ ((2 : Int32) < 0 ∨ cl36.slots.size ≤ ((2 : Int32)).toNatClampNeg) := inb_of S36 ⟨by decide, by decide⟩
  obtain ⟨T37, h37, X37, e37, W37, st37⟩ := stJ X34 hx hZ e34 Ar36 (j := (2 : Int32)) hin36 (g := (mkF m 118 #[.val (.long q0), .second, .val (.long q1), .second, .val (.long q2), .second, .val (.long q3), .second, .val (.int p4), .val (.int p5), .val (.int v1), .val (.int v2), .val (.int v4), .val (.int v6), .val (.int v7), .val (.ref b8), .val (.ref b9), .val (.ref b11), .unset, .unset, .unset, .unset, .unset] [(.long v35), (.int (2 : Int32)), (.ref b8)])) rfl rfl (hb hby at_118)
  have N37 := Fr.snoc X37 N34 g_b8
  have V37 : Arv Z h37 b8 k8 .long (16 : Int32) [(.long v14), (.long v25), (.long v35), (.long (0 : Int64)), (.long (0 : Int64)), (.long (0 : Int64)), (.long (0 : Int64)), (.long (0 : Int64)), (.long (0 : Int64)), (.long (0 : Int64)), (.long (0 : Int64)), (.long (0 : Int64)), (.long (0 : Int64)), (.long (0 : Int64)), (.long (0 : Int64)), (.long (0 : Int64))] (.long (0 : Int64)) := Arv.set Ar36 q36 S36 Nn36 H36 G36 rfl W37 2 rfl (Nat.le_of_ble_eq_true rfl)
  obtain ⟨cl38, Ar38, -, S38, -, H38, -⟩ := id V37
  have hin38 : ¬ ((2 : Int32) < 0 ∨ cl38.slots.size ≤ ((2 : Int32)).toNatClampNeg) := inb_of S38 ⟨by decide, by decide⟩
  have hat38 : cl38.slots[((2 : Int32)).toNatClampNeg]? = some (.long v35) := Has.at H38 hin38 rfl
  have pre39 : ∀ t, Steps p.tables e below (T37.setTop (mkF m 130 #[.val (.long q0), .second, .val (.long q1), .second, .val (.long q2), .second, .val (.long q3), .second, .val (.int p4), .val (.int p5), .val (.int v1), .val (.int v2), .val (.int v4), .val (.int v6), .val (.int v7), .val (.ref b8), .val (.ref b9), .val (.ref b11), .unset, .unset, .unset, .unset, .unset] [(.int v2), (.int (3 : Int32)), (.long q1), (.long v35), (.int (3 : Int32)), (.ref b8)])) t → Steps p.tables e below (s₁.setTop (entryFrame m #[(.long q0), (.long q1), (.long q2), (.long q3), (.int p4), (.int p5)] maxLocals)) t := fun t kk => pre29 t (by
    show Steps p.tables e below (T27.setTop (mkF m 115 #[.val (.long q0), .second, .val (.long q1), .second, .val (.long q2), .second, .val (.long q3), .second, .val (.int p4), .val (.int p5), .val (.int v1), .val (.int v2), .val (.int v4), .val (.int v6), .val (.int v7), .val (.ref b8), .val (.ref b9), .val (.ref b11), .unset, .unset, .unset, .unset, .unset] [(.int v2), (.int (2 : Int32)), (.long q1), (.long v25), (.int (2 : Int32)), (.ref b8)])) _
    refine st34 _ ?_
    show Steps p.tables e below (T34.setTop (mkF m 118 #[.val (.long q0), .second, .val (.long q1), .second, .val (.long q2), .second, .val (.long q3), .second, .val (.int p4), .val (.int p5), .val (.int v1), .val (.int v2), .val (.int v4), .val (.int v6), .val (.int v7), .val (.ref b8), .val (.ref b9), .val (.ref b11), .unset, .unset, .unset, .unset, .unset] [(.long (nextF v25 q1 (2 : Int32) v2)), (.int (2 : Int32)), (.ref b8)])) _
    rw [← ev35]
    show Steps p.tables e below (T34.setTop (mkF m 118 #[.val (.long q0), .second, .val (.long q1), .second, .val (.long q2), .second, .val (.long q3), .second, .val (.int p4), .val (.int p5), .val (.int v1), .val (.int v2), .val (.int v4), .val (.int v6), .val (.int v7), .val (.ref b8), .val (.ref b9), .val (.ref b11), .unset, .unset, .unset, .unset, .unset] [(.long v35), (.int (2 : Int32)), (.ref b8)])) _
    refine st37 _ ?_
    show Steps p.tables e below (T37.setTop (mkF m 119 #[.val (.long q0), .second, .val (.long q1), .second, .val (.long q2), .second, .val (.long q3), .second, .val (.int p4), .val (.int p5), .val (.int v1), .val (.int v2), .val (.int v4), .val (.int v6), .val (.int v7), .val (.ref b8), .val (.ref b9), .val (.ref b11), .unset, .unset, .unset, .unset, .unset] [])) _
    refine XS.aload X37.here hx rfl (hb hby at_119) rfl rfl ?_
    show Steps p.tables e below (T37.setTop (mkF m 121 #[.val (.long q0), .second, .val (.long q1), .second, .val (.long q2), .second, .val (.long q3), .second, .val (.int p4), .val (.int p5), .val (.int v1), .val (.int v2), .val (.int v4), .val (.int v6), .val (.int v7), .val (.ref b8), .val (.ref b9), .val (.ref b11), .unset, .unset, .unset, .unset, .unset] [(.ref b8)])) _
    refine XS.iconst X37.here hx rfl (hb hby at_121) ?_
    show Steps p.tables e below (T37.setTop (mkF m 122 #[.val (.long q0), .second, .val (.long q1), .second, .val (.long q2), .second, .val (.long q3), .second, .val (.int p4), .val (.int p5), .val (.int v1), .val (.int v2), .val (.int v4), .val (.int v6), .val (.int v7), .val (.ref b8), .val (.ref b9), .val (.ref b11), .unset, .unset, .unset, .unset, .unset] [(.int (3 : Int32)), (.ref b8)])) _
    refine XS.aload X37.here hx rfl (hb hby at_122) rfl rfl ?_
    show Steps p.tables e below (T37.setTop (mkF m 124 #[.val (.long q0), .second, .val (.long q1), .second, .val (.long q2), .second, .val (.long q3), .second, .val (.int p4), .val (.int p5), .val (.int v1), .val (.int v2), .val (.int v4), .val (.int v6), .val (.int v7), .val (.ref b8), .val (.ref b9), .val (.ref b11), .unset, .unset, .unset, .unset, .unset] [(.ref b8), (.int (3 : Int32)), (.ref b8)])) _
    refine XS.iconst X37.here hx rfl (hb hby at_124) ?_
    show Steps p.tables e below (T37.setTop (mkF m 125 #[.val (.long q0), .second, .val (.long q1), .second, .val (.long q2), .second, .val (.long q3), .second, .val (.int p4), .val (.int p5), .val (.int v1), .val (.int v2), .val (.int v4), .val (.int v6), .val (.int v7), .val (.ref b8), .val (.ref b9), .val (.ref b11), .unset, .unset, .unset, .unset, .unset] [(.int (2 : Int32)), (.ref b8), (.int (3 : Int32)), (.ref b8)])) _
    refine X37.laload hx (j := (2 : Int32)) (v := (.long v35)) (by rw [e37]; exact Ar38.1) (State.isArrayOf_alike hZ.alike Ar38.2.1) Ar38.2.2 hin38 hat38 (g := (mkF m 125 #[.val (.long q0), .second, .val (.long q1), .second, .val (.long q2), .second, .val (.long q3), .second, .val (.int p4), .val (.int p5), .val (.int v1), .val (.int v2), .val (.int v4), .val (.int v6), .val (.int v7), .val (.ref b8), .val (.ref b9), .val (.ref b11), .unset, .unset, .unset, .unset, .unset] [(.int (2 : Int32)), (.ref b8), (.int (3 : Int32)), (.ref b8)])) rfl rfl (hb hby at_125) _ ?_
    show Steps p.tables e below (T37.setTop (mkF m 126 #[.val (.long q0), .second, .val (.long q1), .second, .val (.long q2), .second, .val (.long q3), .second, .val (.int p4), .val (.int p5), .val (.int v1), .val (.int v2), .val (.int v4), .val (.int v6), .val (.int v7), .val (.ref b8), .val (.ref b9), .val (.ref b11), .unset, .unset, .unset, .unset, .unset] [(.long v35), (.int (3 : Int32)), (.ref b8)])) _
    refine XS.lloadN X37.here hx rfl (hb hby at_126) rfl ?_
    show Steps p.tables e below (T37.setTop (mkF m 127 #[.val (.long q0), .second, .val (.long q1), .second, .val (.long q2), .second, .val (.long q3), .second, .val (.int p4), .val (.int p5), .val (.int v1), .val (.int v2), .val (.int v4), .val (.int v6), .val (.int v7), .val (.ref b8), .val (.ref b9), .val (.ref b11), .unset, .unset, .unset, .unset, .unset] [(.long q1), (.long v35), (.int (3 : Int32)), (.ref b8)])) _
    refine XS.iconst X37.here hx rfl (hb hby at_127) ?_
    show Steps p.tables e below (T37.setTop (mkF m 128 #[.val (.long q0), .second, .val (.long q1), .second, .val (.long q2), .second, .val (.long q3), .second, .val (.int p4), .val (.int p5), .val (.int v1), .val (.int v2), .val (.int v4), .val (.int v6), .val (.int v7), .val (.ref b8), .val (.ref b9), .val (.ref b11), .unset, .unset, .unset, .unset, .unset] [(.int (3 : Int32)), (.long q1), (.long v35), (.int (3 : Int32)), (.ref b8)])) _
    refine XS.iload X37.here hx rfl (hb hby at_128) rfl ?_
    exact kk)
  have Zz40 := (Nat.le_trans Zz30 (Keep.of_wr W37).1)
  have Av41 := (Av31.other W37 (Ne.symm ne_b8_b9))
  have Av42 := (Av32.other W37 (Ne.symm ne_b8_b11))
  obtain ⟨Lg43, X43, N43⟩ : ∃ L' : List Loc, Stand p l e room_1 s m #[(.long q0), (.long q1), (.long q2), (.long q3), (.int p4), (.int p5)] below meth c T37 L' 3 48 ∧ Fr n0 L' := ⟨_, X37, N37⟩
  (try clear e27); (try clear V27); (try clear pre29); (try clear Zz30); (try clear Av31); (try clear Av32); (try clear X33); (try clear N33); (try clear X34); (try clear st34); (try clear N34q); (try clear e34); (try clear N34); (try clear Ar36); (try clear q36); (try clear S36); (try clear Nn36); (try clear H36); (try clear G36); (try clear hin36); (try clear X37); (try clear W37); (try clear st37); (try clear N37); (try clear Ar38); (try clear S38); (try clear H38); (try clear hin38); (try clear hat38)
  obtain ⟨_, _, ⟨T44, L44, k44, n44⟩, -, X44, ⟨Lc44, hQ44, l44, y44, z44⟩, st44⟩ := Jvm.LawKit.callS X43 hx (y := (⟨"com/example/copyleaf/copyleaf/page/PageFirstAtLeastPinLaw", "next", "(JJII)J"⟩ : MethodName)) hown (mvT hZ (hw _ (List.mem_of_getElem? (i := 3) rfl))) (mvT hZ (hw _ (List.mem_of_getElem? (i := 4) rfl))) (mvT hZ (hw _ (List.mem_of_getElem? (i := 5) rfl))) (mvT hZ (hw _ (List.mem_of_getElem? (i := 6) rfl))) (by decide) (backOf (W := 2) (rm1 l Z a0 hw [] v35 q1 (3 : Int32) v2 h37 n0 Zz40) hZ (hw _ (List.mem_of_getElem? (i := 6) rfl)) (hw _ (List.mem_of_getElem? (i := 5) rfl)) (by decide) (by decide)) (g := (mkF m 130 #[.val (.long q0), .second, .val (.long q1), .second, .val (.long q2), .second, .val (.long q3), .second, .val (.int p4), .val (.int p5), .val (.int v1), .val (.int v2), .val (.int v4), .val (.int v6), .val (.int v7), .val (.ref b8), .val (.ref b9), .val (.ref b11), .unset, .unset, .unset, .unset, .unset] [(.int v2), (.int (3 : Int32)), (.long q1), (.long v35), (.int (3 : Int32)), (.ref b8)])) rfl (by rw [hml]; rfl) (argsL := [(.long v35), (.long q1), (.int (3 : Int32)), (.int v2)]) (rest := [(.int (3 : Int32)), (.ref b8)]) (lenOf pd__28JJII_29J rfl) rfl (by show 2 * 0 + _ ≤ _; exact Nat.le_of_eq rfl) (hb hby at_130) (fun _ _ => ⟨rfl, e37, (by decide : 3 + 0 ≤ _), (by decide : 48 + 0 ≤ _)⟩)
  dsimp only [Pt.U, Pt.locs, Pt.cells, Pt.slots] at X44 l44 y44 z44 st44 hQ44
  subst l44 y44 z44
  obtain ⟨rfl, N44q, e44⟩ := hQ44
  have N44 := Fr.app N43 N44q
  obtain ⟨v45, ev45⟩ : ∃ z : Int64, z = (nextF v35 q1 (3 : Int32) v2) := ⟨_, rfl⟩
  obtain ⟨cl46, Ar46, q46, S46, Nn46, H46, G46⟩ := id V37
  have hin46 : ¬ ((3 : Int32) < 0 ∨ cl46.slots.size ≤ ((3 : Int32)).toNatClampNeg) := inb_of S46 ⟨by decide, by decide⟩
  obtain ⟨T47, h47, X47, e47, W47, st47⟩ := stJ X44 hx hZ e44 Ar46 (j := (3 : Int32)) hin46 (g := (mkF m 133 #[.val (.long q0), .second, .val (.long q1), .second, .val (.long q2), .second, .val (.long q3), .second, .val (.int p4), .val (.int p5), .val (.int v1), .val (.int v2), .val (.int v4), .val (.int v6), .val (.int v7), .val (.ref b8), .val (.ref b9), .val (.ref b11), .unset, .unset, .unset, .unset, .unset] [(.long v45), (.int (3 : Int32)), (.ref b8)])) rfl rfl (hb hby at_133)
  have N47 := Fr.snoc X47 N44 g_b8
  have V47 : Arv Z h47 b8 k8 .long (16 : Int32) [(.long v14), (.long v25), (.long v35), (.long v45), (.long (0 : Int64)), (.long (0 : Int64)), (.long (0 : Int64)), (.long (0 : Int64)), (.long (0 : Int64)), (.long (0 : Int64)), (.long (0 : Int64)), (.long (0 : Int64)), (.long (0 : Int64)), (.long (0 : Int64)), (.long (0 : Int64)), (.long (0 : Int64))] (.long (0 : Int64)) := Arv.set Ar46 q46 S46 Nn46 H46 G46 rfl W47 3 rfl (Nat.le_of_ble_eq_true rfl)
  obtain ⟨cl48, Ar48, -, S48, -, H48, -⟩ := id V47
  have hin48 : ¬ ((3 : Int32) < 0 ∨ cl48.slots.size ≤ ((3 : Int32)).toNatClampNeg) := inb_of S48 ⟨by decide, by decide⟩
  have hat48 : cl48.slots[((3 : Int32)).toNatClampNeg]? = some (.long v45) := Has.at H48 hin48 rfl
  have pre49 : ∀ t, Steps p.tables e below (T47.setTop (mkF m 145 #[.val (.long q0), .second, .val (.long q1), .second, .val (.long q2), .second, .val (.long q3), .second, .val (.int p4), .val (.int p5), .val (.int v1), .val (.int v2), .val (.int v4), .val (.int v6), .val (.int v7), .val (.ref b8), .val (.ref b9), .val (.ref b11), .unset, .unset, .unset, .unset, .unset] [(.int v2), (.int (4 : Int32)), (.long q1), (.long v45), (.int (4 : Int32)), (.ref b8)])) t → Steps p.tables e below (s₁.setTop (entryFrame m #[(.long q0), (.long q1), (.long q2), (.long q3), (.int p4), (.int p5)] maxLocals)) t := fun t kk => pre39 t (by
    show Steps p.tables e below (T37.setTop (mkF m 130 #[.val (.long q0), .second, .val (.long q1), .second, .val (.long q2), .second, .val (.long q3), .second, .val (.int p4), .val (.int p5), .val (.int v1), .val (.int v2), .val (.int v4), .val (.int v6), .val (.int v7), .val (.ref b8), .val (.ref b9), .val (.ref b11), .unset, .unset, .unset, .unset, .unset] [(.int v2), (.int (3 : Int32)), (.long q1), (.long v35), (.int (3 : Int32)), (.ref b8)])) _
    refine st44 _ ?_
    show Steps p.tables e below (T44.setTop (mkF m 133 #[.val (.long q0), .second, .val (.long q1), .second, .val (.long q2), .second, .val (.long q3), .second, .val (.int p4), .val (.int p5), .val (.int v1), .val (.int v2), .val (.int v4), .val (.int v6), .val (.int v7), .val (.ref b8), .val (.ref b9), .val (.ref b11), .unset, .unset, .unset, .unset, .unset] [(.long (nextF v35 q1 (3 : Int32) v2)), (.int (3 : Int32)), (.ref b8)])) _
    rw [← ev45]
    show Steps p.tables e below (T44.setTop (mkF m 133 #[.val (.long q0), .second, .val (.long q1), .second, .val (.long q2), .second, .val (.long q3), .second, .val (.int p4), .val (.int p5), .val (.int v1), .val (.int v2), .val (.int v4), .val (.int v6), .val (.int v7), .val (.ref b8), .val (.ref b9), .val (.ref b11), .unset, .unset, .unset, .unset, .unset] [(.long v45), (.int (3 : Int32)), (.ref b8)])) _
    refine st47 _ ?_
    show Steps p.tables e below (T47.setTop (mkF m 134 #[.val (.long q0), .second, .val (.long q1), .second, .val (.long q2), .second, .val (.long q3), .second, .val (.int p4), .val (.int p5), .val (.int v1), .val (.int v2), .val (.int v4), .val (.int v6), .val (.int v7), .val (.ref b8), .val (.ref b9), .val (.ref b11), .unset, .unset, .unset, .unset, .unset] [])) _
    refine XS.aload X47.here hx rfl (hb hby at_134) rfl rfl ?_
    show Steps p.tables e below (T47.setTop (mkF m 136 #[.val (.long q0), .second, .val (.long q1), .second, .val (.long q2), .second, .val (.long q3), .second, .val (.int p4), .val (.int p5), .val (.int v1), .val (.int v2), .val (.int v4), .val (.int v6), .val (.int v7), .val (.ref b8), .val (.ref b9), .val (.ref b11), .unset, .unset, .unset, .unset, .unset] [(.ref b8)])) _
    refine XS.iconst X47.here hx rfl (hb hby at_136) ?_
    show Steps p.tables e below (T47.setTop (mkF m 137 #[.val (.long q0), .second, .val (.long q1), .second, .val (.long q2), .second, .val (.long q3), .second, .val (.int p4), .val (.int p5), .val (.int v1), .val (.int v2), .val (.int v4), .val (.int v6), .val (.int v7), .val (.ref b8), .val (.ref b9), .val (.ref b11), .unset, .unset, .unset, .unset, .unset] [(.int (4 : Int32)), (.ref b8)])) _
    refine XS.aload X47.here hx rfl (hb hby at_137) rfl rfl ?_
    show Steps p.tables e below (T47.setTop (mkF m 139 #[.val (.long q0), .second, .val (.long q1), .second, .val (.long q2), .second, .val (.long q3), .second, .val (.int p4), .val (.int p5), .val (.int v1), .val (.int v2), .val (.int v4), .val (.int v6), .val (.int v7), .val (.ref b8), .val (.ref b9), .val (.ref b11), .unset, .unset, .unset, .unset, .unset] [(.ref b8), (.int (4 : Int32)), (.ref b8)])) _
    refine XS.iconst X47.here hx rfl (hb hby at_139) ?_
    show Steps p.tables e below (T47.setTop (mkF m 140 #[.val (.long q0), .second, .val (.long q1), .second, .val (.long q2), .second, .val (.long q3), .second, .val (.int p4), .val (.int p5), .val (.int v1), .val (.int v2), .val (.int v4), .val (.int v6), .val (.int v7), .val (.ref b8), .val (.ref b9), .val (.ref b11), .unset, .unset, .unset, .unset, .unset] [(.int (3 : Int32)), (.ref b8), (.int (4 : Int32)), (.ref b8)])) _
    refine X47.laload hx (j := (3 : Int32)) (v := (.long v45)) (by rw [e47]; exact Ar48.1) (State.isArrayOf_alike hZ.alike Ar48.2.1) Ar48.2.2 hin48 hat48 (g := (mkF m 140 #[.val (.long q0), .second, .val (.long q1), .second, .val (.long q2), .second, .val (.long q3), .second, .val (.int p4), .val (.int p5), .val (.int v1), .val (.int v2), .val (.int v4), .val (.int v6), .val (.int v7), .val (.ref b8), .val (.ref b9), .val (.ref b11), .unset, .unset, .unset, .unset, .unset] [(.int (3 : Int32)), (.ref b8), (.int (4 : Int32)), (.ref b8)])) rfl rfl (hb hby at_140) _ ?_
    show Steps p.tables e below (T47.setTop (mkF m 141 #[.val (.long q0), .second, .val (.long q1), .second, .val (.long q2), .second, .val (.long q3), .second, .val (.int p4), .val (.int p5), .val (.int v1), .val (.int v2), .val (.int v4), .val (.int v6), .val (.int v7), .val (.ref b8), .val (.ref b9), .val (.ref b11), .unset, .unset, .unset, .unset, .unset] [(.long v45), (.int (4 : Int32)), (.ref b8)])) _
    refine XS.lloadN X47.here hx rfl (hb hby at_141) rfl ?_
    show Steps p.tables e below (T47.setTop (mkF m 142 #[.val (.long q0), .second, .val (.long q1), .second, .val (.long q2), .second, .val (.long q3), .second, .val (.int p4), .val (.int p5), .val (.int v1), .val (.int v2), .val (.int v4), .val (.int v6), .val (.int v7), .val (.ref b8), .val (.ref b9), .val (.ref b11), .unset, .unset, .unset, .unset, .unset] [(.long q1), (.long v45), (.int (4 : Int32)), (.ref b8)])) _
    refine XS.iconst X47.here hx rfl (hb hby at_142) ?_
    show Steps p.tables e below (T47.setTop (mkF m 143 #[.val (.long q0), .second, .val (.long q1), .second, .val (.long q2), .second, .val (.long q3), .second, .val (.int p4), .val (.int p5), .val (.int v1), .val (.int v2), .val (.int v4), .val (.int v6), .val (.int v7), .val (.ref b8), .val (.ref b9), .val (.ref b11), .unset, .unset, .unset, .unset, .unset] [(.int (4 : Int32)), (.long q1), (.long v45), (.int (4 : Int32)), (.ref b8)])) _
    refine XS.iload X47.here hx rfl (hb hby at_143) rfl ?_
    exact kk)
  have Zz50 := (Nat.le_trans Zz40 (Keep.of_wr W47).1)
  have Av51 := (Av41.other W47 (Ne.symm ne_b8_b9))
  have Av52 := (Av42.other W47 (Ne.symm ne_b8_b11))
  obtain ⟨Lg53, X53, N53⟩ : ∃ L' : List Loc, Stand p l e room_1 s m #[(.long q0), (.long q1), (.long q2), (.long q3), (.int p4), (.int p5)] below meth c T47 L' 3 48 ∧ Fr n0 L' := ⟨_, X47, N47⟩
  (try clear e37); (try clear V37); (try clear pre39); (try clear Zz40); (try clear Av41); (try clear Av42); (try clear X43); (try clear N43); (try clear X44); (try clear st44); (try clear N44q); (try clear e44); (try clear N44); (try clear Ar46); (try clear q46); (try clear S46); (try clear Nn46); (try clear H46); (try clear G46); (try clear hin46); (try clear X47); (try clear W47); (try clear st47); (try clear N47); (try clear Ar48); (try clear S48); (try clear H48); (try clear hin48); (try clear hat48)
  obtain ⟨_, _, ⟨T54, L54, k54, n54⟩, -, X54, ⟨Lc54, hQ54, l54, y54, z54⟩, st54⟩ := Jvm.LawKit.callS X53 hx (y := (⟨"com/example/copyleaf/copyleaf/page/PageFirstAtLeastPinLaw", "next", "(JJII)J"⟩ : MethodName)) hown (mvT hZ (hw _ (List.mem_of_getElem? (i := 3) rfl))) (mvT hZ (hw _ (List.mem_of_getElem? (i := 4) rfl))) (mvT hZ (hw _ (List.mem_of_getElem? (i := 5) rfl))) (mvT hZ (hw _ (List.mem_of_getElem? (i := 6) rfl))) (by decide) (backOf (W := 2) (rm1 l Z a0 hw [] v45 q1 (4 : Int32) v2 h47 n0 Zz50) hZ (hw _ (List.mem_of_getElem? (i := 6) rfl)) (hw _ (List.mem_of_getElem? (i := 5) rfl)) (by decide) (by decide)) (g := (mkF m 145 #[.val (.long q0), .second, .val (.long q1), .second, .val (.long q2), .second, .val (.long q3), .second, .val (.int p4), .val (.int p5), .val (.int v1), .val (.int v2), .val (.int v4), .val (.int v6), .val (.int v7), .val (.ref b8), .val (.ref b9), .val (.ref b11), .unset, .unset, .unset, .unset, .unset] [(.int v2), (.int (4 : Int32)), (.long q1), (.long v45), (.int (4 : Int32)), (.ref b8)])) rfl (by rw [hml]; rfl) (argsL := [(.long v45), (.long q1), (.int (4 : Int32)), (.int v2)]) (rest := [(.int (4 : Int32)), (.ref b8)]) (lenOf pd__28JJII_29J rfl) rfl (by show 2 * 0 + _ ≤ _; exact Nat.le_of_eq rfl) (hb hby at_145) (fun _ _ => ⟨rfl, e47, (by decide : 3 + 0 ≤ _), (by decide : 48 + 0 ≤ _)⟩)
  dsimp only [Pt.U, Pt.locs, Pt.cells, Pt.slots] at X54 l54 y54 z54 st54 hQ54
  subst l54 y54 z54
  obtain ⟨rfl, N54q, e54⟩ := hQ54
  have N54 := Fr.app N53 N54q
  obtain ⟨v55, ev55⟩ : ∃ z : Int64, z = (nextF v45 q1 (4 : Int32) v2) := ⟨_, rfl⟩
  obtain ⟨cl56, Ar56, q56, S56, Nn56, H56, G56⟩ := id V47
  have hin56 : ¬ ((4 : Int32) < 0 ∨ cl56.slots.size ≤ ((4 : Int32)).toNatClampNeg) := inb_of S56 ⟨by decide, by decide⟩
  obtain ⟨T57, h57, X57, e57, W57, st57⟩ := stJ X54 hx hZ e54 Ar56 (j := (4 : Int32)) hin56 (g := (mkF m 148 #[.val (.long q0), .second, .val (.long q1), .second, .val (.long q2), .second, .val (.long q3), .second, .val (.int p4), .val (.int p5), .val (.int v1), .val (.int v2), .val (.int v4), .val (.int v6), .val (.int v7), .val (.ref b8), .val (.ref b9), .val (.ref b11), .unset, .unset, .unset, .unset, .unset] [(.long v55), (.int (4 : Int32)), (.ref b8)])) rfl rfl (hb hby at_148)
  have N57 := Fr.snoc X57 N54 g_b8
  have V57 : Arv Z h57 b8 k8 .long (16 : Int32) [(.long v14), (.long v25), (.long v35), (.long v45), (.long v55), (.long (0 : Int64)), (.long (0 : Int64)), (.long (0 : Int64)), (.long (0 : Int64)), (.long (0 : Int64)), (.long (0 : Int64)), (.long (0 : Int64)), (.long (0 : Int64)), (.long (0 : Int64)), (.long (0 : Int64)), (.long (0 : Int64))] (.long (0 : Int64)) := Arv.set Ar56 q56 S56 Nn56 H56 G56 rfl W57 4 rfl (Nat.le_of_ble_eq_true rfl)
  obtain ⟨cl58, Ar58, -, S58, -, H58, -⟩ := id V57
  have hin58 : ¬ ((4 : Int32) < 0 ∨ cl58.slots.size ≤ ((4 : Int32)).toNatClampNeg) := inb_of S58 ⟨by decide, by decide⟩
  have hat58 : cl58.slots[((4 : Int32)).toNatClampNeg]? = some (.long v55) := Has.at H58 hin58 rfl
  have pre59 : ∀ t, Steps p.tables e below (T57.setTop (mkF m 160 #[.val (.long q0), .second, .val (.long q1), .second, .val (.long q2), .second, .val (.long q3), .second, .val (.int p4), .val (.int p5), .val (.int v1), .val (.int v2), .val (.int v4), .val (.int v6), .val (.int v7), .val (.ref b8), .val (.ref b9), .val (.ref b11), .unset, .unset, .unset, .unset, .unset] [(.int v2), (.int (5 : Int32)), (.long q1), (.long v55), (.int (5 : Int32)), (.ref b8)])) t → Steps p.tables e below (s₁.setTop (entryFrame m #[(.long q0), (.long q1), (.long q2), (.long q3), (.int p4), (.int p5)] maxLocals)) t := fun t kk => pre49 t (by
    show Steps p.tables e below (T47.setTop (mkF m 145 #[.val (.long q0), .second, .val (.long q1), .second, .val (.long q2), .second, .val (.long q3), .second, .val (.int p4), .val (.int p5), .val (.int v1), .val (.int v2), .val (.int v4), .val (.int v6), .val (.int v7), .val (.ref b8), .val (.ref b9), .val (.ref b11), .unset, .unset, .unset, .unset, .unset] [(.int v2), (.int (4 : Int32)), (.long q1), (.long v45), (.int (4 : Int32)), (.ref b8)])) _
    refine st54 _ ?_
    show Steps p.tables e below (T54.setTop (mkF m 148 #[.val (.long q0), .second, .val (.long q1), .second, .val (.long q2), .second, .val (.long q3), .second, .val (.int p4), .val (.int p5), .val (.int v1), .val (.int v2), .val (.int v4), .val (.int v6), .val (.int v7), .val (.ref b8), .val (.ref b9), .val (.ref b11), .unset, .unset, .unset, .unset, .unset] [(.long (nextF v45 q1 (4 : Int32) v2)), (.int (4 : Int32)), (.ref b8)])) _
    rw [← ev55]
    show Steps p.tables e below (T54.setTop (mkF m 148 #[.val (.long q0), .second, .val (.long q1), .second, .val (.long q2), .second, .val (.long q3), .second, .val (.int p4), .val (.int p5), .val (.int v1), .val (.int v2), .val (.int v4), .val (.int v6), .val (.int v7), .val (.ref b8), .val (.ref b9), .val (.ref b11), .unset, .unset, .unset, .unset, .unset] [(.long v55), (.int (4 : Int32)), (.ref b8)])) _
    refine st57 _ ?_
    show Steps p.tables e below (T57.setTop (mkF m 149 #[.val (.long q0), .second, .val (.long q1), .second, .val (.long q2), .second, .val (.long q3), .second, .val (.int p4), .val (.int p5), .val (.int v1), .val (.int v2), .val (.int v4), .val (.int v6), .val (.int v7), .val (.ref b8), .val (.ref b9), .val (.ref b11), .unset, .unset, .unset, .unset, .unset] [])) _
    refine XS.aload X57.here hx rfl (hb hby at_149) rfl rfl ?_
    show Steps p.tables e below (T57.setTop (mkF m 151 #[.val (.long q0), .second, .val (.long q1), .second, .val (.long q2), .second, .val (.long q3), .second, .val (.int p4), .val (.int p5), .val (.int v1), .val (.int v2), .val (.int v4), .val (.int v6), .val (.int v7), .val (.ref b8), .val (.ref b9), .val (.ref b11), .unset, .unset, .unset, .unset, .unset] [(.ref b8)])) _
    refine XS.iconst X57.here hx rfl (hb hby at_151) ?_
    show Steps p.tables e below (T57.setTop (mkF m 152 #[.val (.long q0), .second, .val (.long q1), .second, .val (.long q2), .second, .val (.long q3), .second, .val (.int p4), .val (.int p5), .val (.int v1), .val (.int v2), .val (.int v4), .val (.int v6), .val (.int v7), .val (.ref b8), .val (.ref b9), .val (.ref b11), .unset, .unset, .unset, .unset, .unset] [(.int (5 : Int32)), (.ref b8)])) _
    refine XS.aload X57.here hx rfl (hb hby at_152) rfl rfl ?_
    show Steps p.tables e below (T57.setTop (mkF m 154 #[.val (.long q0), .second, .val (.long q1), .second, .val (.long q2), .second, .val (.long q3), .second, .val (.int p4), .val (.int p5), .val (.int v1), .val (.int v2), .val (.int v4), .val (.int v6), .val (.int v7), .val (.ref b8), .val (.ref b9), .val (.ref b11), .unset, .unset, .unset, .unset, .unset] [(.ref b8), (.int (5 : Int32)), (.ref b8)])) _
    refine XS.iconst X57.here hx rfl (hb hby at_154) ?_
    show Steps p.tables e below (T57.setTop (mkF m 155 #[.val (.long q0), .second, .val (.long q1), .second, .val (.long q2), .second, .val (.long q3), .second, .val (.int p4), .val (.int p5), .val (.int v1), .val (.int v2), .val (.int v4), .val (.int v6), .val (.int v7), .val (.ref b8), .val (.ref b9), .val (.ref b11), .unset, .unset, .unset, .unset, .unset] [(.int (4 : Int32)), (.ref b8), (.int (5 : Int32)), (.ref b8)])) _
    refine X57.laload hx (j := (4 : Int32)) (v := (.long v55)) (by rw [e57]; exact Ar58.1) (State.isArrayOf_alike hZ.alike Ar58.2.1) Ar58.2.2 hin58 hat58 (g := (mkF m 155 #[.val (.long q0), .second, .val (.long q1), .second, .val (.long q2), .second, .val (.long q3), .second, .val (.int p4), .val (.int p5), .val (.int v1), .val (.int v2), .val (.int v4), .val (.int v6), .val (.int v7), .val (.ref b8), .val (.ref b9), .val (.ref b11), .unset, .unset, .unset, .unset, .unset] [(.int (4 : Int32)), (.ref b8), (.int (5 : Int32)), (.ref b8)])) rfl rfl (hb hby at_155) _ ?_
    show Steps p.tables e below (T57.setTop (mkF m 156 #[.val (.long q0), .second, .val (.long q1), .second, .val (.long q2), .second, .val (.long q3), .second, .val (.int p4), .val (.int p5), .val (.int v1), .val (.int v2), .val (.int v4), .val (.int v6), .val (.int v7), .val (.ref b8), .val (.ref b9), .val (.ref b11), .unset, .unset, .unset, .unset, .unset] [(.long v55), (.int (5 : Int32)), (.ref b8)])) _
    refine XS.lloadN X57.here hx rfl (hb hby at_156) rfl ?_
    show Steps p.tables e below (T57.setTop (mkF m 157 #[.val (.long q0), .second, .val (.long q1), .second, .val (.long q2), .second, .val (.long q3), .second, .val (.int p4), .val (.int p5), .val (.int v1), .val (.int v2), .val (.int v4), .val (.int v6), .val (.int v7), .val (.ref b8), .val (.ref b9), .val (.ref b11), .unset, .unset, .unset, .unset, .unset] [(.long q1), (.long v55), (.int (5 : Int32)), (.ref b8)])) _
    refine XS.iconst X57.here hx rfl (hb hby at_157) ?_
    show Steps p.tables e below (T57.setTop (mkF m 158 #[.val (.long q0), .second, .val (.long q1), .second, .val (.long q2), .second, .val (.long q3), .second, .val (.int p4), .val (.int p5), .val (.int v1), .val (.int v2), .val (.int v4), .val (.int v6), .val (.int v7), .val (.ref b8), .val (.ref b9), .val (.ref b11), .unset, .unset, .unset, .unset, .unset] [(.int (5 : Int32)), (.long q1), (.long v55), (.int (5 : Int32)), (.ref b8)])) _
    refine XS.iload X57.here hx rfl (hb hby at_158) rfl ?_
    exact kk)
  have Zz60 := (Nat.le_trans Zz50 (Keep.of_wr W57).1)
  have Av61 := (Av51.other W57 (Ne.symm ne_b8_b9))
  have Av62 := (Av52.other W57 (Ne.symm ne_b8_b11))
  obtain ⟨Lg63, X63, N63⟩ : ∃ L' : List Loc, Stand p l e room_1 s m #[(.long q0), (.long q1), (.long q2), (.long q3), (.int p4), (.int p5)] below meth c T57 L' 3 48 ∧ Fr n0 L' := ⟨_, X57, N57⟩
  (try clear e47); (try clear V47); (try clear pre49); (try clear Zz50); (try clear Av51); (try clear Av52); (try clear X53); (try clear N53); (try clear X54); (try clear st54); (try clear N54q); (try clear e54); (try clear N54); (try clear Ar56); (try clear q56); (try clear S56); (try clear Nn56); (try clear H56); (try clear G56); (try clear hin56); (try clear X57); (try clear W57); (try clear st57); (try clear N57); (try clear Ar58); (try clear S58); (try clear H58); (try clear hin58); (try clear hat58)
  obtain ⟨_, _, ⟨T64, L64, k64, n64⟩, -, X64, ⟨Lc64, hQ64, l64, y64, z64⟩, st64⟩ := Jvm.LawKit.callS X63 hx (y := (⟨"com/example/copyleaf/copyleaf/page/PageFirstAtLeastPinLaw", "next", "(JJII)J"⟩ : MethodName)) hown (mvT hZ (hw _ (List.mem_of_getElem? (i := 3) rfl))) (mvT hZ (hw _ (List.mem_of_getElem? (i := 4) rfl))) (mvT hZ (hw _ (List.mem_of_getElem? (i := 5) rfl))) (mvT hZ (hw _ (List.mem_of_getElem? (i := 6) rfl))) (by decide) (backOf (W := 2) (rm1 l Z a0 hw [] v55 q1 (5 : Int32) v2 h57 n0 Zz60) hZ (hw _ (List.mem_of_getElem? (i := 6) rfl)) (hw _ (List.mem_of_getElem? (i := 5) rfl)) (by decide) (by decide)) (g := (mkF m 160 #[.val (.long q0), .second, .val (.long q1), .second, .val (.long q2), .second, .val (.long q3), .second, .val (.int p4), .val (.int p5), .val (.int v1), .val (.int v2), .val (.int v4), .val (.int v6), .val (.int v7), .val (.ref b8), .val (.ref b9), .val (.ref b11), .unset, .unset, .unset, .unset, .unset] [(.int v2), (.int (5 : Int32)), (.long q1), (.long v55), (.int (5 : Int32)), (.ref b8)])) rfl (by rw [hml]; rfl) (argsL := [(.long v55), (.long q1), (.int (5 : Int32)), (.int v2)]) (rest := [(.int (5 : Int32)), (.ref b8)]) (lenOf pd__28JJII_29J rfl) rfl (by show 2 * 0 + _ ≤ _; exact Nat.le_of_eq rfl) (hb hby at_160) (fun _ _ => ⟨rfl, e57, (by decide : 3 + 0 ≤ _), (by decide : 48 + 0 ≤ _)⟩)
  dsimp only [Pt.U, Pt.locs, Pt.cells, Pt.slots] at X64 l64 y64 z64 st64 hQ64
  subst l64 y64 z64
  obtain ⟨rfl, N64q, e64⟩ := hQ64
  have N64 := Fr.app N63 N64q
  obtain ⟨v65, ev65⟩ : ∃ z : Int64, z = (nextF v55 q1 (5 : Int32) v2) := ⟨_, rfl⟩
  obtain ⟨cl66, Ar66, q66, S66, Nn66, H66, G66⟩ := id V57
  have hin66 : ¬ ((5 : Int32) < 0 ∨ cl66.slots.size ≤ ((5 : Int32)).toNatClampNeg) := inb_of S66 ⟨by decide, by decide⟩
  obtain ⟨T67, h67, X67, e67, W67, st67⟩ := stJ X64 hx hZ e64 Ar66 (j := (5 : Int32)) hin66 (g := (mkF m 163 #[.val (.long q0), .second, .val (.long q1), .second, .val (.long q2), .second, .val (.long q3), .second, .val (.int p4), .val (.int p5), .val (.int v1), .val (.int v2), .val (.int v4), .val (.int v6), .val (.int v7), .val (.ref b8), .val (.ref b9), .val (.ref b11), .unset, .unset, .unset, .unset, .unset] [(.long v65), (.int (5 : Int32)), (.ref b8)])) rfl rfl (hb hby at_163)
  have N67 := Fr.snoc X67 N64 g_b8
  have V67 : Arv Z h67 b8 k8 .long (16 : Int32) [(.long v14), (.long v25), (.long v35), (.long v45), (.long v55), (.long v65), (.long (0 : Int64)), (.long (0 : Int64)), (.long (0 : Int64)), (.long (0 : Int64)), (.long (0 : Int64)), (.long (0 : Int64)), (.long (0 : Int64)), (.long (0 : Int64)), (.long (0 : Int64)), (.long (0 : Int64))] (.long (0 : Int64)) := Arv.set Ar66 q66 S66 Nn66 H66 G66 rfl W67 5 rfl (Nat.le_of_ble_eq_true rfl)
  obtain ⟨cl68, Ar68, -, S68, -, H68, -⟩ := id V67
  have hin68 : ¬ ((5 : Int32) < 0 ∨ cl68.slots.size ≤ ((5 : Int32)).toNatClampNeg) := inb_of S68 ⟨by decide, by decide⟩
  have hat68 : cl68.slots[((5 : Int32)).toNatClampNeg]? = some (.long v65) := Has.at H68 hin68 rfl
  have pre69 : ∀ t, Steps p.tables e below (T67.setTop (mkF m 177 #[.val (.long q0), .second, .val (.long q1), .second, .val (.long q2), .second, .val (.long q3), .second, .val (.int p4), .val (.int p5), .val (.int v1), .val (.int v2), .val (.int v4), .val (.int v6), .val (.int v7), .val (.ref b8), .val (.ref b9), .val (.ref b11), .unset, .unset, .unset, .unset, .unset] [(.int v2), (.int (6 : Int32)), (.long q1), (.long v65), (.int (6 : Int32)), (.ref b8)])) t → Steps p.tables e below (s₁.setTop (entryFrame m #[(.long q0), (.long q1), (.long q2), (.long q3), (.int p4), (.int p5)] maxLocals)) t := fun t kk => pre59 t (by
    show Steps p.tables e below (T57.setTop (mkF m 160 #[.val (.long q0), .second, .val (.long q1), .second, .val (.long q2), .second, .val (.long q3), .second, .val (.int p4), .val (.int p5), .val (.int v1), .val (.int v2), .val (.int v4), .val (.int v6), .val (.int v7), .val (.ref b8), .val (.ref b9), .val (.ref b11), .unset, .unset, .unset, .unset, .unset] [(.int v2), (.int (5 : Int32)), (.long q1), (.long v55), (.int (5 : Int32)), (.ref b8)])) _
    refine st64 _ ?_
    show Steps p.tables e below (T64.setTop (mkF m 163 #[.val (.long q0), .second, .val (.long q1), .second, .val (.long q2), .second, .val (.long q3), .second, .val (.int p4), .val (.int p5), .val (.int v1), .val (.int v2), .val (.int v4), .val (.int v6), .val (.int v7), .val (.ref b8), .val (.ref b9), .val (.ref b11), .unset, .unset, .unset, .unset, .unset] [(.long (nextF v55 q1 (5 : Int32) v2)), (.int (5 : Int32)), (.ref b8)])) _
    rw [← ev65]
    show Steps p.tables e below (T64.setTop (mkF m 163 #[.val (.long q0), .second, .val (.long q1), .second, .val (.long q2), .second, .val (.long q3), .second, .val (.int p4), .val (.int p5), .val (.int v1), .val (.int v2), .val (.int v4), .val (.int v6), .val (.int v7), .val (.ref b8), .val (.ref b9), .val (.ref b11), .unset, .unset, .unset, .unset, .unset] [(.long v65), (.int (5 : Int32)), (.ref b8)])) _
    refine st67 _ ?_
    show Steps p.tables e below (T67.setTop (mkF m 164 #[.val (.long q0), .second, .val (.long q1), .second, .val (.long q2), .second, .val (.long q3), .second, .val (.int p4), .val (.int p5), .val (.int v1), .val (.int v2), .val (.int v4), .val (.int v6), .val (.int v7), .val (.ref b8), .val (.ref b9), .val (.ref b11), .unset, .unset, .unset, .unset, .unset] [])) _
    refine XS.aload X67.here hx rfl (hb hby at_164) rfl rfl ?_
    show Steps p.tables e below (T67.setTop (mkF m 166 #[.val (.long q0), .second, .val (.long q1), .second, .val (.long q2), .second, .val (.long q3), .second, .val (.int p4), .val (.int p5), .val (.int v1), .val (.int v2), .val (.int v4), .val (.int v6), .val (.int v7), .val (.ref b8), .val (.ref b9), .val (.ref b11), .unset, .unset, .unset, .unset, .unset] [(.ref b8)])) _
    refine XS.bipush X67.here hx rfl (hb hby at_166) ?_
    show Steps p.tables e below (T67.setTop (mkF m 168 #[.val (.long q0), .second, .val (.long q1), .second, .val (.long q2), .second, .val (.long q3), .second, .val (.int p4), .val (.int p5), .val (.int v1), .val (.int v2), .val (.int v4), .val (.int v6), .val (.int v7), .val (.ref b8), .val (.ref b9), .val (.ref b11), .unset, .unset, .unset, .unset, .unset] [(.int (6 : Int32)), (.ref b8)])) _
    refine XS.aload X67.here hx rfl (hb hby at_168) rfl rfl ?_
    show Steps p.tables e below (T67.setTop (mkF m 170 #[.val (.long q0), .second, .val (.long q1), .second, .val (.long q2), .second, .val (.long q3), .second, .val (.int p4), .val (.int p5), .val (.int v1), .val (.int v2), .val (.int v4), .val (.int v6), .val (.int v7), .val (.ref b8), .val (.ref b9), .val (.ref b11), .unset, .unset, .unset, .unset, .unset] [(.ref b8), (.int (6 : Int32)), (.ref b8)])) _
    refine XS.iconst X67.here hx rfl (hb hby at_170) ?_
    show Steps p.tables e below (T67.setTop (mkF m 171 #[.val (.long q0), .second, .val (.long q1), .second, .val (.long q2), .second, .val (.long q3), .second, .val (.int p4), .val (.int p5), .val (.int v1), .val (.int v2), .val (.int v4), .val (.int v6), .val (.int v7), .val (.ref b8), .val (.ref b9), .val (.ref b11), .unset, .unset, .unset, .unset, .unset] [(.int (5 : Int32)), (.ref b8), (.int (6 : Int32)), (.ref b8)])) _
    refine X67.laload hx (j := (5 : Int32)) (v := (.long v65)) (by rw [e67]; exact Ar68.1) (State.isArrayOf_alike hZ.alike Ar68.2.1) Ar68.2.2 hin68 hat68 (g := (mkF m 171 #[.val (.long q0), .second, .val (.long q1), .second, .val (.long q2), .second, .val (.long q3), .second, .val (.int p4), .val (.int p5), .val (.int v1), .val (.int v2), .val (.int v4), .val (.int v6), .val (.int v7), .val (.ref b8), .val (.ref b9), .val (.ref b11), .unset, .unset, .unset, .unset, .unset] [(.int (5 : Int32)), (.ref b8), (.int (6 : Int32)), (.ref b8)])) rfl rfl (hb hby at_171) _ ?_
    show Steps p.tables e below (T67.setTop (mkF m 172 #[.val (.long q0), .second, .val (.long q1), .second, .val (.long q2), .second, .val (.long q3), .second, .val (.int p4), .val (.int p5), .val (.int v1), .val (.int v2), .val (.int v4), .val (.int v6), .val (.int v7), .val (.ref b8), .val (.ref b9), .val (.ref b11), .unset, .unset, .unset, .unset, .unset] [(.long v65), (.int (6 : Int32)), (.ref b8)])) _
    refine XS.lloadN X67.here hx rfl (hb hby at_172) rfl ?_
    show Steps p.tables e below (T67.setTop (mkF m 173 #[.val (.long q0), .second, .val (.long q1), .second, .val (.long q2), .second, .val (.long q3), .second, .val (.int p4), .val (.int p5), .val (.int v1), .val (.int v2), .val (.int v4), .val (.int v6), .val (.int v7), .val (.ref b8), .val (.ref b9), .val (.ref b11), .unset, .unset, .unset, .unset, .unset] [(.long q1), (.long v65), (.int (6 : Int32)), (.ref b8)])) _
    refine XS.bipush X67.here hx rfl (hb hby at_173) ?_
    show Steps p.tables e below (T67.setTop (mkF m 175 #[.val (.long q0), .second, .val (.long q1), .second, .val (.long q2), .second, .val (.long q3), .second, .val (.int p4), .val (.int p5), .val (.int v1), .val (.int v2), .val (.int v4), .val (.int v6), .val (.int v7), .val (.ref b8), .val (.ref b9), .val (.ref b11), .unset, .unset, .unset, .unset, .unset] [(.int (6 : Int32)), (.long q1), (.long v65), (.int (6 : Int32)), (.ref b8)])) _
    refine XS.iload X67.here hx rfl (hb hby at_175) rfl ?_
    exact kk)
  have Zz70 := (Nat.le_trans Zz60 (Keep.of_wr W67).1)
  have Av71 := (Av61.other W67 (Ne.symm ne_b8_b9))
  have Av72 := (Av62.other W67 (Ne.symm ne_b8_b11))
  obtain ⟨Lg73, X73, N73⟩ : ∃ L' : List Loc, Stand p l e room_1 s m #[(.long q0), (.long q1), (.long q2), (.long q3), (.int p4), (.int p5)] below meth c T67 L' 3 48 ∧ Fr n0 L' := ⟨_, X67, N67⟩
  (try clear e57); (try clear V57); (try clear pre59); (try clear Zz60); (try clear Av61); (try clear Av62); (try clear X63); (try clear N63); (try clear X64); (try clear st64); (try clear N64q); (try clear e64); (try clear N64); (try clear Ar66); (try clear q66); (try clear S66); (try clear Nn66); (try clear H66); (try clear G66); (try clear hin66); (try clear X67); (try clear W67); (try clear st67); (try clear N67); (try clear Ar68); (try clear S68); (try clear H68); (try clear hin68); (try clear hat68)
  obtain ⟨_, _, ⟨T74, L74, k74, n74⟩, -, X74, ⟨Lc74, hQ74, l74, y74, z74⟩, st74⟩ := Jvm.LawKit.callS X73 hx (y := (⟨"com/example/copyleaf/copyleaf/page/PageFirstAtLeastPinLaw", "next", "(JJII)J"⟩ : MethodName)) hown (mvT hZ (hw _ (List.mem_of_getElem? (i := 3) rfl))) (mvT hZ (hw _ (List.mem_of_getElem? (i := 4) rfl))) (mvT hZ (hw _ (List.mem_of_getElem? (i := 5) rfl))) (mvT hZ (hw _ (List.mem_of_getElem? (i := 6) rfl))) (by decide) (backOf (W := 2) (rm1 l Z a0 hw [] v65 q1 (6 : Int32) v2 h67 n0 Zz70) hZ (hw _ (List.mem_of_getElem? (i := 6) rfl)) (hw _ (List.mem_of_getElem? (i := 5) rfl)) (by decide) (by decide)) (g := (mkF m 177 #[.val (.long q0), .second, .val (.long q1), .second, .val (.long q2), .second, .val (.long q3), .second, .val (.int p4), .val (.int p5), .val (.int v1), .val (.int v2), .val (.int v4), .val (.int v6), .val (.int v7), .val (.ref b8), .val (.ref b9), .val (.ref b11), .unset, .unset, .unset, .unset, .unset] [(.int v2), (.int (6 : Int32)), (.long q1), (.long v65), (.int (6 : Int32)), (.ref b8)])) rfl (by rw [hml]; rfl) (argsL := [(.long v65), (.long q1), (.int (6 : Int32)), (.int v2)]) (rest := [(.int (6 : Int32)), (.ref b8)]) (lenOf pd__28JJII_29J rfl) rfl (by show 2 * 0 + _ ≤ _; exact Nat.le_of_eq rfl) (hb hby at_177) (fun _ _ => ⟨rfl, e67, (by decide : 3 + 0 ≤ _), (by decide : 48 + 0 ≤ _)⟩)
  dsimp only [Pt.U, Pt.locs, Pt.cells, Pt.slots] at X74 l74 y74 z74 st74 hQ74
  subst l74 y74 z74
  obtain ⟨rfl, N74q, e74⟩ := hQ74
  have N74 := Fr.app N73 N74q
  obtain ⟨v75, ev75⟩ : ∃ z : Int64, z = (nextF v65 q1 (6 : Int32) v2) := ⟨_, rfl⟩
  obtain ⟨cl76, Ar76, q76, S76, Nn76, H76, G76⟩ := id V67
  have hin76 : ¬ ((6 : Int32) < 0 ∨ cl76.slots.size ≤ ((6 : Int32)).toNatClampNeg) := inb_of S76 ⟨by decide, by decide⟩
  obtain ⟨T77, h77, X77, e77, W77, st77⟩ := stJ X74 hx hZ e74 Ar76 (j := (6 : Int32)) hin76 (g := (mkF m 180 #[.val (.long q0), .second, .val (.long q1), .second, .val (.long q2), .second, .val (.long q3), .second, .val (.int p4), .val (.int p5), .val (.int v1), .val (.int v2), .val (.int v4), .val (.int v6), .val (.int v7), .val (.ref b8), .val (.ref b9), .val (.ref b11), .unset, .unset, .unset, .unset, .unset] [(.long v75), (.int (6 : Int32)), (.ref b8)])) rfl rfl (hb hby at_180)
  have N77 := Fr.snoc X77 N74 g_b8
  have V77 : Arv Z h77 b8 k8 .long (16 : Int32) [(.long v14), (.long v25), (.long v35), (.long v45), (.long v55), (.long v65), (.long v75), (.long (0 : Int64)), (.long (0 : Int64)), (.long (0 : Int64)), (.long (0 : Int64)), (.long (0 : Int64)), (.long (0 : Int64)), (.long (0 : Int64)), (.long (0 : Int64)), (.long (0 : Int64))] (.long (0 : Int64)) := Arv.set Ar76 q76 S76 Nn76 H76 G76 rfl W77 6 rfl (Nat.le_of_ble_eq_true rfl)
  obtain ⟨cl78, Ar78, -, S78, -, H78, -⟩ := id V77
  have hin78 : ¬ ((6 : Int32) < 0 ∨ cl78.slots.size ≤ ((6 : Int32)).toNatClampNeg) := inb_of S78 ⟨by decide, by decide⟩
  have hat78 : cl78.slots[((6 : Int32)).toNatClampNeg]? = some (.long v75) := Has.at H78 hin78 rfl
  have pre79 : ∀ t, Steps p.tables e below (T77.setTop (mkF m 195 #[.val (.long q0), .second, .val (.long q1), .second, .val (.long q2), .second, .val (.long q3), .second, .val (.int p4), .val (.int p5), .val (.int v1), .val (.int v2), .val (.int v4), .val (.int v6), .val (.int v7), .val (.ref b8), .val (.ref b9), .val (.ref b11), .unset, .unset, .unset, .unset, .unset] [(.int v2), (.int (7 : Int32)), (.long q1), (.long v75), (.int (7 : Int32)), (.ref b8)])) t → Steps p.tables e below (s₁.setTop (entryFrame m #[(.long q0), (.long q1), (.long q2), (.long q3), (.int p4), (.int p5)] maxLocals)) t := fun t kk => pre69 t (by
    show Steps p.tables e below (T67.setTop (mkF m 177 #[.val (.long q0), .second, .val (.long q1), .second, .val (.long q2), .second, .val (.long q3), .second, .val (.int p4), .val (.int p5), .val (.int v1), .val (.int v2), .val (.int v4), .val (.int v6), .val (.int v7), .val (.ref b8), .val (.ref b9), .val (.ref b11), .unset, .unset, .unset, .unset, .unset] [(.int v2), (.int (6 : Int32)), (.long q1), (.long v65), (.int (6 : Int32)), (.ref b8)])) _
    refine st74 _ ?_
    show Steps p.tables e below (T74.setTop (mkF m 180 #[.val (.long q0), .second, .val (.long q1), .second, .val (.long q2), .second, .val (.long q3), .second, .val (.int p4), .val (.int p5), .val (.int v1), .val (.int v2), .val (.int v4), .val (.int v6), .val (.int v7), .val (.ref b8), .val (.ref b9), .val (.ref b11), .unset, .unset, .unset, .unset, .unset] [(.long (nextF v65 q1 (6 : Int32) v2)), (.int (6 : Int32)), (.ref b8)])) _
    rw [← ev75]
    show Steps p.tables e below (T74.setTop (mkF m 180 #[.val (.long q0), .second, .val (.long q1), .second, .val (.long q2), .second, .val (.long q3), .second, .val (.int p4), .val (.int p5), .val (.int v1), .val (.int v2), .val (.int v4), .val (.int v6), .val (.int v7), .val (.ref b8), .val (.ref b9), .val (.ref b11), .unset, .unset, .unset, .unset, .unset] [(.long v75), (.int (6 : Int32)), (.ref b8)])) _
    refine st77 _ ?_
    show Steps p.tables e below (T77.setTop (mkF m 181 #[.val (.long q0), .second, .val (.long q1), .second, .val (.long q2), .second, .val (.long q3), .second, .val (.int p4), .val (.int p5), .val (.int v1), .val (.int v2), .val (.int v4), .val (.int v6), .val (.int v7), .val (.ref b8), .val (.ref b9), .val (.ref b11), .unset, .unset, .unset, .unset, .unset] [])) _
    refine XS.aload X77.here hx rfl (hb hby at_181) rfl rfl ?_
    show Steps p.tables e below (T77.setTop (mkF m 183 #[.val (.long q0), .second, .val (.long q1), .second, .val (.long q2), .second, .val (.long q3), .second, .val (.int p4), .val (.int p5), .val (.int v1), .val (.int v2), .val (.int v4), .val (.int v6), .val (.int v7), .val (.ref b8), .val (.ref b9), .val (.ref b11), .unset, .unset, .unset, .unset, .unset] [(.ref b8)])) _
    refine XS.bipush X77.here hx rfl (hb hby at_183) ?_
    show Steps p.tables e below (T77.setTop (mkF m 185 #[.val (.long q0), .second, .val (.long q1), .second, .val (.long q2), .second, .val (.long q3), .second, .val (.int p4), .val (.int p5), .val (.int v1), .val (.int v2), .val (.int v4), .val (.int v6), .val (.int v7), .val (.ref b8), .val (.ref b9), .val (.ref b11), .unset, .unset, .unset, .unset, .unset] [(.int (7 : Int32)), (.ref b8)])) _
    refine XS.aload X77.here hx rfl (hb hby at_185) rfl rfl ?_
    show Steps p.tables e below (T77.setTop (mkF m 187 #[.val (.long q0), .second, .val (.long q1), .second, .val (.long q2), .second, .val (.long q3), .second, .val (.int p4), .val (.int p5), .val (.int v1), .val (.int v2), .val (.int v4), .val (.int v6), .val (.int v7), .val (.ref b8), .val (.ref b9), .val (.ref b11), .unset, .unset, .unset, .unset, .unset] [(.ref b8), (.int (7 : Int32)), (.ref b8)])) _
    refine XS.bipush X77.here hx rfl (hb hby at_187) ?_
    show Steps p.tables e below (T77.setTop (mkF m 189 #[.val (.long q0), .second, .val (.long q1), .second, .val (.long q2), .second, .val (.long q3), .second, .val (.int p4), .val (.int p5), .val (.int v1), .val (.int v2), .val (.int v4), .val (.int v6), .val (.int v7), .val (.ref b8), .val (.ref b9), .val (.ref b11), .unset, .unset, .unset, .unset, .unset] [(.int (6 : Int32)), (.ref b8), (.int (7 : Int32)), (.ref b8)])) _
    refine X77.laload hx (j := (6 : Int32)) (v := (.long v75)) (by rw [e77]; exact Ar78.1) (State.isArrayOf_alike hZ.alike Ar78.2.1) Ar78.2.2 hin78 hat78 (g := (mkF m 189 #[.val (.long q0), .second, .val (.long q1), .second, .val (.long q2), .second, .val (.long q3), .second, .val (.int p4), .val (.int p5), .val (.int v1), .val (.int v2), .val (.int v4), .val (.int v6), .val (.int v7), .val (.ref b8), .val (.ref b9), .val (.ref b11), .unset, .unset, .unset, .unset, .unset] [(.int (6 : Int32)), (.ref b8), (.int (7 : Int32)), (.ref b8)])) rfl rfl (hb hby at_189) _ ?_
    show Steps p.tables e below (T77.setTop (mkF m 190 #[.val (.long q0), .second, .val (.long q1), .second, .val (.long q2), .second, .val (.long q3), .second, .val (.int p4), .val (.int p5), .val (.int v1), .val (.int v2), .val (.int v4), .val (.int v6), .val (.int v7), .val (.ref b8), .val (.ref b9), .val (.ref b11), .unset, .unset, .unset, .unset, .unset] [(.long v75), (.int (7 : Int32)), (.ref b8)])) _
    refine XS.lloadN X77.here hx rfl (hb hby at_190) rfl ?_
    show Steps p.tables e below (T77.setTop (mkF m 191 #[.val (.long q0), .second, .val (.long q1), .second, .val (.long q2), .second, .val (.long q3), .second, .val (.int p4), .val (.int p5), .val (.int v1), .val (.int v2), .val (.int v4), .val (.int v6), .val (.int v7), .val (.ref b8), .val (.ref b9), .val (.ref b11), .unset, .unset, .unset, .unset, .unset] [(.long q1), (.long v75), (.int (7 : Int32)), (.ref b8)])) _
    refine XS.bipush X77.here hx rfl (hb hby at_191) ?_
    show Steps p.tables e below (T77.setTop (mkF m 193 #[.val (.long q0), .second, .val (.long q1), .second, .val (.long q2), .second, .val (.long q3), .second, .val (.int p4), .val (.int p5), .val (.int v1), .val (.int v2), .val (.int v4), .val (.int v6), .val (.int v7), .val (.ref b8), .val (.ref b9), .val (.ref b11), .unset, .unset, .unset, .unset, .unset] [(.int (7 : Int32)), (.long q1), (.long v75), (.int (7 : Int32)), (.ref b8)])) _
    refine XS.iload X77.here hx rfl (hb hby at_193) rfl ?_
    exact kk)
  have Zz80 := (Nat.le_trans Zz70 (Keep.of_wr W77).1)
  have Av81 := (Av71.other W77 (Ne.symm ne_b8_b9))
  have Av82 := (Av72.other W77 (Ne.symm ne_b8_b11))
  obtain ⟨Lg83, X83, N83⟩ : ∃ L' : List Loc, Stand p l e room_1 s m #[(.long q0), (.long q1), (.long q2), (.long q3), (.int p4), (.int p5)] below meth c T77 L' 3 48 ∧ Fr n0 L' := ⟨_, X77, N77⟩
  (try clear e67); (try clear V67); (try clear pre69); (try clear Zz70); (try clear Av71); (try clear Av72); (try clear X73); (try clear N73); (try clear X74); (try clear st74); (try clear N74q); (try clear e74); (try clear N74); (try clear Ar76); (try clear q76); (try clear S76); (try clear Nn76); (try clear H76); (try clear G76); (try clear hin76); (try clear X77); (try clear W77); (try clear st77); (try clear N77); (try clear Ar78); (try clear S78); (try clear H78); (try clear hin78); (try clear hat78)
  obtain ⟨_, _, ⟨T84, L84, k84, n84⟩, -, X84, ⟨Lc84, hQ84, l84, y84, z84⟩, st84⟩ := Jvm.LawKit.callS X83 hx (y := (⟨"com/example/copyleaf/copyleaf/page/PageFirstAtLeastPinLaw", "next", "(JJII)J"⟩ : MethodName)) hown (mvT hZ (hw _ (List.mem_of_getElem? (i := 3) rfl))) (mvT hZ (hw _ (List.mem_of_getElem? (i := 4) rfl))) (mvT hZ (hw _ (List.mem_of_getElem? (i := 5) rfl))) (mvT hZ (hw _ (List.mem_of_getElem? (i := 6) rfl))) (by decide) (backOf (W := 2) (rm1 l Z a0 hw [] v75 q1 (7 : Int32) v2 h77 n0 Zz80) hZ (hw _ (List.mem_of_getElem? (i := 6) rfl)) (hw _ (List.mem_of_getElem? (i := 5) rfl)) (by decide) (by decide)) (g := (mkF m 195 #[.val (.long q0), .second, .val (.long q1), .second, .val (.long q2), .second, .val (.long q3), .second, .val (.int p4), .val (.int p5), .val (.int v1), .val (.int v2), .val (.int v4), .val (.int v6), .val (.int v7), .val (.ref b8), .val (.ref b9), .val (.ref b11), .unset, .unset, .unset, .unset, .unset] [(.int v2), (.int (7 : Int32)), (.long q1), (.long v75), (.int (7 : Int32)), (.ref b8)])) rfl (by rw [hml]; rfl) (argsL := [(.long v75), (.long q1), (.int (7 : Int32)), (.int v2)]) (rest := [(.int (7 : Int32)), (.ref b8)]) (lenOf pd__28JJII_29J rfl) rfl (by show 2 * 0 + _ ≤ _; exact Nat.le_of_eq rfl) (hb hby at_195) (fun _ _ => ⟨rfl, e77, (by decide : 3 + 0 ≤ _), (by decide : 48 + 0 ≤ _)⟩)
  dsimp only [Pt.U, Pt.locs, Pt.cells, Pt.slots] at X84 l84 y84 z84 st84 hQ84
  subst l84 y84 z84
  obtain ⟨rfl, N84q, e84⟩ := hQ84
  have N84 := Fr.app N83 N84q
  obtain ⟨v85, ev85⟩ : ∃ z : Int64, z = (nextF v75 q1 (7 : Int32) v2) := ⟨_, rfl⟩
  obtain ⟨cl86, Ar86, q86, S86, Nn86, H86, G86⟩ := id V77
  have hin86 : ¬ ((7 : Int32) < 0 ∨ cl86.slots.size ≤ ((7 : Int32)).toNatClampNeg) := inb_of S86 ⟨by decide, by decide⟩
  obtain ⟨T87, h87, X87, e87, W87, st87⟩ := stJ X84 hx hZ e84 Ar86 (j := (7 : Int32)) hin86 (g := (mkF m 198 #[.val (.long q0), .second, .val (.long q1), .second, .val (.long q2), .second, .val (.long q3), .second, .val (.int p4), .val (.int p5), .val (.int v1), .val (.int v2), .val (.int v4), .val (.int v6), .val (.int v7), .val (.ref b8), .val (.ref b9), .val (.ref b11), .unset, .unset, .unset, .unset, .unset] [(.long v85), (.int (7 : Int32)), (.ref b8)])) rfl rfl (hb hby at_198)
  have N87 := Fr.snoc X87 N84 g_b8
  have V87 : Arv Z h87 b8 k8 .long (16 : Int32) [(.long v14), (.long v25), (.long v35), (.long v45), (.long v55), (.long v65), (.long v75), (.long v85), (.long (0 : Int64)), (.long (0 : Int64)), (.long (0 : Int64)), (.long (0 : Int64)), (.long (0 : Int64)), (.long (0 : Int64)), (.long (0 : Int64)), (.long (0 : Int64))] (.long (0 : Int64)) := Arv.set Ar86 q86 S86 Nn86 H86 G86 rfl W87 7 rfl (Nat.le_of_ble_eq_true rfl)
  obtain ⟨cl88, Ar88, -, S88, -, H88, -⟩ := id V87
  have hin88 : ¬ ((7 : Int32) < 0 ∨ cl88.slots.size ≤ ((7 : Int32)).toNatClampNeg) := inb_of S88 ⟨by decide, by decide⟩
  have hat88 : cl88.slots[((7 : Int32)).toNatClampNeg]? = some (.long v85) := Has.at H88 hin88 rfl
  have pre89 : ∀ t, Steps p.tables e below (T87.setTop (mkF m 213 #[.val (.long q0), .second, .val (.long q1), .second, .val (.long q2), .second, .val (.long q3), .second, .val (.int p4), .val (.int p5), .val (.int v1), .val (.int v2), .val (.int v4), .val (.int v6), .val (.int v7), .val (.ref b8), .val (.ref b9), .val (.ref b11), .unset, .unset, .unset, .unset, .unset] [(.int v2), (.int (8 : Int32)), (.long q1), (.long v85), (.int (8 : Int32)), (.ref b8)])) t → Steps p.tables e below (s₁.setTop (entryFrame m #[(.long q0), (.long q1), (.long q2), (.long q3), (.int p4), (.int p5)] maxLocals)) t := fun t kk => pre79 t (by
    show Steps p.tables e below (T77.setTop (mkF m 195 #[.val (.long q0), .second, .val (.long q1), .second, .val (.long q2), .second, .val (.long q3), .second, .val (.int p4), .val (.int p5), .val (.int v1), .val (.int v2), .val (.int v4), .val (.int v6), .val (.int v7), .val (.ref b8), .val (.ref b9), .val (.ref b11), .unset, .unset, .unset, .unset, .unset] [(.int v2), (.int (7 : Int32)), (.long q1), (.long v75), (.int (7 : Int32)), (.ref b8)])) _
    refine st84 _ ?_
    show Steps p.tables e below (T84.setTop (mkF m 198 #[.val (.long q0), .second, .val (.long q1), .second, .val (.long q2), .second, .val (.long q3), .second, .val (.int p4), .val (.int p5), .val (.int v1), .val (.int v2), .val (.int v4), .val (.int v6), .val (.int v7), .val (.ref b8), .val (.ref b9), .val (.ref b11), .unset, .unset, .unset, .unset, .unset] [(.long (nextF v75 q1 (7 : Int32) v2)), (.int (7 : Int32)), (.ref b8)])) _
    rw [← ev85]
    show Steps p.tables e below (T84.setTop (mkF m 198 #[.val (.long q0), .second, .val (.long q1), .second, .val (.long q2), .second, .val (.long q3), .second, .val (.int p4), .val (.int p5), .val (.int v1), .val (.int v2), .val (.int v4), .val (.int v6), .val (.int v7), .val (.ref b8), .val (.ref b9), .val (.ref b11), .unset, .unset, .unset, .unset, .unset] [(.long v85), (.int (7 : Int32)), (.ref b8)])) _
    refine st87 _ ?_
    show Steps p.tables e below (T87.setTop (mkF m 199 #[.val (.long q0), .second, .val (.long q1), .second, .val (.long q2), .second, .val (.long q3), .second, .val (.int p4), .val (.int p5), .val (.int v1), .val (.int v2), .val (.int v4), .val (.int v6), .val (.int v7), .val (.ref b8), .val (.ref b9), .val (.ref b11), .unset, .unset, .unset, .unset, .unset] [])) _
    refine XS.aload X87.here hx rfl (hb hby at_199) rfl rfl ?_
    show Steps p.tables e below (T87.setTop (mkF m 201 #[.val (.long q0), .second, .val (.long q1), .second, .val (.long q2), .second, .val (.long q3), .second, .val (.int p4), .val (.int p5), .val (.int v1), .val (.int v2), .val (.int v4), .val (.int v6), .val (.int v7), .val (.ref b8), .val (.ref b9), .val (.ref b11), .unset, .unset, .unset, .unset, .unset] [(.ref b8)])) _
    refine XS.bipush X87.here hx rfl (hb hby at_201) ?_
    show Steps p.tables e below (T87.setTop (mkF m 203 #[.val (.long q0), .second, .val (.long q1), .second, .val (.long q2), .second, .val (.long q3), .second, .val (.int p4), .val (.int p5), .val (.int v1), .val (.int v2), .val (.int v4), .val (.int v6), .val (.int v7), .val (.ref b8), .val (.ref b9), .val (.ref b11), .unset, .unset, .unset, .unset, .unset] [(.int (8 : Int32)), (.ref b8)])) _
    refine XS.aload X87.here hx rfl (hb hby at_203) rfl rfl ?_
    show Steps p.tables e below (T87.setTop (mkF m 205 #[.val (.long q0), .second, .val (.long q1), .second, .val (.long q2), .second, .val (.long q3), .second, .val (.int p4), .val (.int p5), .val (.int v1), .val (.int v2), .val (.int v4), .val (.int v6), .val (.int v7), .val (.ref b8), .val (.ref b9), .val (.ref b11), .unset, .unset, .unset, .unset, .unset] [(.ref b8), (.int (8 : Int32)), (.ref b8)])) _
    refine XS.bipush X87.here hx rfl (hb hby at_205) ?_
    show Steps p.tables e below (T87.setTop (mkF m 207 #[.val (.long q0), .second, .val (.long q1), .second, .val (.long q2), .second, .val (.long q3), .second, .val (.int p4), .val (.int p5), .val (.int v1), .val (.int v2), .val (.int v4), .val (.int v6), .val (.int v7), .val (.ref b8), .val (.ref b9), .val (.ref b11), .unset, .unset, .unset, .unset, .unset] [(.int (7 : Int32)), (.ref b8), (.int (8 : Int32)), (.ref b8)])) _
    refine X87.laload hx (j := (7 : Int32)) (v := (.long v85)) (by rw [e87]; exact Ar88.1) (State.isArrayOf_alike hZ.alike Ar88.2.1) Ar88.2.2 hin88 hat88 (g := (mkF m 207 #[.val (.long q0), .second, .val (.long q1), .second, .val (.long q2), .second, .val (.long q3), .second, .val (.int p4), .val (.int p5), .val (.int v1), .val (.int v2), .val (.int v4), .val (.int v6), .val (.int v7), .val (.ref b8), .val (.ref b9), .val (.ref b11), .unset, .unset, .unset, .unset, .unset] [(.int (7 : Int32)), (.ref b8), (.int (8 : Int32)), (.ref b8)])) rfl rfl (hb hby at_207) _ ?_
    show Steps p.tables e below (T87.setTop (mkF m 208 #[.val (.long q0), .second, .val (.long q1), .second, .val (.long q2), .second, .val (.long q3), .second, .val (.int p4), .val (.int p5), .val (.int v1), .val (.int v2), .val (.int v4), .val (.int v6), .val (.int v7), .val (.ref b8), .val (.ref b9), .val (.ref b11), .unset, .unset, .unset, .unset, .unset] [(.long v85), (.int (8 : Int32)), (.ref b8)])) _
    refine XS.lloadN X87.here hx rfl (hb hby at_208) rfl ?_
    show Steps p.tables e below (T87.setTop (mkF m 209 #[.val (.long q0), .second, .val (.long q1), .second, .val (.long q2), .second, .val (.long q3), .second, .val (.int p4), .val (.int p5), .val (.int v1), .val (.int v2), .val (.int v4), .val (.int v6), .val (.int v7), .val (.ref b8), .val (.ref b9), .val (.ref b11), .unset, .unset, .unset, .unset, .unset] [(.long q1), (.long v85), (.int (8 : Int32)), (.ref b8)])) _
    refine XS.bipush X87.here hx rfl (hb hby at_209) ?_
    show Steps p.tables e below (T87.setTop (mkF m 211 #[.val (.long q0), .second, .val (.long q1), .second, .val (.long q2), .second, .val (.long q3), .second, .val (.int p4), .val (.int p5), .val (.int v1), .val (.int v2), .val (.int v4), .val (.int v6), .val (.int v7), .val (.ref b8), .val (.ref b9), .val (.ref b11), .unset, .unset, .unset, .unset, .unset] [(.int (8 : Int32)), (.long q1), (.long v85), (.int (8 : Int32)), (.ref b8)])) _
    refine XS.iload X87.here hx rfl (hb hby at_211) rfl ?_
    exact kk)
  have Zz90 := (Nat.le_trans Zz80 (Keep.of_wr W87).1)
  have Av91 := (Av81.other W87 (Ne.symm ne_b8_b9))
  have Av92 := (Av82.other W87 (Ne.symm ne_b8_b11))
  obtain ⟨Lg93, X93, N93⟩ : ∃ L' : List Loc, Stand p l e room_1 s m #[(.long q0), (.long q1), (.long q2), (.long q3), (.int p4), (.int p5)] below meth c T87 L' 3 48 ∧ Fr n0 L' := ⟨_, X87, N87⟩
  (try clear e77); (try clear V77); (try clear pre79); (try clear Zz80); (try clear Av81); (try clear Av82); (try clear X83); (try clear N83); (try clear X84); (try clear st84); (try clear N84q); (try clear e84); (try clear N84); (try clear Ar86); (try clear q86); (try clear S86); (try clear Nn86); (try clear H86); (try clear G86); (try clear hin86); (try clear X87); (try clear W87); (try clear st87); (try clear N87); (try clear Ar88); (try clear S88); (try clear H88); (try clear hin88); (try clear hat88)
  obtain ⟨_, _, ⟨T94, L94, k94, n94⟩, -, X94, ⟨Lc94, hQ94, l94, y94, z94⟩, st94⟩ := Jvm.LawKit.callS X93 hx (y := (⟨"com/example/copyleaf/copyleaf/page/PageFirstAtLeastPinLaw", "next", "(JJII)J"⟩ : MethodName)) hown (mvT hZ (hw _ (List.mem_of_getElem? (i := 3) rfl))) (mvT hZ (hw _ (List.mem_of_getElem? (i := 4) rfl))) (mvT hZ (hw _ (List.mem_of_getElem? (i := 5) rfl))) (mvT hZ (hw _ (List.mem_of_getElem? (i := 6) rfl))) (by decide) (backOf (W := 2) (rm1 l Z a0 hw [] v85 q1 (8 : Int32) v2 h87 n0 Zz90) hZ (hw _ (List.mem_of_getElem? (i := 6) rfl)) (hw _ (List.mem_of_getElem? (i := 5) rfl)) (by decide) (by decide)) (g := (mkF m 213 #[.val (.long q0), .second, .val (.long q1), .second, .val (.long q2), .second, .val (.long q3), .second, .val (.int p4), .val (.int p5), .val (.int v1), .val (.int v2), .val (.int v4), .val (.int v6), .val (.int v7), .val (.ref b8), .val (.ref b9), .val (.ref b11), .unset, .unset, .unset, .unset, .unset] [(.int v2), (.int (8 : Int32)), (.long q1), (.long v85), (.int (8 : Int32)), (.ref b8)])) rfl (by rw [hml]; rfl) (argsL := [(.long v85), (.long q1), (.int (8 : Int32)), (.int v2)]) (rest := [(.int (8 : Int32)), (.ref b8)]) (lenOf pd__28JJII_29J rfl) rfl (by show 2 * 0 + _ ≤ _; exact Nat.le_of_eq rfl) (hb hby at_213) (fun _ _ => ⟨rfl, e87, (by decide : 3 + 0 ≤ _), (by decide : 48 + 0 ≤ _)⟩)
  dsimp only [Pt.U, Pt.locs, Pt.cells, Pt.slots] at X94 l94 y94 z94 st94 hQ94
  subst l94 y94 z94
  obtain ⟨rfl, N94q, e94⟩ := hQ94
  have N94 := Fr.app N93 N94q
  obtain ⟨v95, ev95⟩ : ∃ z : Int64, z = (nextF v85 q1 (8 : Int32) v2) := ⟨_, rfl⟩
  obtain ⟨cl96, Ar96, q96, S96, Nn96, H96, G96⟩ := id V87
  have hin96 : ¬ ((8 : Int32) < 0 ∨ cl96.slots.size ≤ ((8 : Int32)).toNatClampNeg) := inb_of S96 ⟨by decide, by decide⟩
  obtain ⟨T97, h97, X97, e97, W97, st97⟩ := stJ X94 hx hZ e94 Ar96 (j := (8 : Int32)) hin96 (g := (mkF m 216 #[.val (.long q0), .second, .val (.long q1), .second, .val (.long q2), .second, .val (.long q3), .second, .val (.int p4), .val (.int p5), .val (.int v1), .val (.int v2), .val (.int v4), .val (.int v6), .val (.int v7), .val (.ref b8), .val (.ref b9), .val (.ref b11), .unset, .unset, .unset, .unset, .unset] [(.long v95), (.int (8 : Int32)), (.ref b8)])) rfl rfl (hb hby at_216)
  have N97 := Fr.snoc X97 N94 g_b8
  have V97 : Arv Z h97 b8 k8 .long (16 : Int32) [(.long v14), (.long v25), (.long v35), (.long v45), (.long v55), (.long v65), (.long v75), (.long v85), (.long v95), (.long (0 : Int64)), (.long (0 : Int64)), (.long (0 : Int64)), (.long (0 : Int64)), (.long (0 : Int64)), (.long (0 : Int64)), (.long (0 : Int64))] (.long (0 : Int64)) := Arv.set Ar96 q96 S96 Nn96 H96 G96 rfl W97 8 rfl (Nat.le_of_ble_eq_true rfl)
  obtain ⟨cl98, Ar98, -, S98, -, H98, -⟩ := id V97
  have hin98 : ¬ ((8 : Int32) < 0 ∨ cl98.slots.size ≤ ((8 : Int32)).toNatClampNeg) := inb_of S98 ⟨by decide, by decide⟩
  have hat98 : cl98.slots[((8 : Int32)).toNatClampNeg]? = some (.long v95) := Has.at H98 hin98 rfl
  have pre99 : ∀ t, Steps p.tables e below (T97.setTop (mkF m 231 #[.val (.long q0), .second, .val (.long q1), .second, .val (.long q2), .second, .val (.long q3), .second, .val (.int p4), .val (.int p5), .val (.int v1), .val (.int v2), .val (.int v4), .val (.int v6), .val (.int v7), .val (.ref b8), .val (.ref b9), .val (.ref b11), .unset, .unset, .unset, .unset, .unset] [(.int v2), (.int (9 : Int32)), (.long q1), (.long v95), (.int (9 : Int32)), (.ref b8)])) t → Steps p.tables e below (s₁.setTop (entryFrame m #[(.long q0), (.long q1), (.long q2), (.long q3), (.int p4), (.int p5)] maxLocals)) t := fun t kk => pre89 t (by
    show Steps p.tables e below (T87.setTop (mkF m 213 #[.val (.long q0), .second, .val (.long q1), .second, .val (.long q2), .second, .val (.long q3), .second, .val (.int p4), .val (.int p5), .val (.int v1), .val (.int v2), .val (.int v4), .val (.int v6), .val (.int v7), .val (.ref b8), .val (.ref b9), .val (.ref b11), .unset, .unset, .unset, .unset, .unset] [(.int v2), (.int (8 : Int32)), (.long q1), (.long v85), (.int (8 : Int32)), (.ref b8)])) _
    refine st94 _ ?_
    show Steps p.tables e below (T94.setTop (mkF m 216 #[.val (.long q0), .second, .val (.long q1), .second, .val (.long q2), .second, .val (.long q3), .second, .val (.int p4), .val (.int p5), .val (.int v1), .val (.int v2), .val (.int v4), .val (.int v6), .val (.int v7), .val (.ref b8), .val (.ref b9), .val (.ref b11), .unset, .unset, .unset, .unset, .unset] [(.long (nextF v85 q1 (8 : Int32) v2)), (.int (8 : Int32)), (.ref b8)])) _
    rw [← ev95]
    show Steps p.tables e below (T94.setTop (mkF m 216 #[.val (.long q0), .second, .val (.long q1), .second, .val (.long q2), .second, .val (.long q3), .second, .val (.int p4), .val (.int p5), .val (.int v1), .val (.int v2), .val (.int v4), .val (.int v6), .val (.int v7), .val (.ref b8), .val (.ref b9), .val (.ref b11), .unset, .unset, .unset, .unset, .unset] [(.long v95), (.int (8 : Int32)), (.ref b8)])) _
    refine st97 _ ?_
    show Steps p.tables e below (T97.setTop (mkF m 217 #[.val (.long q0), .second, .val (.long q1), .second, .val (.long q2), .second, .val (.long q3), .second, .val (.int p4), .val (.int p5), .val (.int v1), .val (.int v2), .val (.int v4), .val (.int v6), .val (.int v7), .val (.ref b8), .val (.ref b9), .val (.ref b11), .unset, .unset, .unset, .unset, .unset] [])) _
    refine XS.aload X97.here hx rfl (hb hby at_217) rfl rfl ?_
    show Steps p.tables e below (T97.setTop (mkF m 219 #[.val (.long q0), .second, .val (.long q1), .second, .val (.long q2), .second, .val (.long q3), .second, .val (.int p4), .val (.int p5), .val (.int v1), .val (.int v2), .val (.int v4), .val (.int v6), .val (.int v7), .val (.ref b8), .val (.ref b9), .val (.ref b11), .unset, .unset, .unset, .unset, .unset] [(.ref b8)])) _
    refine XS.bipush X97.here hx rfl (hb hby at_219) ?_
    show Steps p.tables e below (T97.setTop (mkF m 221 #[.val (.long q0), .second, .val (.long q1), .second, .val (.long q2), .second, .val (.long q3), .second, .val (.int p4), .val (.int p5), .val (.int v1), .val (.int v2), .val (.int v4), .val (.int v6), .val (.int v7), .val (.ref b8), .val (.ref b9), .val (.ref b11), .unset, .unset, .unset, .unset, .unset] [(.int (9 : Int32)), (.ref b8)])) _
    refine XS.aload X97.here hx rfl (hb hby at_221) rfl rfl ?_
    show Steps p.tables e below (T97.setTop (mkF m 223 #[.val (.long q0), .second, .val (.long q1), .second, .val (.long q2), .second, .val (.long q3), .second, .val (.int p4), .val (.int p5), .val (.int v1), .val (.int v2), .val (.int v4), .val (.int v6), .val (.int v7), .val (.ref b8), .val (.ref b9), .val (.ref b11), .unset, .unset, .unset, .unset, .unset] [(.ref b8), (.int (9 : Int32)), (.ref b8)])) _
    refine XS.bipush X97.here hx rfl (hb hby at_223) ?_
    show Steps p.tables e below (T97.setTop (mkF m 225 #[.val (.long q0), .second, .val (.long q1), .second, .val (.long q2), .second, .val (.long q3), .second, .val (.int p4), .val (.int p5), .val (.int v1), .val (.int v2), .val (.int v4), .val (.int v6), .val (.int v7), .val (.ref b8), .val (.ref b9), .val (.ref b11), .unset, .unset, .unset, .unset, .unset] [(.int (8 : Int32)), (.ref b8), (.int (9 : Int32)), (.ref b8)])) _
    refine X97.laload hx (j := (8 : Int32)) (v := (.long v95)) (by rw [e97]; exact Ar98.1) (State.isArrayOf_alike hZ.alike Ar98.2.1) Ar98.2.2 hin98 hat98 (g := (mkF m 225 #[.val (.long q0), .second, .val (.long q1), .second, .val (.long q2), .second, .val (.long q3), .second, .val (.int p4), .val (.int p5), .val (.int v1), .val (.int v2), .val (.int v4), .val (.int v6), .val (.int v7), .val (.ref b8), .val (.ref b9), .val (.ref b11), .unset, .unset, .unset, .unset, .unset] [(.int (8 : Int32)), (.ref b8), (.int (9 : Int32)), (.ref b8)])) rfl rfl (hb hby at_225) _ ?_
    show Steps p.tables e below (T97.setTop (mkF m 226 #[.val (.long q0), .second, .val (.long q1), .second, .val (.long q2), .second, .val (.long q3), .second, .val (.int p4), .val (.int p5), .val (.int v1), .val (.int v2), .val (.int v4), .val (.int v6), .val (.int v7), .val (.ref b8), .val (.ref b9), .val (.ref b11), .unset, .unset, .unset, .unset, .unset] [(.long v95), (.int (9 : Int32)), (.ref b8)])) _
    refine XS.lloadN X97.here hx rfl (hb hby at_226) rfl ?_
    show Steps p.tables e below (T97.setTop (mkF m 227 #[.val (.long q0), .second, .val (.long q1), .second, .val (.long q2), .second, .val (.long q3), .second, .val (.int p4), .val (.int p5), .val (.int v1), .val (.int v2), .val (.int v4), .val (.int v6), .val (.int v7), .val (.ref b8), .val (.ref b9), .val (.ref b11), .unset, .unset, .unset, .unset, .unset] [(.long q1), (.long v95), (.int (9 : Int32)), (.ref b8)])) _
    refine XS.bipush X97.here hx rfl (hb hby at_227) ?_
    show Steps p.tables e below (T97.setTop (mkF m 229 #[.val (.long q0), .second, .val (.long q1), .second, .val (.long q2), .second, .val (.long q3), .second, .val (.int p4), .val (.int p5), .val (.int v1), .val (.int v2), .val (.int v4), .val (.int v6), .val (.int v7), .val (.ref b8), .val (.ref b9), .val (.ref b11), .unset, .unset, .unset, .unset, .unset] [(.int (9 : Int32)), (.long q1), (.long v95), (.int (9 : Int32)), (.ref b8)])) _
    refine XS.iload X97.here hx rfl (hb hby at_229) rfl ?_
    exact kk)
  have Zz100 := (Nat.le_trans Zz90 (Keep.of_wr W97).1)
  have Av101 := (Av91.other W97 (Ne.symm ne_b8_b9))
  have Av102 := (Av92.other W97 (Ne.symm ne_b8_b11))
  obtain ⟨Lg103, X103, N103⟩ : ∃ L' : List Loc, Stand p l e room_1 s m #[(.long q0), (.long q1), (.long q2), (.long q3), (.int p4), (.int p5)] below meth c T97 L' 3 48 ∧ Fr n0 L' := ⟨_, X97, N97⟩
  (try clear e87); (try clear V87); (try clear pre89); (try clear Zz90); (try clear Av91); (try clear Av92); (try clear X93); (try clear N93); (try clear X94); (try clear st94); (try clear N94q); (try clear e94); (try clear N94); (try clear Ar96); (try clear q96); (try clear S96); (try clear Nn96); (try clear H96); (try clear G96); (try clear hin96); (try clear X97); (try clear W97); (try clear st97); (try clear N97); (try clear Ar98); (try clear S98); (try clear H98); (try clear hin98); (try clear hat98)
  obtain ⟨_, _, ⟨T104, L104, k104, n104⟩, -, X104, ⟨Lc104, hQ104, l104, y104, z104⟩, st104⟩ := Jvm.LawKit.callS X103 hx (y := (⟨"com/example/copyleaf/copyleaf/page/PageFirstAtLeastPinLaw", "next", "(JJII)J"⟩ : MethodName)) hown (mvT hZ (hw _ (List.mem_of_getElem? (i := 3) rfl))) (mvT hZ (hw _ (List.mem_of_getElem? (i := 4) rfl))) (mvT hZ (hw _ (List.mem_of_getElem? (i := 5) rfl))) (mvT hZ (hw _ (List.mem_of_getElem? (i := 6) rfl))) (by decide) (backOf (W := 2) (rm1 l Z a0 hw [] v95 q1 (9 : Int32) v2 h97 n0 Zz100) hZ (hw _ (List.mem_of_getElem? (i := 6) rfl)) (hw _ (List.mem_of_getElem? (i := 5) rfl)) (by decide) (by decide)) (g := (mkF m 231 #[.val (.long q0), .second, .val (.long q1), .second, .val (.long q2), .second, .val (.long q3), .second, .val (.int p4), .val (.int p5), .val (.int v1), .val (.int v2), .val (.int v4), .val (.int v6), .val (.int v7), .val (.ref b8), .val (.ref b9), .val (.ref b11), .unset, .unset, .unset, .unset, .unset] [(.int v2), (.int (9 : Int32)), (.long q1), (.long v95), (.int (9 : Int32)), (.ref b8)])) rfl (by rw [hml]; rfl) (argsL := [(.long v95), (.long q1), (.int (9 : Int32)), (.int v2)]) (rest := [(.int (9 : Int32)), (.ref b8)]) (lenOf pd__28JJII_29J rfl) rfl (by show 2 * 0 + _ ≤ _; exact Nat.le_of_eq rfl) (hb hby at_231) (fun _ _ => ⟨rfl, e97, (by decide : 3 + 0 ≤ _), (by decide : 48 + 0 ≤ _)⟩)
  dsimp only [Pt.U, Pt.locs, Pt.cells, Pt.slots] at X104 l104 y104 z104 st104 hQ104
  subst l104 y104 z104
  obtain ⟨rfl, N104q, e104⟩ := hQ104
  have N104 := Fr.app N103 N104q
  obtain ⟨v105, ev105⟩ : ∃ z : Int64, z = (nextF v95 q1 (9 : Int32) v2) := ⟨_, rfl⟩
  obtain ⟨cl106, Ar106, q106, S106, Nn106, H106, G106⟩ := id V97
  have hin106 : ¬ ((9 : Int32) < 0 ∨ cl106.slots.size ≤ ((9 : Int32)).toNatClampNeg) := inb_of S106 ⟨by decide, by decide⟩
  obtain ⟨T107, h107, X107, e107, W107, st107⟩ := stJ X104 hx hZ e104 Ar106 (j := (9 : Int32)) hin106 (g := (mkF m 234 #[.val (.long q0), .second, .val (.long q1), .second, .val (.long q2), .second, .val (.long q3), .second, .val (.int p4), .val (.int p5), .val (.int v1), .val (.int v2), .val (.int v4), .val (.int v6), .val (.int v7), .val (.ref b8), .val (.ref b9), .val (.ref b11), .unset, .unset, .unset, .unset, .unset] [(.long v105), (.int (9 : Int32)), (.ref b8)])) rfl rfl (hb hby at_234)
  have N107 := Fr.snoc X107 N104 g_b8
  have V107 : Arv Z h107 b8 k8 .long (16 : Int32) [(.long v14), (.long v25), (.long v35), (.long v45), (.long v55), (.long v65), (.long v75), (.long v85), (.long v95), (.long v105), (.long (0 : Int64)), (.long (0 : Int64)), (.long (0 : Int64)), (.long (0 : Int64)), (.long (0 : Int64)), (.long (0 : Int64))] (.long (0 : Int64)) := Arv.set Ar106 q106 S106 Nn106 H106 G106 rfl W107 9 rfl (Nat.le_of_ble_eq_true rfl)
  obtain ⟨cl108, Ar108, -, S108, -, H108, -⟩ := id V107
  have hin108 : ¬ ((9 : Int32) < 0 ∨ cl108.slots.size ≤ ((9 : Int32)).toNatClampNeg) := inb_of S108 ⟨by decide, by decide⟩
  have hat108 : cl108.slots[((9 : Int32)).toNatClampNeg]? = some (.long v105) := Has.at H108 hin108 rfl
  have pre109 : ∀ t, Steps p.tables e below (T107.setTop (mkF m 249 #[.val (.long q0), .second, .val (.long q1), .second, .val (.long q2), .second, .val (.long q3), .second, .val (.int p4), .val (.int p5), .val (.int v1), .val (.int v2), .val (.int v4), .val (.int v6), .val (.int v7), .val (.ref b8), .val (.ref b9), .val (.ref b11), .unset, .unset, .unset, .unset, .unset] [(.int v2), (.int (10 : Int32)), (.long q1), (.long v105), (.int (10 : Int32)), (.ref b8)])) t → Steps p.tables e below (s₁.setTop (entryFrame m #[(.long q0), (.long q1), (.long q2), (.long q3), (.int p4), (.int p5)] maxLocals)) t := fun t kk => pre99 t (by
    show Steps p.tables e below (T97.setTop (mkF m 231 #[.val (.long q0), .second, .val (.long q1), .second, .val (.long q2), .second, .val (.long q3), .second, .val (.int p4), .val (.int p5), .val (.int v1), .val (.int v2), .val (.int v4), .val (.int v6), .val (.int v7), .val (.ref b8), .val (.ref b9), .val (.ref b11), .unset, .unset, .unset, .unset, .unset] [(.int v2), (.int (9 : Int32)), (.long q1), (.long v95), (.int (9 : Int32)), (.ref b8)])) _
    refine st104 _ ?_
    show Steps p.tables e below (T104.setTop (mkF m 234 #[.val (.long q0), .second, .val (.long q1), .second, .val (.long q2), .second, .val (.long q3), .second, .val (.int p4), .val (.int p5), .val (.int v1), .val (.int v2), .val (.int v4), .val (.int v6), .val (.int v7), .val (.ref b8), .val (.ref b9), .val (.ref b11), .unset, .unset, .unset, .unset, .unset] [(.long (nextF v95 q1 (9 : Int32) v2)), (.int (9 : Int32)), (.ref b8)])) _
    rw [← ev105]
    show Steps p.tables e below (T104.setTop (mkF m 234 #[.val (.long q0), .second, .val (.long q1), .second, .val (.long q2), .second, .val (.long q3), .second, .val (.int p4), .val (.int p5), .val (.int v1), .val (.int v2), .val (.int v4), .val (.int v6), .val (.int v7), .val (.ref b8), .val (.ref b9), .val (.ref b11), .unset, .unset, .unset, .unset, .unset] [(.long v105), (.int (9 : Int32)), (.ref b8)])) _
    refine st107 _ ?_
    show Steps p.tables e below (T107.setTop (mkF m 235 #[.val (.long q0), .second, .val (.long q1), .second, .val (.long q2), .second, .val (.long q3), .second, .val (.int p4), .val (.int p5), .val (.int v1), .val (.int v2), .val (.int v4), .val (.int v6), .val (.int v7), .val (.ref b8), .val (.ref b9), .val (.ref b11), .unset, .unset, .unset, .unset, .unset] [])) _
    refine XS.aload X107.here hx rfl (hb hby at_235) rfl rfl ?_
    show Steps p.tables e below (T107.setTop (mkF m 237 #[.val (.long q0), .second, .val (.long q1), .second, .val (.long q2), .second, .val (.long q3), .second, .val (.int p4), .val (.int p5), .val (.int v1), .val (.int v2), .val (.int v4), .val (.int v6), .val (.int v7), .val (.ref b8), .val (.ref b9), .val (.ref b11), .unset, .unset, .unset, .unset, .unset] [(.ref b8)])) _
    refine XS.bipush X107.here hx rfl (hb hby at_237) ?_
    show Steps p.tables e below (T107.setTop (mkF m 239 #[.val (.long q0), .second, .val (.long q1), .second, .val (.long q2), .second, .val (.long q3), .second, .val (.int p4), .val (.int p5), .val (.int v1), .val (.int v2), .val (.int v4), .val (.int v6), .val (.int v7), .val (.ref b8), .val (.ref b9), .val (.ref b11), .unset, .unset, .unset, .unset, .unset] [(.int (10 : Int32)), (.ref b8)])) _
    refine XS.aload X107.here hx rfl (hb hby at_239) rfl rfl ?_
    show Steps p.tables e below (T107.setTop (mkF m 241 #[.val (.long q0), .second, .val (.long q1), .second, .val (.long q2), .second, .val (.long q3), .second, .val (.int p4), .val (.int p5), .val (.int v1), .val (.int v2), .val (.int v4), .val (.int v6), .val (.int v7), .val (.ref b8), .val (.ref b9), .val (.ref b11), .unset, .unset, .unset, .unset, .unset] [(.ref b8), (.int (10 : Int32)), (.ref b8)])) _
    refine XS.bipush X107.here hx rfl (hb hby at_241) ?_
    show Steps p.tables e below (T107.setTop (mkF m 243 #[.val (.long q0), .second, .val (.long q1), .second, .val (.long q2), .second, .val (.long q3), .second, .val (.int p4), .val (.int p5), .val (.int v1), .val (.int v2), .val (.int v4), .val (.int v6), .val (.int v7), .val (.ref b8), .val (.ref b9), .val (.ref b11), .unset, .unset, .unset, .unset, .unset] [(.int (9 : Int32)), (.ref b8), (.int (10 : Int32)), (.ref b8)])) _
    refine X107.laload hx (j := (9 : Int32)) (v := (.long v105)) (by rw [e107]; exact Ar108.1) (State.isArrayOf_alike hZ.alike Ar108.2.1) Ar108.2.2 hin108 hat108 (g := (mkF m 243 #[.val (.long q0), .second, .val (.long q1), .second, .val (.long q2), .second, .val (.long q3), .second, .val (.int p4), .val (.int p5), .val (.int v1), .val (.int v2), .val (.int v4), .val (.int v6), .val (.int v7), .val (.ref b8), .val (.ref b9), .val (.ref b11), .unset, .unset, .unset, .unset, .unset] [(.int (9 : Int32)), (.ref b8), (.int (10 : Int32)), (.ref b8)])) rfl rfl (hb hby at_243) _ ?_
    show Steps p.tables e below (T107.setTop (mkF m 244 #[.val (.long q0), .second, .val (.long q1), .second, .val (.long q2), .second, .val (.long q3), .second, .val (.int p4), .val (.int p5), .val (.int v1), .val (.int v2), .val (.int v4), .val (.int v6), .val (.int v7), .val (.ref b8), .val (.ref b9), .val (.ref b11), .unset, .unset, .unset, .unset, .unset] [(.long v105), (.int (10 : Int32)), (.ref b8)])) _
    refine XS.lloadN X107.here hx rfl (hb hby at_244) rfl ?_
    show Steps p.tables e below (T107.setTop (mkF m 245 #[.val (.long q0), .second, .val (.long q1), .second, .val (.long q2), .second, .val (.long q3), .second, .val (.int p4), .val (.int p5), .val (.int v1), .val (.int v2), .val (.int v4), .val (.int v6), .val (.int v7), .val (.ref b8), .val (.ref b9), .val (.ref b11), .unset, .unset, .unset, .unset, .unset] [(.long q1), (.long v105), (.int (10 : Int32)), (.ref b8)])) _
    refine XS.bipush X107.here hx rfl (hb hby at_245) ?_
    show Steps p.tables e below (T107.setTop (mkF m 247 #[.val (.long q0), .second, .val (.long q1), .second, .val (.long q2), .second, .val (.long q3), .second, .val (.int p4), .val (.int p5), .val (.int v1), .val (.int v2), .val (.int v4), .val (.int v6), .val (.int v7), .val (.ref b8), .val (.ref b9), .val (.ref b11), .unset, .unset, .unset, .unset, .unset] [(.int (10 : Int32)), (.long q1), (.long v105), (.int (10 : Int32)), (.ref b8)])) _
    refine XS.iload X107.here hx rfl (hb hby at_247) rfl ?_
    exact kk)
  have Zz110 := (Nat.le_trans Zz100 (Keep.of_wr W107).1)
  have Av111 := (Av101.other W107 (Ne.symm ne_b8_b9))
  have Av112 := (Av102.other W107 (Ne.symm ne_b8_b11))
  obtain ⟨Lg113, X113, N113⟩ : ∃ L' : List Loc, Stand p l e room_1 s m #[(.long q0), (.long q1), (.long q2), (.long q3), (.int p4), (.int p5)] below meth c T107 L' 3 48 ∧ Fr n0 L' := ⟨_, X107, N107⟩
  (try clear e97); (try clear V97); (try clear pre99); (try clear Zz100); (try clear Av101); (try clear Av102); (try clear X103); (try clear N103); (try clear X104); (try clear st104); (try clear N104q); (try clear e104); (try clear N104); (try clear Ar106); (try clear q106); (try clear S106); (try clear Nn106); (try clear H106); (try clear G106); (try clear hin106); (try clear X107); (try clear W107); (try clear st107); (try clear N107); (try clear Ar108); (try clear S108); (try clear H108); (try clear hin108); (try clear hat108)
  obtain ⟨_, _, ⟨T114, L114, k114, n114⟩, -, X114, ⟨Lc114, hQ114, l114, y114, z114⟩, st114⟩ := Jvm.LawKit.callS X113 hx (y := (⟨"com/example/copyleaf/copyleaf/page/PageFirstAtLeastPinLaw", "next", "(JJII)J"⟩ : MethodName)) hown (mvT hZ (hw _ (List.mem_of_getElem? (i := 3) rfl))) (mvT hZ (hw _ (List.mem_of_getElem? (i := 4) rfl))) (mvT hZ (hw _ (List.mem_of_getElem? (i := 5) rfl))) (mvT hZ (hw _ (List.mem_of_getElem? (i := 6) rfl))) (by decide) (backOf (W := 2) (rm1 l Z a0 hw [] v105 q1 (10 : Int32) v2 h107 n0 Zz110) hZ (hw _ (List.mem_of_getElem? (i := 6) rfl)) (hw _ (List.mem_of_getElem? (i := 5) rfl)) (by decide) (by decide)) (g := (mkF m 249 #[.val (.long q0), .second, .val (.long q1), .second, .val (.long q2), .second, .val (.long q3), .second, .val (.int p4), .val (.int p5), .val (.int v1), .val (.int v2), .val (.int v4), .val (.int v6), .val (.int v7), .val (.ref b8), .val (.ref b9), .val (.ref b11), .unset, .unset, .unset, .unset, .unset] [(.int v2), (.int (10 : Int32)), (.long q1), (.long v105), (.int (10 : Int32)), (.ref b8)])) rfl (by rw [hml]; rfl) (argsL := [(.long v105), (.long q1), (.int (10 : Int32)), (.int v2)]) (rest := [(.int (10 : Int32)), (.ref b8)]) (lenOf pd__28JJII_29J rfl) rfl (by show 2 * 0 + _ ≤ _; exact Nat.le_of_eq rfl) (hb hby at_249) (fun _ _ => ⟨rfl, e107, (by decide : 3 + 0 ≤ _), (by decide : 48 + 0 ≤ _)⟩)
  dsimp only [Pt.U, Pt.locs, Pt.cells, Pt.slots] at X114 l114 y114 z114 st114 hQ114
  subst l114 y114 z114
  obtain ⟨rfl, N114q, e114⟩ := hQ114
  have N114 := Fr.app N113 N114q
  obtain ⟨v115, ev115⟩ : ∃ z : Int64, z = (nextF v105 q1 (10 : Int32) v2) := ⟨_, rfl⟩
  obtain ⟨cl116, Ar116, q116, S116, Nn116, H116, G116⟩ := id V107
  have hin116 : ¬ ((10 : Int32) < 0 ∨ cl116.slots.size ≤ ((10 : Int32)).toNatClampNeg) := inb_of S116 ⟨by decide, by decide⟩
  obtain ⟨T117, h117, X117, e117, W117, st117⟩ := stJ X114 hx hZ e114 Ar116 (j := (10 : Int32)) hin116 (g := (mkF m 252 #[.val (.long q0), .second, .val (.long q1), .second, .val (.long q2), .second, .val (.long q3), .second, .val (.int p4), .val (.int p5), .val (.int v1), .val (.int v2), .val (.int v4), .val (.int v6), .val (.int v7), .val (.ref b8), .val (.ref b9), .val (.ref b11), .unset, .unset, .unset, .unset, .unset] [(.long v115), (.int (10 : Int32)), (.ref b8)])) rfl rfl (hb hby at_252)
  have N117 := Fr.snoc X117 N114 g_b8
  have V117 : Arv Z h117 b8 k8 .long (16 : Int32) [(.long v14), (.long v25), (.long v35), (.long v45), (.long v55), (.long v65), (.long v75), (.long v85), (.long v95), (.long v105), (.long v115), (.long (0 : Int64)), (.long (0 : Int64)), (.long (0 : Int64)), (.long (0 : Int64)), (.long (0 : Int64))] (.long (0 : Int64)) := Arv.set Ar116 q116 S116 Nn116 H116 G116 rfl W117 10 rfl (Nat.le_of_ble_eq_true rfl)
  obtain ⟨cl118, Ar118, -, S118, -, H118, -⟩ := id V117
  have hin118 : ¬ ((10 : Int32) < 0 ∨ cl118.slots.size ≤ ((10 : Int32)).toNatClampNeg) := inb_of S118 ⟨by decide, by decide⟩
  have hat118 : cl118.slots[((10 : Int32)).toNatClampNeg]? = some (.long v115) := Has.at H118 hin118 rfl
  have pre119 : ∀ t, Steps p.tables e below (T117.setTop (mkF m 267 #[.val (.long q0), .second, .val (.long q1), .second, .val (.long q2), .second, .val (.long q3), .second, .val (.int p4), .val (.int p5), .val (.int v1), .val (.int v2), .val (.int v4), .val (.int v6), .val (.int v7), .val (.ref b8), .val (.ref b9), .val (.ref b11), .unset, .unset, .unset, .unset, .unset] [(.int v2), (.int (11 : Int32)), (.long q1), (.long v115), (.int (11 : Int32)), (.ref b8)])) t → Steps p.tables e below (s₁.setTop (entryFrame m #[(.long q0), (.long q1), (.long q2), (.long q3), (.int p4), (.int p5)] maxLocals)) t := fun t kk => pre109 t (by
    show Steps p.tables e below (T107.setTop (mkF m 249 #[.val (.long q0), .second, .val (.long q1), .second, .val (.long q2), .second, .val (.long q3), .second, .val (.int p4), .val (.int p5), .val (.int v1), .val (.int v2), .val (.int v4), .val (.int v6), .val (.int v7), .val (.ref b8), .val (.ref b9), .val (.ref b11), .unset, .unset, .unset, .unset, .unset] [(.int v2), (.int (10 : Int32)), (.long q1), (.long v105), (.int (10 : Int32)), (.ref b8)])) _
    refine st114 _ ?_
    show Steps p.tables e below (T114.setTop (mkF m 252 #[.val (.long q0), .second, .val (.long q1), .second, .val (.long q2), .second, .val (.long q3), .second, .val (.int p4), .val (.int p5), .val (.int v1), .val (.int v2), .val (.int v4), .val (.int v6), .val (.int v7), .val (.ref b8), .val (.ref b9), .val (.ref b11), .unset, .unset, .unset, .unset, .unset] [(.long (nextF v105 q1 (10 : Int32) v2)), (.int (10 : Int32)), (.ref b8)])) _
    rw [← ev115]
    show Steps p.tables e below (T114.setTop (mkF m 252 #[.val (.long q0), .second, .val (.long q1), .second, .val (.long q2), .second, .val (.long q3), .second, .val (.int p4), .val (.int p5), .val (.int v1), .val (.int v2), .val (.int v4), .val (.int v6), .val (.int v7), .val (.ref b8), .val (.ref b9), .val (.ref b11), .unset, .unset, .unset, .unset, .unset] [(.long v115), (.int (10 : Int32)), (.ref b8)])) _
    refine st117 _ ?_
    show Steps p.tables e below (T117.setTop (mkF m 253 #[.val (.long q0), .second, .val (.long q1), .second, .val (.long q2), .second, .val (.long q3), .second, .val (.int p4), .val (.int p5), .val (.int v1), .val (.int v2), .val (.int v4), .val (.int v6), .val (.int v7), .val (.ref b8), .val (.ref b9), .val (.ref b11), .unset, .unset, .unset, .unset, .unset] [])) _
    refine XS.aload X117.here hx rfl (hb hby at_253) rfl rfl ?_
    show Steps p.tables e below (T117.setTop (mkF m 255 #[.val (.long q0), .second, .val (.long q1), .second, .val (.long q2), .second, .val (.long q3), .second, .val (.int p4), .val (.int p5), .val (.int v1), .val (.int v2), .val (.int v4), .val (.int v6), .val (.int v7), .val (.ref b8), .val (.ref b9), .val (.ref b11), .unset, .unset, .unset, .unset, .unset] [(.ref b8)])) _
    refine XS.bipush X117.here hx rfl (hb hby at_255) ?_
    show Steps p.tables e below (T117.setTop (mkF m 257 #[.val (.long q0), .second, .val (.long q1), .second, .val (.long q2), .second, .val (.long q3), .second, .val (.int p4), .val (.int p5), .val (.int v1), .val (.int v2), .val (.int v4), .val (.int v6), .val (.int v7), .val (.ref b8), .val (.ref b9), .val (.ref b11), .unset, .unset, .unset, .unset, .unset] [(.int (11 : Int32)), (.ref b8)])) _
    refine XS.aload X117.here hx rfl (hb hby at_257) rfl rfl ?_
    show Steps p.tables e below (T117.setTop (mkF m 259 #[.val (.long q0), .second, .val (.long q1), .second, .val (.long q2), .second, .val (.long q3), .second, .val (.int p4), .val (.int p5), .val (.int v1), .val (.int v2), .val (.int v4), .val (.int v6), .val (.int v7), .val (.ref b8), .val (.ref b9), .val (.ref b11), .unset, .unset, .unset, .unset, .unset] [(.ref b8), (.int (11 : Int32)), (.ref b8)])) _
    refine XS.bipush X117.here hx rfl (hb hby at_259) ?_
    show Steps p.tables e below (T117.setTop (mkF m 261 #[.val (.long q0), .second, .val (.long q1), .second, .val (.long q2), .second, .val (.long q3), .second, .val (.int p4), .val (.int p5), .val (.int v1), .val (.int v2), .val (.int v4), .val (.int v6), .val (.int v7), .val (.ref b8), .val (.ref b9), .val (.ref b11), .unset, .unset, .unset, .unset, .unset] [(.int (10 : Int32)), (.ref b8), (.int (11 : Int32)), (.ref b8)])) _
    refine X117.laload hx (j := (10 : Int32)) (v := (.long v115)) (by rw [e117]; exact Ar118.1) (State.isArrayOf_alike hZ.alike Ar118.2.1) Ar118.2.2 hin118 hat118 (g := (mkF m 261 #[.val (.long q0), .second, .val (.long q1), .second, .val (.long q2), .second, .val (.long q3), .second, .val (.int p4), .val (.int p5), .val (.int v1), .val (.int v2), .val (.int v4), .val (.int v6), .val (.int v7), .val (.ref b8), .val (.ref b9), .val (.ref b11), .unset, .unset, .unset, .unset, .unset] [(.int (10 : Int32)), (.ref b8), (.int (11 : Int32)), (.ref b8)])) rfl rfl (hb hby at_261) _ ?_
    show Steps p.tables e below (T117.setTop (mkF m 262 #[.val (.long q0), .second, .val (.long q1), .second, .val (.long q2), .second, .val (.long q3), .second, .val (.int p4), .val (.int p5), .val (.int v1), .val (.int v2), .val (.int v4), .val (.int v6), .val (.int v7), .val (.ref b8), .val (.ref b9), .val (.ref b11), .unset, .unset, .unset, .unset, .unset] [(.long v115), (.int (11 : Int32)), (.ref b8)])) _
    refine XS.lloadN X117.here hx rfl (hb hby at_262) rfl ?_
    show Steps p.tables e below (T117.setTop (mkF m 263 #[.val (.long q0), .second, .val (.long q1), .second, .val (.long q2), .second, .val (.long q3), .second, .val (.int p4), .val (.int p5), .val (.int v1), .val (.int v2), .val (.int v4), .val (.int v6), .val (.int v7), .val (.ref b8), .val (.ref b9), .val (.ref b11), .unset, .unset, .unset, .unset, .unset] [(.long q1), (.long v115), (.int (11 : Int32)), (.ref b8)])) _
    refine XS.bipush X117.here hx rfl (hb hby at_263) ?_
    show Steps p.tables e below (T117.setTop (mkF m 265 #[.val (.long q0), .second, .val (.long q1), .second, .val (.long q2), .second, .val (.long q3), .second, .val (.int p4), .val (.int p5), .val (.int v1), .val (.int v2), .val (.int v4), .val (.int v6), .val (.int v7), .val (.ref b8), .val (.ref b9), .val (.ref b11), .unset, .unset, .unset, .unset, .unset] [(.int (11 : Int32)), (.long q1), (.long v115), (.int (11 : Int32)), (.ref b8)])) _
    refine XS.iload X117.here hx rfl (hb hby at_265) rfl ?_
    exact kk)
  have Zz120 := (Nat.le_trans Zz110 (Keep.of_wr W117).1)
  have Av121 := (Av111.other W117 (Ne.symm ne_b8_b9))
  have Av122 := (Av112.other W117 (Ne.symm ne_b8_b11))
  obtain ⟨Lg123, X123, N123⟩ : ∃ L' : List Loc, Stand p l e room_1 s m #[(.long q0), (.long q1), (.long q2), (.long q3), (.int p4), (.int p5)] below meth c T117 L' 3 48 ∧ Fr n0 L' := ⟨_, X117, N117⟩
  (try clear e107); (try clear V107); (try clear pre109); (try clear Zz110); (try clear Av111); (try clear Av112); (try clear X113); (try clear N113); (try clear X114); (try clear st114); (try clear N114q); (try clear e114); (try clear N114); (try clear Ar116); (try clear q116); (try clear S116); (try clear Nn116); (try clear H116); (try clear G116); (try clear hin116); (try clear X117); (try clear W117); (try clear st117); (try clear N117); (try clear Ar118); (try clear S118); (try clear H118); (try clear hin118); (try clear hat118)
  obtain ⟨_, _, ⟨T124, L124, k124, n124⟩, -, X124, ⟨Lc124, hQ124, l124, y124, z124⟩, st124⟩ := Jvm.LawKit.callS X123 hx (y := (⟨"com/example/copyleaf/copyleaf/page/PageFirstAtLeastPinLaw", "next", "(JJII)J"⟩ : MethodName)) hown (mvT hZ (hw _ (List.mem_of_getElem? (i := 3) rfl))) (mvT hZ (hw _ (List.mem_of_getElem? (i := 4) rfl))) (mvT hZ (hw _ (List.mem_of_getElem? (i := 5) rfl))) (mvT hZ (hw _ (List.mem_of_getElem? (i := 6) rfl))) (by decide) (backOf (W := 2) (rm1 l Z a0 hw [] v115 q1 (11 : Int32) v2 h117 n0 Zz120) hZ (hw _ (List.mem_of_getElem? (i := 6) rfl)) (hw _ (List.mem_of_getElem? (i := 5) rfl)) (by decide) (by decide)) (g := (mkF m 267 #[.val (.long q0), .second, .val (.long q1), .second, .val (.long q2), .second, .val (.long q3), .second, .val (.int p4), .val (.int p5), .val (.int v1), .val (.int v2), .val (.int v4), .val (.int v6), .val (.int v7), .val (.ref b8), .val (.ref b9), .val (.ref b11), .unset, .unset, .unset, .unset, .unset] [(.int v2), (.int (11 : Int32)), (.long q1), (.long v115), (.int (11 : Int32)), (.ref b8)])) rfl (by rw [hml]; rfl) (argsL := [(.long v115), (.long q1), (.int (11 : Int32)), (.int v2)]) (rest := [(.int (11 : Int32)), (.ref b8)]) (lenOf pd__28JJII_29J rfl) rfl (by show 2 * 0 + _ ≤ _; exact Nat.le_of_eq rfl) (hb hby at_267) (fun _ _ => ⟨rfl, e117, (by decide : 3 + 0 ≤ _), (by decide : 48 + 0 ≤ _)⟩)
  dsimp only [Pt.U, Pt.locs, Pt.cells, Pt.slots] at X124 l124 y124 z124 st124 hQ124
  subst l124 y124 z124
  obtain ⟨rfl, N124q, e124⟩ := hQ124
  have N124 := Fr.app N123 N124q
  obtain ⟨v125, ev125⟩ : ∃ z : Int64, z = (nextF v115 q1 (11 : Int32) v2) := ⟨_, rfl⟩
  obtain ⟨cl126, Ar126, q126, S126, Nn126, H126, G126⟩ := id V117
  have hin126 : ¬ ((11 : Int32) < 0 ∨ cl126.slots.size ≤ ((11 : Int32)).toNatClampNeg) := inb_of S126 ⟨by decide, by decide⟩
  obtain ⟨T127, h127, X127, e127, W127, st127⟩ := stJ X124 hx hZ e124 Ar126 (j := (11 : Int32)) hin126 (g := (mkF m 270 #[.val (.long q0), .second, .val (.long q1), .second, .val (.long q2), .second, .val (.long q3), .second, .val (.int p4), .val (.int p5), .val (.int v1), .val (.int v2), .val (.int v4), .val (.int v6), .val (.int v7), .val (.ref b8), .val (.ref b9), .val (.ref b11), .unset, .unset, .unset, .unset, .unset] [(.long v125), (.int (11 : Int32)), (.ref b8)])) rfl rfl (hb hby at_270)
  have N127 := Fr.snoc X127 N124 g_b8
  have V127 : Arv Z h127 b8 k8 .long (16 : Int32) [(.long v14), (.long v25), (.long v35), (.long v45), (.long v55), (.long v65), (.long v75), (.long v85), (.long v95), (.long v105), (.long v115), (.long v125), (.long (0 : Int64)), (.long (0 : Int64)), (.long (0 : Int64)), (.long (0 : Int64))] (.long (0 : Int64)) := Arv.set Ar126 q126 S126 Nn126 H126 G126 rfl W127 11 rfl (Nat.le_of_ble_eq_true rfl)
  obtain ⟨cl128, Ar128, -, S128, -, H128, -⟩ := id V127
  have hin128 : ¬ ((11 : Int32) < 0 ∨ cl128.slots.size ≤ ((11 : Int32)).toNatClampNeg) := inb_of S128 ⟨by decide, by decide⟩
  have hat128 : cl128.slots[((11 : Int32)).toNatClampNeg]? = some (.long v125) := Has.at H128 hin128 rfl
  have pre129 : ∀ t, Steps p.tables e below (T127.setTop (mkF m 285 #[.val (.long q0), .second, .val (.long q1), .second, .val (.long q2), .second, .val (.long q3), .second, .val (.int p4), .val (.int p5), .val (.int v1), .val (.int v2), .val (.int v4), .val (.int v6), .val (.int v7), .val (.ref b8), .val (.ref b9), .val (.ref b11), .unset, .unset, .unset, .unset, .unset] [(.int v2), (.int (12 : Int32)), (.long q1), (.long v125), (.int (12 : Int32)), (.ref b8)])) t → Steps p.tables e below (s₁.setTop (entryFrame m #[(.long q0), (.long q1), (.long q2), (.long q3), (.int p4), (.int p5)] maxLocals)) t := fun t kk => pre119 t (by
    show Steps p.tables e below (T117.setTop (mkF m 267 #[.val (.long q0), .second, .val (.long q1), .second, .val (.long q2), .second, .val (.long q3), .second, .val (.int p4), .val (.int p5), .val (.int v1), .val (.int v2), .val (.int v4), .val (.int v6), .val (.int v7), .val (.ref b8), .val (.ref b9), .val (.ref b11), .unset, .unset, .unset, .unset, .unset] [(.int v2), (.int (11 : Int32)), (.long q1), (.long v115), (.int (11 : Int32)), (.ref b8)])) _
    refine st124 _ ?_
    show Steps p.tables e below (T124.setTop (mkF m 270 #[.val (.long q0), .second, .val (.long q1), .second, .val (.long q2), .second, .val (.long q3), .second, .val (.int p4), .val (.int p5), .val (.int v1), .val (.int v2), .val (.int v4), .val (.int v6), .val (.int v7), .val (.ref b8), .val (.ref b9), .val (.ref b11), .unset, .unset, .unset, .unset, .unset] [(.long (nextF v115 q1 (11 : Int32) v2)), (.int (11 : Int32)), (.ref b8)])) _
    rw [← ev125]
    show Steps p.tables e below (T124.setTop (mkF m 270 #[.val (.long q0), .second, .val (.long q1), .second, .val (.long q2), .second, .val (.long q3), .second, .val (.int p4), .val (.int p5), .val (.int v1), .val (.int v2), .val (.int v4), .val (.int v6), .val (.int v7), .val (.ref b8), .val (.ref b9), .val (.ref b11), .unset, .unset, .unset, .unset, .unset] [(.long v125), (.int (11 : Int32)), (.ref b8)])) _
    refine st127 _ ?_
    show Steps p.tables e below (T127.setTop (mkF m 271 #[.val (.long q0), .second, .val (.long q1), .second, .val (.long q2), .second, .val (.long q3), .second, .val (.int p4), .val (.int p5), .val (.int v1), .val (.int v2), .val (.int v4), .val (.int v6), .val (.int v7), .val (.ref b8), .val (.ref b9), .val (.ref b11), .unset, .unset, .unset, .unset, .unset] [])) _
    refine XS.aload X127.here hx rfl (hb hby at_271) rfl rfl ?_
    show Steps p.tables e below (T127.setTop (mkF m 273 #[.val (.long q0), .second, .val (.long q1), .second, .val (.long q2), .second, .val (.long q3), .second, .val (.int p4), .val (.int p5), .val (.int v1), .val (.int v2), .val (.int v4), .val (.int v6), .val (.int v7), .val (.ref b8), .val (.ref b9), .val (.ref b11), .unset, .unset, .unset, .unset, .unset] [(.ref b8)])) _
    refine XS.bipush X127.here hx rfl (hb hby at_273) ?_
    show Steps p.tables e below (T127.setTop (mkF m 275 #[.val (.long q0), .second, .val (.long q1), .second, .val (.long q2), .second, .val (.long q3), .second, .val (.int p4), .val (.int p5), .val (.int v1), .val (.int v2), .val (.int v4), .val (.int v6), .val (.int v7), .val (.ref b8), .val (.ref b9), .val (.ref b11), .unset, .unset, .unset, .unset, .unset] [(.int (12 : Int32)), (.ref b8)])) _
    refine XS.aload X127.here hx rfl (hb hby at_275) rfl rfl ?_
    show Steps p.tables e below (T127.setTop (mkF m 277 #[.val (.long q0), .second, .val (.long q1), .second, .val (.long q2), .second, .val (.long q3), .second, .val (.int p4), .val (.int p5), .val (.int v1), .val (.int v2), .val (.int v4), .val (.int v6), .val (.int v7), .val (.ref b8), .val (.ref b9), .val (.ref b11), .unset, .unset, .unset, .unset, .unset] [(.ref b8), (.int (12 : Int32)), (.ref b8)])) _
    refine XS.bipush X127.here hx rfl (hb hby at_277) ?_
    show Steps p.tables e below (T127.setTop (mkF m 279 #[.val (.long q0), .second, .val (.long q1), .second, .val (.long q2), .second, .val (.long q3), .second, .val (.int p4), .val (.int p5), .val (.int v1), .val (.int v2), .val (.int v4), .val (.int v6), .val (.int v7), .val (.ref b8), .val (.ref b9), .val (.ref b11), .unset, .unset, .unset, .unset, .unset] [(.int (11 : Int32)), (.ref b8), (.int (12 : Int32)), (.ref b8)])) _
    refine X127.laload hx (j := (11 : Int32)) (v := (.long v125)) (by rw [e127]; exact Ar128.1) (State.isArrayOf_alike hZ.alike Ar128.2.1) Ar128.2.2 hin128 hat128 (g := (mkF m 279 #[.val (.long q0), .second, .val (.long q1), .second, .val (.long q2), .second, .val (.long q3), .second, .val (.int p4), .val (.int p5), .val (.int v1), .val (.int v2), .val (.int v4), .val (.int v6), .val (.int v7), .val (.ref b8), .val (.ref b9), .val (.ref b11), .unset, .unset, .unset, .unset, .unset] [(.int (11 : Int32)), (.ref b8), (.int (12 : Int32)), (.ref b8)])) rfl rfl (hb hby at_279) _ ?_
    show Steps p.tables e below (T127.setTop (mkF m 280 #[.val (.long q0), .second, .val (.long q1), .second, .val (.long q2), .second, .val (.long q3), .second, .val (.int p4), .val (.int p5), .val (.int v1), .val (.int v2), .val (.int v4), .val (.int v6), .val (.int v7), .val (.ref b8), .val (.ref b9), .val (.ref b11), .unset, .unset, .unset, .unset, .unset] [(.long v125), (.int (12 : Int32)), (.ref b8)])) _
    refine XS.lloadN X127.here hx rfl (hb hby at_280) rfl ?_
    show Steps p.tables e below (T127.setTop (mkF m 281 #[.val (.long q0), .second, .val (.long q1), .second, .val (.long q2), .second, .val (.long q3), .second, .val (.int p4), .val (.int p5), .val (.int v1), .val (.int v2), .val (.int v4), .val (.int v6), .val (.int v7), .val (.ref b8), .val (.ref b9), .val (.ref b11), .unset, .unset, .unset, .unset, .unset] [(.long q1), (.long v125), (.int (12 : Int32)), (.ref b8)])) _
    refine XS.bipush X127.here hx rfl (hb hby at_281) ?_
    show Steps p.tables e below (T127.setTop (mkF m 283 #[.val (.long q0), .second, .val (.long q1), .second, .val (.long q2), .second, .val (.long q3), .second, .val (.int p4), .val (.int p5), .val (.int v1), .val (.int v2), .val (.int v4), .val (.int v6), .val (.int v7), .val (.ref b8), .val (.ref b9), .val (.ref b11), .unset, .unset, .unset, .unset, .unset] [(.int (12 : Int32)), (.long q1), (.long v125), (.int (12 : Int32)), (.ref b8)])) _
    refine XS.iload X127.here hx rfl (hb hby at_283) rfl ?_
    exact kk)
  have Zz130 := (Nat.le_trans Zz120 (Keep.of_wr W127).1)
  have Av131 := (Av121.other W127 (Ne.symm ne_b8_b9))
  have Av132 := (Av122.other W127 (Ne.symm ne_b8_b11))
  obtain ⟨Lg133, X133, N133⟩ : ∃ L' : List Loc, Stand p l e room_1 s m #[(.long q0), (.long q1), (.long q2), (.long q3), (.int p4), (.int p5)] below meth c T127 L' 3 48 ∧ Fr n0 L' := ⟨_, X127, N127⟩
  (try clear e117); (try clear V117); (try clear pre119); (try clear Zz120); (try clear Av121); (try clear Av122); (try clear X123); (try clear N123); (try clear X124); (try clear st124); (try clear N124q); (try clear e124); (try clear N124); (try clear Ar126); (try clear q126); (try clear S126); (try clear Nn126); (try clear H126); (try clear G126); (try clear hin126); (try clear X127); (try clear W127); (try clear st127); (try clear N127); (try clear Ar128); (try clear S128); (try clear H128); (try clear hin128); (try clear hat128)
  obtain ⟨_, _, ⟨T134, L134, k134, n134⟩, -, X134, ⟨Lc134, hQ134, l134, y134, z134⟩, st134⟩ := Jvm.LawKit.callS X133 hx (y := (⟨"com/example/copyleaf/copyleaf/page/PageFirstAtLeastPinLaw", "next", "(JJII)J"⟩ : MethodName)) hown (mvT hZ (hw _ (List.mem_of_getElem? (i := 3) rfl))) (mvT hZ (hw _ (List.mem_of_getElem? (i := 4) rfl))) (mvT hZ (hw _ (List.mem_of_getElem? (i := 5) rfl))) (mvT hZ (hw _ (List.mem_of_getElem? (i := 6) rfl))) (by decide) (backOf (W := 2) (rm1 l Z a0 hw [] v125 q1 (12 : Int32) v2 h127 n0 Zz130) hZ (hw _ (List.mem_of_getElem? (i := 6) rfl)) (hw _ (List.mem_of_getElem? (i := 5) rfl)) (by decide) (by decide)) (g := (mkF m 285 #[.val (.long q0), .second, .val (.long q1), .second, .val (.long q2), .second, .val (.long q3), .second, .val (.int p4), .val (.int p5), .val (.int v1), .val (.int v2), .val (.int v4), .val (.int v6), .val (.int v7), .val (.ref b8), .val (.ref b9), .val (.ref b11), .unset, .unset, .unset, .unset, .unset] [(.int v2), (.int (12 : Int32)), (.long q1), (.long v125), (.int (12 : Int32)), (.ref b8)])) rfl (by rw [hml]; rfl) (argsL := [(.long v125), (.long q1), (.int (12 : Int32)), (.int v2)]) (rest := [(.int (12 : Int32)), (.ref b8)]) (lenOf pd__28JJII_29J rfl) rfl (by show 2 * 0 + _ ≤ _; exact Nat.le_of_eq rfl) (hb hby at_285) (fun _ _ => ⟨rfl, e127, (by decide : 3 + 0 ≤ _), (by decide : 48 + 0 ≤ _)⟩)
  dsimp only [Pt.U, Pt.locs, Pt.cells, Pt.slots] at X134 l134 y134 z134 st134 hQ134
  subst l134 y134 z134
  obtain ⟨rfl, N134q, e134⟩ := hQ134
  have N134 := Fr.app N133 N134q
  obtain ⟨v135, ev135⟩ : ∃ z : Int64, z = (nextF v125 q1 (12 : Int32) v2) := ⟨_, rfl⟩
  obtain ⟨cl136, Ar136, q136, S136, Nn136, H136, G136⟩ := id V127
  have hin136 : ¬ ((12 : Int32) < 0 ∨ cl136.slots.size ≤ ((12 : Int32)).toNatClampNeg) := inb_of S136 ⟨by decide, by decide⟩
  obtain ⟨T137, h137, X137, e137, W137, st137⟩ := stJ X134 hx hZ e134 Ar136 (j := (12 : Int32)) hin136 (g := (mkF m 288 #[.val (.long q0), .second, .val (.long q1), .second, .val (.long q2), .second, .val (.long q3), .second, .val (.int p4), .val (.int p5), .val (.int v1), .val (.int v2), .val (.int v4), .val (.int v6), .val (.int v7), .val (.ref b8), .val (.ref b9), .val (.ref b11), .unset, .unset, .unset, .unset, .unset] [(.long v135), (.int (12 : Int32)), (.ref b8)])) rfl rfl (hb hby at_288)
  have N137 := Fr.snoc X137 N134 g_b8
  have V137 : Arv Z h137 b8 k8 .long (16 : Int32) [(.long v14), (.long v25), (.long v35), (.long v45), (.long v55), (.long v65), (.long v75), (.long v85), (.long v95), (.long v105), (.long v115), (.long v125), (.long v135), (.long (0 : Int64)), (.long (0 : Int64)), (.long (0 : Int64))] (.long (0 : Int64)) := Arv.set Ar136 q136 S136 Nn136 H136 G136 rfl W137 12 rfl (Nat.le_of_ble_eq_true rfl)
  obtain ⟨cl138, Ar138, -, S138, -, H138, -⟩ := id V137
  have hin138 : ¬ ((12 : Int32) < 0 ∨ cl138.slots.size ≤ ((12 : Int32)).toNatClampNeg) := inb_of S138 ⟨by decide, by decide⟩
  have hat138 : cl138.slots[((12 : Int32)).toNatClampNeg]? = some (.long v135) := Has.at H138 hin138 rfl
  have pre139 : ∀ t, Steps p.tables e below (T137.setTop (mkF m 303 #[.val (.long q0), .second, .val (.long q1), .second, .val (.long q2), .second, .val (.long q3), .second, .val (.int p4), .val (.int p5), .val (.int v1), .val (.int v2), .val (.int v4), .val (.int v6), .val (.int v7), .val (.ref b8), .val (.ref b9), .val (.ref b11), .unset, .unset, .unset, .unset, .unset] [(.int v2), (.int (13 : Int32)), (.long q1), (.long v135), (.int (13 : Int32)), (.ref b8)])) t → Steps p.tables e below (s₁.setTop (entryFrame m #[(.long q0), (.long q1), (.long q2), (.long q3), (.int p4), (.int p5)] maxLocals)) t := fun t kk => pre129 t (by
    show Steps p.tables e below (T127.setTop (mkF m 285 #[.val (.long q0), .second, .val (.long q1), .second, .val (.long q2), .second, .val (.long q3), .second, .val (.int p4), .val (.int p5), .val (.int v1), .val (.int v2), .val (.int v4), .val (.int v6), .val (.int v7), .val (.ref b8), .val (.ref b9), .val (.ref b11), .unset, .unset, .unset, .unset, .unset] [(.int v2), (.int (12 : Int32)), (.long q1), (.long v125), (.int (12 : Int32)), (.ref b8)])) _
    refine st134 _ ?_
    show Steps p.tables e below (T134.setTop (mkF m 288 #[.val (.long q0), .second, .val (.long q1), .second, .val (.long q2), .second, .val (.long q3), .second, .val (.int p4), .val (.int p5), .val (.int v1), .val (.int v2), .val (.int v4), .val (.int v6), .val (.int v7), .val (.ref b8), .val (.ref b9), .val (.ref b11), .unset, .unset, .unset, .unset, .unset] [(.long (nextF v125 q1 (12 : Int32) v2)), (.int (12 : Int32)), (.ref b8)])) _
    rw [← ev135]
    show Steps p.tables e below (T134.setTop (mkF m 288 #[.val (.long q0), .second, .val (.long q1), .second, .val (.long q2), .second, .val (.long q3), .second, .val (.int p4), .val (.int p5), .val (.int v1), .val (.int v2), .val (.int v4), .val (.int v6), .val (.int v7), .val (.ref b8), .val (.ref b9), .val (.ref b11), .unset, .unset, .unset, .unset, .unset] [(.long v135), (.int (12 : Int32)), (.ref b8)])) _
    refine st137 _ ?_
    show Steps p.tables e below (T137.setTop (mkF m 289 #[.val (.long q0), .second, .val (.long q1), .second, .val (.long q2), .second, .val (.long q3), .second, .val (.int p4), .val (.int p5), .val (.int v1), .val (.int v2), .val (.int v4), .val (.int v6), .val (.int v7), .val (.ref b8), .val (.ref b9), .val (.ref b11), .unset, .unset, .unset, .unset, .unset] [])) _
    refine XS.aload X137.here hx rfl (hb hby at_289) rfl rfl ?_
    show Steps p.tables e below (T137.setTop (mkF m 291 #[.val (.long q0), .second, .val (.long q1), .second, .val (.long q2), .second, .val (.long q3), .second, .val (.int p4), .val (.int p5), .val (.int v1), .val (.int v2), .val (.int v4), .val (.int v6), .val (.int v7), .val (.ref b8), .val (.ref b9), .val (.ref b11), .unset, .unset, .unset, .unset, .unset] [(.ref b8)])) _
    refine XS.bipush X137.here hx rfl (hb hby at_291) ?_
    show Steps p.tables e below (T137.setTop (mkF m 293 #[.val (.long q0), .second, .val (.long q1), .second, .val (.long q2), .second, .val (.long q3), .second, .val (.int p4), .val (.int p5), .val (.int v1), .val (.int v2), .val (.int v4), .val (.int v6), .val (.int v7), .val (.ref b8), .val (.ref b9), .val (.ref b11), .unset, .unset, .unset, .unset, .unset] [(.int (13 : Int32)), (.ref b8)])) _
    refine XS.aload X137.here hx rfl (hb hby at_293) rfl rfl ?_
    show Steps p.tables e below (T137.setTop (mkF m 295 #[.val (.long q0), .second, .val (.long q1), .second, .val (.long q2), .second, .val (.long q3), .second, .val (.int p4), .val (.int p5), .val (.int v1), .val (.int v2), .val (.int v4), .val (.int v6), .val (.int v7), .val (.ref b8), .val (.ref b9), .val (.ref b11), .unset, .unset, .unset, .unset, .unset] [(.ref b8), (.int (13 : Int32)), (.ref b8)])) _
    refine XS.bipush X137.here hx rfl (hb hby at_295) ?_
    show Steps p.tables e below (T137.setTop (mkF m 297 #[.val (.long q0), .second, .val (.long q1), .second, .val (.long q2), .second, .val (.long q3), .second, .val (.int p4), .val (.int p5), .val (.int v1), .val (.int v2), .val (.int v4), .val (.int v6), .val (.int v7), .val (.ref b8), .val (.ref b9), .val (.ref b11), .unset, .unset, .unset, .unset, .unset] [(.int (12 : Int32)), (.ref b8), (.int (13 : Int32)), (.ref b8)])) _
    refine X137.laload hx (j := (12 : Int32)) (v := (.long v135)) (by rw [e137]; exact Ar138.1) (State.isArrayOf_alike hZ.alike Ar138.2.1) Ar138.2.2 hin138 hat138 (g := (mkF m 297 #[.val (.long q0), .second, .val (.long q1), .second, .val (.long q2), .second, .val (.long q3), .second, .val (.int p4), .val (.int p5), .val (.int v1), .val (.int v2), .val (.int v4), .val (.int v6), .val (.int v7), .val (.ref b8), .val (.ref b9), .val (.ref b11), .unset, .unset, .unset, .unset, .unset] [(.int (12 : Int32)), (.ref b8), (.int (13 : Int32)), (.ref b8)])) rfl rfl (hb hby at_297) _ ?_
    show Steps p.tables e below (T137.setTop (mkF m 298 #[.val (.long q0), .second, .val (.long q1), .second, .val (.long q2), .second, .val (.long q3), .second, .val (.int p4), .val (.int p5), .val (.int v1), .val (.int v2), .val (.int v4), .val (.int v6), .val (.int v7), .val (.ref b8), .val (.ref b9), .val (.ref b11), .unset, .unset, .unset, .unset, .unset] [(.long v135), (.int (13 : Int32)), (.ref b8)])) _
    refine XS.lloadN X137.here hx rfl (hb hby at_298) rfl ?_
    show Steps p.tables e below (T137.setTop (mkF m 299 #[.val (.long q0), .second, .val (.long q1), .second, .val (.long q2), .second, .val (.long q3), .second, .val (.int p4), .val (.int p5), .val (.int v1), .val (.int v2), .val (.int v4), .val (.int v6), .val (.int v7), .val (.ref b8), .val (.ref b9), .val (.ref b11), .unset, .unset, .unset, .unset, .unset] [(.long q1), (.long v135), (.int (13 : Int32)), (.ref b8)])) _
    refine XS.bipush X137.here hx rfl (hb hby at_299) ?_
    show Steps p.tables e below (T137.setTop (mkF m 301 #[.val (.long q0), .second, .val (.long q1), .second, .val (.long q2), .second, .val (.long q3), .second, .val (.int p4), .val (.int p5), .val (.int v1), .val (.int v2), .val (.int v4), .val (.int v6), .val (.int v7), .val (.ref b8), .val (.ref b9), .val (.ref b11), .unset, .unset, .unset, .unset, .unset] [(.int (13 : Int32)), (.long q1), (.long v135), (.int (13 : Int32)), (.ref b8)])) _
    refine XS.iload X137.here hx rfl (hb hby at_301) rfl ?_
    exact kk)
  have Zz140 := (Nat.le_trans Zz130 (Keep.of_wr W137).1)
  have Av141 := (Av131.other W137 (Ne.symm ne_b8_b9))
  have Av142 := (Av132.other W137 (Ne.symm ne_b8_b11))
  obtain ⟨Lg143, X143, N143⟩ : ∃ L' : List Loc, Stand p l e room_1 s m #[(.long q0), (.long q1), (.long q2), (.long q3), (.int p4), (.int p5)] below meth c T137 L' 3 48 ∧ Fr n0 L' := ⟨_, X137, N137⟩
  (try clear e127); (try clear V127); (try clear pre129); (try clear Zz130); (try clear Av131); (try clear Av132); (try clear X133); (try clear N133); (try clear X134); (try clear st134); (try clear N134q); (try clear e134); (try clear N134); (try clear Ar136); (try clear q136); (try clear S136); (try clear Nn136); (try clear H136); (try clear G136); (try clear hin136); (try clear X137); (try clear W137); (try clear st137); (try clear N137); (try clear Ar138); (try clear S138); (try clear H138); (try clear hin138); (try clear hat138)
  obtain ⟨_, _, ⟨T144, L144, k144, n144⟩, -, X144, ⟨Lc144, hQ144, l144, y144, z144⟩, st144⟩ := Jvm.LawKit.callS X143 hx (y := (⟨"com/example/copyleaf/copyleaf/page/PageFirstAtLeastPinLaw", "next", "(JJII)J"⟩ : MethodName)) hown (mvT hZ (hw _ (List.mem_of_getElem? (i := 3) rfl))) (mvT hZ (hw _ (List.mem_of_getElem? (i := 4) rfl))) (mvT hZ (hw _ (List.mem_of_getElem? (i := 5) rfl))) (mvT hZ (hw _ (List.mem_of_getElem? (i := 6) rfl))) (by decide) (backOf (W := 2) (rm1 l Z a0 hw [] v135 q1 (13 : Int32) v2 h137 n0 Zz140) hZ (hw _ (List.mem_of_getElem? (i := 6) rfl)) (hw _ (List.mem_of_getElem? (i := 5) rfl)) (by decide) (by decide)) (g := (mkF m 303 #[.val (.long q0), .second, .val (.long q1), .second, .val (.long q2), .second, .val (.long q3), .second, .val (.int p4), .val (.int p5), .val (.int v1), .val (.int v2), .val (.int v4), .val (.int v6), .val (.int v7), .val (.ref b8), .val (.ref b9), .val (.ref b11), .unset, .unset, .unset, .unset, .unset] [(.int v2), (.int (13 : Int32)), (.long q1), (.long v135), (.int (13 : Int32)), (.ref b8)])) rfl (by rw [hml]; rfl) (argsL := [(.long v135), (.long q1), (.int (13 : Int32)), (.int v2)]) (rest := [(.int (13 : Int32)), (.ref b8)]) (lenOf pd__28JJII_29J rfl) rfl (by show 2 * 0 + _ ≤ _; exact Nat.le_of_eq rfl) (hb hby at_303) (fun _ _ => ⟨rfl, e137, (by decide : 3 + 0 ≤ _), (by decide : 48 + 0 ≤ _)⟩)
  dsimp only [Pt.U, Pt.locs, Pt.cells, Pt.slots] at X144 l144 y144 z144 st144 hQ144
  subst l144 y144 z144
  obtain ⟨rfl, N144q, e144⟩ := hQ144
  have N144 := Fr.app N143 N144q
  obtain ⟨v145, ev145⟩ : ∃ z : Int64, z = (nextF v135 q1 (13 : Int32) v2) := ⟨_, rfl⟩
  obtain ⟨cl146, Ar146, q146, S146, Nn146, H146, G146⟩ := id V137
  have hin146 : ¬ ((13 : Int32) < 0 ∨ cl146.slots.size ≤ ((13 : Int32)).toNatClampNeg) := inb_of S146 ⟨by decide, by decide⟩
  obtain ⟨T147, h147, X147, e147, W147, st147⟩ := stJ X144 hx hZ e144 Ar146 (j := (13 : Int32)) hin146 (g := (mkF m 306 #[.val (.long q0), .second, .val (.long q1), .second, .val (.long q2), .second, .val (.long q3), .second, .val (.int p4), .val (.int p5), .val (.int v1), .val (.int v2), .val (.int v4), .val (.int v6), .val (.int v7), .val (.ref b8), .val (.ref b9), .val (.ref b11), .unset, .unset, .unset, .unset, .unset] [(.long v145), (.int (13 : Int32)), (.ref b8)])) rfl rfl (hb hby at_306)
  have N147 := Fr.snoc X147 N144 g_b8
  have V147 : Arv Z h147 b8 k8 .long (16 : Int32) [(.long v14), (.long v25), (.long v35), (.long v45), (.long v55), (.long v65), (.long v75), (.long v85), (.long v95), (.long v105), (.long v115), (.long v125), (.long v135), (.long v145), (.long (0 : Int64)), (.long (0 : Int64))] (.long (0 : Int64)) := Arv.set Ar146 q146 S146 Nn146 H146 G146 rfl W147 13 rfl (Nat.le_of_ble_eq_true rfl)
  obtain ⟨cl148, Ar148, -, S148, -, H148, -⟩ := id V147
  have hin148 : ¬ ((13 : Int32) < 0 ∨ cl148.slots.size ≤ ((13 : Int32)).toNatClampNeg) := inb_of S148 ⟨by decide, by decide⟩
  have hat148 : cl148.slots[((13 : Int32)).toNatClampNeg]? = some (.long v145) := Has.at H148 hin148 rfl
  have pre149 : ∀ t, Steps p.tables e below (T147.setTop (mkF m 321 #[.val (.long q0), .second, .val (.long q1), .second, .val (.long q2), .second, .val (.long q3), .second, .val (.int p4), .val (.int p5), .val (.int v1), .val (.int v2), .val (.int v4), .val (.int v6), .val (.int v7), .val (.ref b8), .val (.ref b9), .val (.ref b11), .unset, .unset, .unset, .unset, .unset] [(.int v2), (.int (14 : Int32)), (.long q1), (.long v145), (.int (14 : Int32)), (.ref b8)])) t → Steps p.tables e below (s₁.setTop (entryFrame m #[(.long q0), (.long q1), (.long q2), (.long q3), (.int p4), (.int p5)] maxLocals)) t := fun t kk => pre139 t (by
    show Steps p.tables e below (T137.setTop (mkF m 303 #[.val (.long q0), .second, .val (.long q1), .second, .val (.long q2), .second, .val (.long q3), .second, .val (.int p4), .val (.int p5), .val (.int v1), .val (.int v2), .val (.int v4), .val (.int v6), .val (.int v7), .val (.ref b8), .val (.ref b9), .val (.ref b11), .unset, .unset, .unset, .unset, .unset] [(.int v2), (.int (13 : Int32)), (.long q1), (.long v135), (.int (13 : Int32)), (.ref b8)])) _
    refine st144 _ ?_
    show Steps p.tables e below (T144.setTop (mkF m 306 #[.val (.long q0), .second, .val (.long q1), .second, .val (.long q2), .second, .val (.long q3), .second, .val (.int p4), .val (.int p5), .val (.int v1), .val (.int v2), .val (.int v4), .val (.int v6), .val (.int v7), .val (.ref b8), .val (.ref b9), .val (.ref b11), .unset, .unset, .unset, .unset, .unset] [(.long (nextF v135 q1 (13 : Int32) v2)), (.int (13 : Int32)), (.ref b8)])) _
    rw [← ev145]
    show Steps p.tables e below (T144.setTop (mkF m 306 #[.val (.long q0), .second, .val (.long q1), .second, .val (.long q2), .second, .val (.long q3), .second, .val (.int p4), .val (.int p5), .val (.int v1), .val (.int v2), .val (.int v4), .val (.int v6), .val (.int v7), .val (.ref b8), .val (.ref b9), .val (.ref b11), .unset, .unset, .unset, .unset, .unset] [(.long v145), (.int (13 : Int32)), (.ref b8)])) _
    refine st147 _ ?_
    show Steps p.tables e below (T147.setTop (mkF m 307 #[.val (.long q0), .second, .val (.long q1), .second, .val (.long q2), .second, .val (.long q3), .second, .val (.int p4), .val (.int p5), .val (.int v1), .val (.int v2), .val (.int v4), .val (.int v6), .val (.int v7), .val (.ref b8), .val (.ref b9), .val (.ref b11), .unset, .unset, .unset, .unset, .unset] [])) _
    refine XS.aload X147.here hx rfl (hb hby at_307) rfl rfl ?_
    show Steps p.tables e below (T147.setTop (mkF m 309 #[.val (.long q0), .second, .val (.long q1), .second, .val (.long q2), .second, .val (.long q3), .second, .val (.int p4), .val (.int p5), .val (.int v1), .val (.int v2), .val (.int v4), .val (.int v6), .val (.int v7), .val (.ref b8), .val (.ref b9), .val (.ref b11), .unset, .unset, .unset, .unset, .unset] [(.ref b8)])) _
    refine XS.bipush X147.here hx rfl (hb hby at_309) ?_
    show Steps p.tables e below (T147.setTop (mkF m 311 #[.val (.long q0), .second, .val (.long q1), .second, .val (.long q2), .second, .val (.long q3), .second, .val (.int p4), .val (.int p5), .val (.int v1), .val (.int v2), .val (.int v4), .val (.int v6), .val (.int v7), .val (.ref b8), .val (.ref b9), .val (.ref b11), .unset, .unset, .unset, .unset, .unset] [(.int (14 : Int32)), (.ref b8)])) _
    refine XS.aload X147.here hx rfl (hb hby at_311) rfl rfl ?_
    show Steps p.tables e below (T147.setTop (mkF m 313 #[.val (.long q0), .second, .val (.long q1), .second, .val (.long q2), .second, .val (.long q3), .second, .val (.int p4), .val (.int p5), .val (.int v1), .val (.int v2), .val (.int v4), .val (.int v6), .val (.int v7), .val (.ref b8), .val (.ref b9), .val (.ref b11), .unset, .unset, .unset, .unset, .unset] [(.ref b8), (.int (14 : Int32)), (.ref b8)])) _
    refine XS.bipush X147.here hx rfl (hb hby at_313) ?_
    show Steps p.tables e below (T147.setTop (mkF m 315 #[.val (.long q0), .second, .val (.long q1), .second, .val (.long q2), .second, .val (.long q3), .second, .val (.int p4), .val (.int p5), .val (.int v1), .val (.int v2), .val (.int v4), .val (.int v6), .val (.int v7), .val (.ref b8), .val (.ref b9), .val (.ref b11), .unset, .unset, .unset, .unset, .unset] [(.int (13 : Int32)), (.ref b8), (.int (14 : Int32)), (.ref b8)])) _
    refine X147.laload hx (j := (13 : Int32)) (v := (.long v145)) (by rw [e147]; exact Ar148.1) (State.isArrayOf_alike hZ.alike Ar148.2.1) Ar148.2.2 hin148 hat148 (g := (mkF m 315 #[.val (.long q0), .second, .val (.long q1), .second, .val (.long q2), .second, .val (.long q3), .second, .val (.int p4), .val (.int p5), .val (.int v1), .val (.int v2), .val (.int v4), .val (.int v6), .val (.int v7), .val (.ref b8), .val (.ref b9), .val (.ref b11), .unset, .unset, .unset, .unset, .unset] [(.int (13 : Int32)), (.ref b8), (.int (14 : Int32)), (.ref b8)])) rfl rfl (hb hby at_315) _ ?_
    show Steps p.tables e below (T147.setTop (mkF m 316 #[.val (.long q0), .second, .val (.long q1), .second, .val (.long q2), .second, .val (.long q3), .second, .val (.int p4), .val (.int p5), .val (.int v1), .val (.int v2), .val (.int v4), .val (.int v6), .val (.int v7), .val (.ref b8), .val (.ref b9), .val (.ref b11), .unset, .unset, .unset, .unset, .unset] [(.long v145), (.int (14 : Int32)), (.ref b8)])) _
    refine XS.lloadN X147.here hx rfl (hb hby at_316) rfl ?_
    show Steps p.tables e below (T147.setTop (mkF m 317 #[.val (.long q0), .second, .val (.long q1), .second, .val (.long q2), .second, .val (.long q3), .second, .val (.int p4), .val (.int p5), .val (.int v1), .val (.int v2), .val (.int v4), .val (.int v6), .val (.int v7), .val (.ref b8), .val (.ref b9), .val (.ref b11), .unset, .unset, .unset, .unset, .unset] [(.long q1), (.long v145), (.int (14 : Int32)), (.ref b8)])) _
    refine XS.bipush X147.here hx rfl (hb hby at_317) ?_
    show Steps p.tables e below (T147.setTop (mkF m 319 #[.val (.long q0), .second, .val (.long q1), .second, .val (.long q2), .second, .val (.long q3), .second, .val (.int p4), .val (.int p5), .val (.int v1), .val (.int v2), .val (.int v4), .val (.int v6), .val (.int v7), .val (.ref b8), .val (.ref b9), .val (.ref b11), .unset, .unset, .unset, .unset, .unset] [(.int (14 : Int32)), (.long q1), (.long v145), (.int (14 : Int32)), (.ref b8)])) _
    refine XS.iload X147.here hx rfl (hb hby at_319) rfl ?_
    exact kk)
  have Zz150 := (Nat.le_trans Zz140 (Keep.of_wr W147).1)
  have Av151 := (Av141.other W147 (Ne.symm ne_b8_b9))
  have Av152 := (Av142.other W147 (Ne.symm ne_b8_b11))
  obtain ⟨Lg153, X153, N153⟩ : ∃ L' : List Loc, Stand p l e room_1 s m #[(.long q0), (.long q1), (.long q2), (.long q3), (.int p4), (.int p5)] below meth c T147 L' 3 48 ∧ Fr n0 L' := ⟨_, X147, N147⟩
  (try clear e137); (try clear V137); (try clear pre139); (try clear Zz140); (try clear Av141); (try clear Av142); (try clear X143); (try clear N143); (try clear X144); (try clear st144); (try clear N144q); (try clear e144); (try clear N144); (try clear Ar146); (try clear q146); (try clear S146); (try clear Nn146); (try clear H146); (try clear G146); (try clear hin146); (try clear X147); (try clear W147); (try clear st147); (try clear N147); (try clear Ar148); (try clear S148); (try clear H148); (try clear hin148); (try clear hat148)
  obtain ⟨_, _, ⟨T154, L154, k154, n154⟩, -, X154, ⟨Lc154, hQ154, l154, y154, z154⟩, st154⟩ := Jvm.LawKit.callS X153 hx (y := (⟨"com/example/copyleaf/copyleaf/page/PageFirstAtLeastPinLaw", "next", "(JJII)J"⟩ : MethodName)) hown (mvT hZ (hw _ (List.mem_of_getElem? (i := 3) rfl))) (mvT hZ (hw _ (List.mem_of_getElem? (i := 4) rfl))) (mvT hZ (hw _ (List.mem_of_getElem? (i := 5) rfl))) (mvT hZ (hw _ (List.mem_of_getElem? (i := 6) rfl))) (by decide) (backOf (W := 2) (rm1 l Z a0 hw [] v145 q1 (14 : Int32) v2 h147 n0 Zz150) hZ (hw _ (List.mem_of_getElem? (i := 6) rfl)) (hw _ (List.mem_of_getElem? (i := 5) rfl)) (by decide) (by decide)) (g := (mkF m 321 #[.val (.long q0), .second, .val (.long q1), .second, .val (.long q2), .second, .val (.long q3), .second, .val (.int p4), .val (.int p5), .val (.int v1), .val (.int v2), .val (.int v4), .val (.int v6), .val (.int v7), .val (.ref b8), .val (.ref b9), .val (.ref b11), .unset, .unset, .unset, .unset, .unset] [(.int v2), (.int (14 : Int32)), (.long q1), (.long v145), (.int (14 : Int32)), (.ref b8)])) rfl (by rw [hml]; rfl) (argsL := [(.long v145), (.long q1), (.int (14 : Int32)), (.int v2)]) (rest := [(.int (14 : Int32)), (.ref b8)]) (lenOf pd__28JJII_29J rfl) rfl (by show 2 * 0 + _ ≤ _; exact Nat.le_of_eq rfl) (hb hby at_321) (fun _ _ => ⟨rfl, e147, (by decide : 3 + 0 ≤ _), (by decide : 48 + 0 ≤ _)⟩)
  dsimp only [Pt.U, Pt.locs, Pt.cells, Pt.slots] at X154 l154 y154 z154 st154 hQ154
  subst l154 y154 z154
  obtain ⟨rfl, N154q, e154⟩ := hQ154
  have N154 := Fr.app N153 N154q
  obtain ⟨v155, ev155⟩ : ∃ z : Int64, z = (nextF v145 q1 (14 : Int32) v2) := ⟨_, rfl⟩
  obtain ⟨cl156, Ar156, q156, S156, Nn156, H156, G156⟩ := id V147
  have hin156 : ¬ ((14 : Int32) < 0 ∨ cl156.slots.size ≤ ((14 : Int32)).toNatClampNeg) := inb_of S156 ⟨by decide, by decide⟩
  obtain ⟨T157, h157, X157, e157, W157, st157⟩ := stJ X154 hx hZ e154 Ar156 (j := (14 : Int32)) hin156 (g := (mkF m 324 #[.val (.long q0), .second, .val (.long q1), .second, .val (.long q2), .second, .val (.long q3), .second, .val (.int p4), .val (.int p5), .val (.int v1), .val (.int v2), .val (.int v4), .val (.int v6), .val (.int v7), .val (.ref b8), .val (.ref b9), .val (.ref b11), .unset, .unset, .unset, .unset, .unset] [(.long v155), (.int (14 : Int32)), (.ref b8)])) rfl rfl (hb hby at_324)
  have N157 := Fr.snoc X157 N154 g_b8
  have V157 : Arv Z h157 b8 k8 .long (16 : Int32) [(.long v14), (.long v25), (.long v35), (.long v45), (.long v55), (.long v65), (.long v75), (.long v85), (.long v95), (.long v105), (.long v115), (.long v125), (.long v135), (.long v145), (.long v155), (.long (0 : Int64))] (.long (0 : Int64)) := Arv.set Ar156 q156 S156 Nn156 H156 G156 rfl W157 14 rfl (Nat.le_of_ble_eq_true rfl)
  obtain ⟨cl158, Ar158, -, S158, -, H158, -⟩ := id V157
  have hin158 : ¬ ((14 : Int32) < 0 ∨ cl158.slots.size ≤ ((14 : Int32)).toNatClampNeg) := inb_of S158 ⟨by decide, by decide⟩
  have hat158 : cl158.slots[((14 : Int32)).toNatClampNeg]? = some (.long v155) := Has.at H158 hin158 rfl
  have pre159 : ∀ t, Steps p.tables e below (T157.setTop (mkF m 339 #[.val (.long q0), .second, .val (.long q1), .second, .val (.long q2), .second, .val (.long q3), .second, .val (.int p4), .val (.int p5), .val (.int v1), .val (.int v2), .val (.int v4), .val (.int v6), .val (.int v7), .val (.ref b8), .val (.ref b9), .val (.ref b11), .unset, .unset, .unset, .unset, .unset] [(.int v2), (.int (15 : Int32)), (.long q1), (.long v155), (.int (15 : Int32)), (.ref b8)])) t → Steps p.tables e below (s₁.setTop (entryFrame m #[(.long q0), (.long q1), (.long q2), (.long q3), (.int p4), (.int p5)] maxLocals)) t := fun t kk => pre149 t (by
    show Steps p.tables e below (T147.setTop (mkF m 321 #[.val (.long q0), .second, .val (.long q1), .second, .val (.long q2), .second, .val (.long q3), .second, .val (.int p4), .val (.int p5), .val (.int v1), .val (.int v2), .val (.int v4), .val (.int v6), .val (.int v7), .val (.ref b8), .val (.ref b9), .val (.ref b11), .unset, .unset, .unset, .unset, .unset] [(.int v2), (.int (14 : Int32)), (.long q1), (.long v145), (.int (14 : Int32)), (.ref b8)])) _
    refine st154 _ ?_
    show Steps p.tables e below (T154.setTop (mkF m 324 #[.val (.long q0), .second, .val (.long q1), .second, .val (.long q2), .second, .val (.long q3), .second, .val (.int p4), .val (.int p5), .val (.int v1), .val (.int v2), .val (.int v4), .val (.int v6), .val (.int v7), .val (.ref b8), .val (.ref b9), .val (.ref b11), .unset, .unset, .unset, .unset, .unset] [(.long (nextF v145 q1 (14 : Int32) v2)), (.int (14 : Int32)), (.ref b8)])) _
    rw [← ev155]
    show Steps p.tables e below (T154.setTop (mkF m 324 #[.val (.long q0), .second, .val (.long q1), .second, .val (.long q2), .second, .val (.long q3), .second, .val (.int p4), .val (.int p5), .val (.int v1), .val (.int v2), .val (.int v4), .val (.int v6), .val (.int v7), .val (.ref b8), .val (.ref b9), .val (.ref b11), .unset, .unset, .unset, .unset, .unset] [(.long v155), (.int (14 : Int32)), (.ref b8)])) _
    refine st157 _ ?_
    show Steps p.tables e below (T157.setTop (mkF m 325 #[.val (.long q0), .second, .val (.long q1), .second, .val (.long q2), .second, .val (.long q3), .second, .val (.int p4), .val (.int p5), .val (.int v1), .val (.int v2), .val (.int v4), .val (.int v6), .val (.int v7), .val (.ref b8), .val (.ref b9), .val (.ref b11), .unset, .unset, .unset, .unset, .unset] [])) _
    refine XS.aload X157.here hx rfl (hb hby at_325) rfl rfl ?_
    show Steps p.tables e below (T157.setTop (mkF m 327 #[.val (.long q0), .second, .val (.long q1), .second, .val (.long q2), .second, .val (.long q3), .second, .val (.int p4), .val (.int p5), .val (.int v1), .val (.int v2), .val (.int v4), .val (.int v6), .val (.int v7), .val (.ref b8), .val (.ref b9), .val (.ref b11), .unset, .unset, .unset, .unset, .unset] [(.ref b8)])) _
    refine XS.bipush X157.here hx rfl (hb hby at_327) ?_
    show Steps p.tables e below (T157.setTop (mkF m 329 #[.val (.long q0), .second, .val (.long q1), .second, .val (.long q2), .second, .val (.long q3), .second, .val (.int p4), .val (.int p5), .val (.int v1), .val (.int v2), .val (.int v4), .val (.int v6), .val (.int v7), .val (.ref b8), .val (.ref b9), .val (.ref b11), .unset, .unset, .unset, .unset, .unset] [(.int (15 : Int32)), (.ref b8)])) _
    refine XS.aload X157.here hx rfl (hb hby at_329) rfl rfl ?_
    show Steps p.tables e below (T157.setTop (mkF m 331 #[.val (.long q0), .second, .val (.long q1), .second, .val (.long q2), .second, .val (.long q3), .second, .val (.int p4), .val (.int p5), .val (.int v1), .val (.int v2), .val (.int v4), .val (.int v6), .val (.int v7), .val (.ref b8), .val (.ref b9), .val (.ref b11), .unset, .unset, .unset, .unset, .unset] [(.ref b8), (.int (15 : Int32)), (.ref b8)])) _
    refine XS.bipush X157.here hx rfl (hb hby at_331) ?_
    show Steps p.tables e below (T157.setTop (mkF m 333 #[.val (.long q0), .second, .val (.long q1), .second, .val (.long q2), .second, .val (.long q3), .second, .val (.int p4), .val (.int p5), .val (.int v1), .val (.int v2), .val (.int v4), .val (.int v6), .val (.int v7), .val (.ref b8), .val (.ref b9), .val (.ref b11), .unset, .unset, .unset, .unset, .unset] [(.int (14 : Int32)), (.ref b8), (.int (15 : Int32)), (.ref b8)])) _
    refine X157.laload hx (j := (14 : Int32)) (v := (.long v155)) (by rw [e157]; exact Ar158.1) (State.isArrayOf_alike hZ.alike Ar158.2.1) Ar158.2.2 hin158 hat158 (g := (mkF m 333 #[.val (.long q0), .second, .val (.long q1), .second, .val (.long q2), .second, .val (.long q3), .second, .val (.int p4), .val (.int p5), .val (.int v1), .val (.int v2), .val (.int v4), .val (.int v6), .val (.int v7), .val (.ref b8), .val (.ref b9), .val (.ref b11), .unset, .unset, .unset, .unset, .unset] [(.int (14 : Int32)), (.ref b8), (.int (15 : Int32)), (.ref b8)])) rfl rfl (hb hby at_333) _ ?_
    show Steps p.tables e below (T157.setTop (mkF m 334 #[.val (.long q0), .second, .val (.long q1), .second, .val (.long q2), .second, .val (.long q3), .second, .val (.int p4), .val (.int p5), .val (.int v1), .val (.int v2), .val (.int v4), .val (.int v6), .val (.int v7), .val (.ref b8), .val (.ref b9), .val (.ref b11), .unset, .unset, .unset, .unset, .unset] [(.long v155), (.int (15 : Int32)), (.ref b8)])) _
    refine XS.lloadN X157.here hx rfl (hb hby at_334) rfl ?_
    show Steps p.tables e below (T157.setTop (mkF m 335 #[.val (.long q0), .second, .val (.long q1), .second, .val (.long q2), .second, .val (.long q3), .second, .val (.int p4), .val (.int p5), .val (.int v1), .val (.int v2), .val (.int v4), .val (.int v6), .val (.int v7), .val (.ref b8), .val (.ref b9), .val (.ref b11), .unset, .unset, .unset, .unset, .unset] [(.long q1), (.long v155), (.int (15 : Int32)), (.ref b8)])) _
    refine XS.bipush X157.here hx rfl (hb hby at_335) ?_
    show Steps p.tables e below (T157.setTop (mkF m 337 #[.val (.long q0), .second, .val (.long q1), .second, .val (.long q2), .second, .val (.long q3), .second, .val (.int p4), .val (.int p5), .val (.int v1), .val (.int v2), .val (.int v4), .val (.int v6), .val (.int v7), .val (.ref b8), .val (.ref b9), .val (.ref b11), .unset, .unset, .unset, .unset, .unset] [(.int (15 : Int32)), (.long q1), (.long v155), (.int (15 : Int32)), (.ref b8)])) _
    refine XS.iload X157.here hx rfl (hb hby at_337) rfl ?_
    exact kk)
  have Zz160 := (Nat.le_trans Zz150 (Keep.of_wr W157).1)
  have Av161 := (Av151.other W157 (Ne.symm ne_b8_b9))
  have Av162 := (Av152.other W157 (Ne.symm ne_b8_b11))
  obtain ⟨Lg163, X163, N163⟩ : ∃ L' : List Loc, Stand p l e room_1 s m #[(.long q0), (.long q1), (.long q2), (.long q3), (.int p4), (.int p5)] below meth c T157 L' 3 48 ∧ Fr n0 L' := ⟨_, X157, N157⟩
  (try clear e147); (try clear V147); (try clear pre149); (try clear Zz150); (try clear Av151); (try clear Av152); (try clear X153); (try clear N153); (try clear X154); (try clear st154); (try clear N154q); (try clear e154); (try clear N154); (try clear Ar156); (try clear q156); (try clear S156); (try clear Nn156); (try clear H156); (try clear G156); (try clear hin156); (try clear X157); (try clear W157); (try clear st157); (try clear N157); (try clear Ar158); (try clear S158); (try clear H158); (try clear hin158); (try clear hat158)
  obtain ⟨_, _, ⟨T164, L164, k164, n164⟩, -, X164, ⟨Lc164, hQ164, l164, y164, z164⟩, st164⟩ := Jvm.LawKit.callS X163 hx (y := (⟨"com/example/copyleaf/copyleaf/page/PageFirstAtLeastPinLaw", "next", "(JJII)J"⟩ : MethodName)) hown (mvT hZ (hw _ (List.mem_of_getElem? (i := 3) rfl))) (mvT hZ (hw _ (List.mem_of_getElem? (i := 4) rfl))) (mvT hZ (hw _ (List.mem_of_getElem? (i := 5) rfl))) (mvT hZ (hw _ (List.mem_of_getElem? (i := 6) rfl))) (by decide) (backOf (W := 2) (rm1 l Z a0 hw [] v155 q1 (15 : Int32) v2 h157 n0 Zz160) hZ (hw _ (List.mem_of_getElem? (i := 6) rfl)) (hw _ (List.mem_of_getElem? (i := 5) rfl)) (by decide) (by decide)) (g := (mkF m 339 #[.val (.long q0), .second, .val (.long q1), .second, .val (.long q2), .second, .val (.long q3), .second, .val (.int p4), .val (.int p5), .val (.int v1), .val (.int v2), .val (.int v4), .val (.int v6), .val (.int v7), .val (.ref b8), .val (.ref b9), .val (.ref b11), .unset, .unset, .unset, .unset, .unset] [(.int v2), (.int (15 : Int32)), (.long q1), (.long v155), (.int (15 : Int32)), (.ref b8)])) rfl (by rw [hml]; rfl) (argsL := [(.long v155), (.long q1), (.int (15 : Int32)), (.int v2)]) (rest := [(.int (15 : Int32)), (.ref b8)]) (lenOf pd__28JJII_29J rfl) rfl (by show 2 * 0 + _ ≤ _; exact Nat.le_of_eq rfl) (hb hby at_339) (fun _ _ => ⟨rfl, e157, (by decide : 3 + 0 ≤ _), (by decide : 48 + 0 ≤ _)⟩)
  dsimp only [Pt.U, Pt.locs, Pt.cells, Pt.slots] at X164 l164 y164 z164 st164 hQ164
  subst l164 y164 z164
  obtain ⟨rfl, N164q, e164⟩ := hQ164
  have N164 := Fr.app N163 N164q
  obtain ⟨v165, ev165⟩ : ∃ z : Int64, z = (nextF v155 q1 (15 : Int32) v2) := ⟨_, rfl⟩
  obtain ⟨cl166, Ar166, q166, S166, Nn166, H166, G166⟩ := id V157
  have hin166 : ¬ ((15 : Int32) < 0 ∨ cl166.slots.size ≤ ((15 : Int32)).toNatClampNeg) := inb_of S166 ⟨by decide, by decide⟩
  obtain ⟨T167, h167, X167, e167, W167, st167⟩ := stJ X164 hx hZ e164 Ar166 (j := (15 : Int32)) hin166 (g := (mkF m 342 #[.val (.long q0), .second, .val (.long q1), .second, .val (.long q2), .second, .val (.long q3), .second, .val (.int p4), .val (.int p5), .val (.int v1), .val (.int v2), .val (.int v4), .val (.int v6), .val (.int v7), .val (.ref b8), .val (.ref b9), .val (.ref b11), .unset, .unset, .unset, .unset, .unset] [(.long v165), (.int (15 : Int32)), (.ref b8)])) rfl rfl (hb hby at_342)
  have N167 := Fr.snoc X167 N164 g_b8
  have V167 : Arv Z h167 b8 k8 .long (16 : Int32) [(.long v14), (.long v25), (.long v35), (.long v45), (.long v55), (.long v65), (.long v75), (.long v85), (.long v95), (.long v105), (.long v115), (.long v125), (.long v135), (.long v145), (.long v155), (.long v165)] (.long (0 : Int64)) := Arv.set Ar166 q166 S166 Nn166 H166 G166 rfl W167 15 rfl (Nat.le_of_ble_eq_true rfl)
  have pre168 : ∀ t, Steps p.tables e below (T167.setTop (mkF m 354 #[.val (.long q0), .second, .val (.long q1), .second, .val (.long q2), .second, .val (.long q3), .second, .val (.int p4), .val (.int p5), .val (.int v1), .val (.int v2), .val (.int v4), .val (.int v6), .val (.int v7), .val (.ref b8), .val (.ref b9), .val (.ref b11), .unset, .unset, .unset, .unset, .unset] [(.long q2), (.int v1), (.int (0 : Int32)), (.ref b11), (.ref b9), (.ref b8)])) t → Steps p.tables e below (s₁.setTop (entryFrame m #[(.long q0), (.long q1), (.long q2), (.long q3), (.int p4), (.int p5)] maxLocals)) t := fun t kk => pre159 t (by
    show Steps p.tables e below (T157.setTop (mkF m 339 #[.val (.long q0), .second, .val (.long q1), .second, .val (.long q2), .second, .val (.long q3), .second, .val (.int p4), .val (.int p5), .val (.int v1), .val (.int v2), .val (.int v4), .val (.int v6), .val (.int v7), .val (.ref b8), .val (.ref b9), .val (.ref b11), .unset, .unset, .unset, .unset, .unset] [(.int v2), (.int (15 : Int32)), (.long q1), (.long v155), (.int (15 : Int32)), (.ref b8)])) _
    refine st164 _ ?_
    show Steps p.tables e below (T164.setTop (mkF m 342 #[.val (.long q0), .second, .val (.long q1), .second, .val (.long q2), .second, .val (.long q3), .second, .val (.int p4), .val (.int p5), .val (.int v1), .val (.int v2), .val (.int v4), .val (.int v6), .val (.int v7), .val (.ref b8), .val (.ref b9), .val (.ref b11), .unset, .unset, .unset, .unset, .unset] [(.long (nextF v155 q1 (15 : Int32) v2)), (.int (15 : Int32)), (.ref b8)])) _
    rw [← ev165]
    show Steps p.tables e below (T164.setTop (mkF m 342 #[.val (.long q0), .second, .val (.long q1), .second, .val (.long q2), .second, .val (.long q3), .second, .val (.int p4), .val (.int p5), .val (.int v1), .val (.int v2), .val (.int v4), .val (.int v6), .val (.int v7), .val (.ref b8), .val (.ref b9), .val (.ref b11), .unset, .unset, .unset, .unset, .unset] [(.long v165), (.int (15 : Int32)), (.ref b8)])) _
    refine st167 _ ?_
    show Steps p.tables e below (T167.setTop (mkF m 343 #[.val (.long q0), .second, .val (.long q1), .second, .val (.long q2), .second, .val (.long q3), .second, .val (.int p4), .val (.int p5), .val (.int v1), .val (.int v2), .val (.int v4), .val (.int v6), .val (.int v7), .val (.ref b8), .val (.ref b9), .val (.ref b11), .unset, .unset, .unset, .unset, .unset] [])) _
    refine XS.aload X167.here hx rfl (hb hby at_343) rfl rfl ?_
    show Steps p.tables e below (T167.setTop (mkF m 345 #[.val (.long q0), .second, .val (.long q1), .second, .val (.long q2), .second, .val (.long q3), .second, .val (.int p4), .val (.int p5), .val (.int v1), .val (.int v2), .val (.int v4), .val (.int v6), .val (.int v7), .val (.ref b8), .val (.ref b9), .val (.ref b11), .unset, .unset, .unset, .unset, .unset] [(.ref b8)])) _
    refine XS.aload X167.here hx rfl (hb hby at_345) rfl rfl ?_
    show Steps p.tables e below (T167.setTop (mkF m 347 #[.val (.long q0), .second, .val (.long q1), .second, .val (.long q2), .second, .val (.long q3), .second, .val (.int p4), .val (.int p5), .val (.int v1), .val (.int v2), .val (.int v4), .val (.int v6), .val (.int v7), .val (.ref b8), .val (.ref b9), .val (.ref b11), .unset, .unset, .unset, .unset, .unset] [(.ref b9), (.ref b8)])) _
    refine XS.aload X167.here hx rfl (hb hby at_347) rfl rfl ?_
    show Steps p.tables e below (T167.setTop (mkF m 349 #[.val (.long q0), .second, .val (.long q1), .second, .val (.long q2), .second, .val (.long q3), .second, .val (.int p4), .val (.int p5), .val (.int v1), .val (.int v2), .val (.int v4), .val (.int v6), .val (.int v7), .val (.ref b8), .val (.ref b9), .val (.ref b11), .unset, .unset, .unset, .unset, .unset] [(.ref b11), (.ref b9), (.ref b8)])) _
    refine XS.iconst X167.here hx rfl (hb hby at_349) ?_
    show Steps p.tables e below (T167.setTop (mkF m 350 #[.val (.long q0), .second, .val (.long q1), .second, .val (.long q2), .second, .val (.long q3), .second, .val (.int p4), .val (.int p5), .val (.int v1), .val (.int v2), .val (.int v4), .val (.int v6), .val (.int v7), .val (.ref b8), .val (.ref b9), .val (.ref b11), .unset, .unset, .unset, .unset, .unset] [(.int (0 : Int32)), (.ref b11), (.ref b9), (.ref b8)])) _
    refine XS.iload X167.here hx rfl (hb hby at_350) rfl ?_
    show Steps p.tables e below (T167.setTop (mkF m 352 #[.val (.long q0), .second, .val (.long q1), .second, .val (.long q2), .second, .val (.long q3), .second, .val (.int p4), .val (.int p5), .val (.int v1), .val (.int v2), .val (.int v4), .val (.int v6), .val (.int v7), .val (.ref b8), .val (.ref b9), .val (.ref b11), .unset, .unset, .unset, .unset, .unset] [(.int v1), (.int (0 : Int32)), (.ref b11), (.ref b9), (.ref b8)])) _
    refine XS.lload X167.here hx rfl (hb hby at_352) rfl ?_
    exact kk)
  have Zz169 := (Nat.le_trans Zz160 (Keep.of_wr W167).1)
  have Av170 := (Av161.other W167 (Ne.symm ne_b8_b9))
  have Av171 := (Av162.other W167 (Ne.symm ne_b8_b11))
  obtain ⟨Lg172, X172, N172⟩ : ∃ L' : List Loc, Stand p l e room_1 s m #[(.long q0), (.long q1), (.long q2), (.long q3), (.int p4), (.int p5)] below meth c T167 L' 3 48 ∧ Fr n0 L' := ⟨_, X167, N167⟩
  (try clear e157); (try clear V157); (try clear pre159); (try clear Zz160); (try clear Av161); (try clear Av162); (try clear X163); (try clear N163); (try clear X164); (try clear st164); (try clear N164q); (try clear e164); (try clear N164); (try clear Ar166); (try clear q166); (try clear S166); (try clear Nn166); (try clear H166); (try clear G166); (try clear hin166); (try clear X167); (try clear W167); (try clear st167); (try clear N167)
  obtain ⟨_, _, ⟨T173, L173, k173, n173⟩, -, X173, ⟨Lc173, hQ173, l173, y173, z173⟩, st173⟩ := Jvm.LawKit.callS X172 hx (y := (⟨"com/example/copyleaf/copyleaf/page/PageFirstAtLeastPinLaw", "fill", "([J[J[JIIJ)V"⟩ : MethodName)) hown (mvT hZ (hw _ (List.mem_of_getElem? (i := 8) rfl))) (mvT hZ (hw _ (List.mem_of_getElem? (i := 9) rfl))) (mvT hZ (hw _ (List.mem_of_getElem? (i := 5) rfl))) (mvT hZ (hw _ (List.mem_of_getElem? (i := 10) rfl))) (by decide) (backOf (W := 0) (rm2 l Z a0 hw [] b8 b9 b11 (0 : Int32) v1 q2 k8 k9 k11 [(.long v14), (.long v25), (.long v35), (.long v45), (.long v55), (.long v65), (.long v75), (.long v85), (.long v95), (.long v105), (.long v115), (.long v125), (.long v135), (.long v145), (.long v155), (.long v165)] [(.long (0 : Int64)), (.long (0 : Int64)), (.long (0 : Int64)), (.long (0 : Int64)), (.long (0 : Int64)), (.long (0 : Int64)), (.long (0 : Int64)), (.long (0 : Int64)), (.long (0 : Int64)), (.long (0 : Int64)), (.long (0 : Int64)), (.long (0 : Int64)), (.long (0 : Int64)), (.long (0 : Int64)), (.long (0 : Int64)), (.long (0 : Int64))] [(.long (0 : Int64)), (.long (0 : Int64)), (.long (0 : Int64)), (.long (0 : Int64)), (.long (0 : Int64)), (.long (0 : Int64)), (.long (0 : Int64)), (.long (0 : Int64)), (.long (0 : Int64)), (.long (0 : Int64)), (.long (0 : Int64)), (.long (0 : Int64)), (.long (0 : Int64)), (.long (0 : Int64)), (.long (0 : Int64)), (.long (0 : Int64))] v14 h167 n0 Zz169 V167 Av170 Av171 ne_b8_b9 ne_b8_b11 ne_b9_b11 g_b9 g_b11 ⟨by decide, by decide⟩ rfl (Nat.le_of_ble_eq_true rfl) (Nat.le_of_ble_eq_true rfl)) hZ (hw _ (List.mem_of_getElem? (i := 10) rfl)) (hw _ (List.mem_of_getElem? (i := 5) rfl)) (by decide) (by decide)) (g := (mkF m 354 #[.val (.long q0), .second, .val (.long q1), .second, .val (.long q2), .second, .val (.long q3), .second, .val (.int p4), .val (.int p5), .val (.int v1), .val (.int v2), .val (.int v4), .val (.int v6), .val (.int v7), .val (.ref b8), .val (.ref b9), .val (.ref b11), .unset, .unset, .unset, .unset, .unset] [(.long q2), (.int v1), (.int (0 : Int32)), (.ref b11), (.ref b9), (.ref b8)])) rfl (by rw [hml]; rfl) (argsL := [(.ref b8), (.ref b9), (.ref b11), (.int (0 : Int32)), (.int v1), (.long q2)]) (rest := []) (lenOf pd__28_5bJ_5bJ_5bJIIJ_29V rfl) rfl (by show 2 * 0 + _ ≤ _; exact Nat.le_of_eq rfl) (hb hby at_354) (fun _ _ => ⟨rfl, e167, (by decide : 3 + 0 ≤ _), (by decide : 48 + 0 ≤ _)⟩)
  dsimp only [Pt.U, Pt.locs, Pt.cells, Pt.slots] at X173 l173 y173 z173 st173 hQ173
  subst l173 y173 z173
  obtain ⟨rfl, N173q, K173, Vu173, Vi173⟩ := hQ173
  have N173 := Fr.app N172 N173q
  obtain ⟨u_0, eu_0⟩ : ∃ z : Int64, z = prF v14 v1 := ⟨_, rfl⟩
  rw [← eu_0] at Vu173 Vi173
  obtain ⟨in_0, ein_0⟩ : ∃ z : Int64, z = inF u_0 (0 : Int32) v1 q2 := ⟨_, rfl⟩
  rw [← ein_0] at Vi173
  have Wu173 : Arv Z T173.heap b9 k9 .long (16 : Int32) [(.long u_0), (.long (0 : Int64)), (.long (0 : Int64)), (.long (0 : Int64)), (.long (0 : Int64)), (.long (0 : Int64)), (.long (0 : Int64)), (.long (0 : Int64)), (.long (0 : Int64)), (.long (0 : Int64)), (.long (0 : Int64)), (.long (0 : Int64)), (.long (0 : Int64)), (.long (0 : Int64)), (.long (0 : Int64)), (.long (0 : Int64))] (.long (0 : Int64)) := Vu173
  have Wi173 : Arv Z T173.heap b11 k11 .long (16 : Int32) [(.long in_0), (.long (0 : Int64)), (.long (0 : Int64)), (.long (0 : Int64)), (.long (0 : Int64)), (.long (0 : Int64)), (.long (0 : Int64)), (.long (0 : Int64)), (.long (0 : Int64)), (.long (0 : Int64)), (.long (0 : Int64)), (.long (0 : Int64)), (.long (0 : Int64)), (.long (0 : Int64)), (.long (0 : Int64)), (.long (0 : Int64))] (.long (0 : Int64)) := Vi173
  have pre174 : ∀ t, Steps p.tables e below (T173.setTop (mkF m 368 #[.val (.long q0), .second, .val (.long q1), .second, .val (.long q2), .second, .val (.long q3), .second, .val (.int p4), .val (.int p5), .val (.int v1), .val (.int v2), .val (.int v4), .val (.int v6), .val (.int v7), .val (.ref b8), .val (.ref b9), .val (.ref b11), .unset, .unset, .unset, .unset, .unset] [(.long q2), (.int v1), (.int (1 : Int32)), (.ref b11), (.ref b9), (.ref b8)])) t → Steps p.tables e below (s₁.setTop (entryFrame m #[(.long q0), (.long q1), (.long q2), (.long q3), (.int p4), (.int p5)] maxLocals)) t := fun t kk => pre168 t (by
    show Steps p.tables e below (T167.setTop (mkF m 354 #[.val (.long q0), .second, .val (.long q1), .second, .val (.long q2), .second, .val (.long q3), .second, .val (.int p4), .val (.int p5), .val (.int v1), .val (.int v2), .val (.int v4), .val (.int v6), .val (.int v7), .val (.ref b8), .val (.ref b9), .val (.ref b11), .unset, .unset, .unset, .unset, .unset] [(.long q2), (.int v1), (.int (0 : Int32)), (.ref b11), (.ref b9), (.ref b8)])) _
    refine st173 _ ?_
    show Steps p.tables e below (T173.setTop (mkF m 357 #[.val (.long q0), .second, .val (.long q1), .second, .val (.long q2), .second, .val (.long q3), .second, .val (.int p4), .val (.int p5), .val (.int v1), .val (.int v2), .val (.int v4), .val (.int v6), .val (.int v7), .val (.ref b8), .val (.ref b9), .val (.ref b11), .unset, .unset, .unset, .unset, .unset] [])) _
    refine XS.aload X173.here hx rfl (hb hby at_357) rfl rfl ?_
    show Steps p.tables e below (T173.setTop (mkF m 359 #[.val (.long q0), .second, .val (.long q1), .second, .val (.long q2), .second, .val (.long q3), .second, .val (.int p4), .val (.int p5), .val (.int v1), .val (.int v2), .val (.int v4), .val (.int v6), .val (.int v7), .val (.ref b8), .val (.ref b9), .val (.ref b11), .unset, .unset, .unset, .unset, .unset] [(.ref b8)])) _
    refine XS.aload X173.here hx rfl (hb hby at_359) rfl rfl ?_
    show Steps p.tables e below (T173.setTop (mkF m 361 #[.val (.long q0), .second, .val (.long q1), .second, .val (.long q2), .second, .val (.long q3), .second, .val (.int p4), .val (.int p5), .val (.int v1), .val (.int v2), .val (.int v4), .val (.int v6), .val (.int v7), .val (.ref b8), .val (.ref b9), .val (.ref b11), .unset, .unset, .unset, .unset, .unset] [(.ref b9), (.ref b8)])) _
    refine XS.aload X173.here hx rfl (hb hby at_361) rfl rfl ?_
    show Steps p.tables e below (T173.setTop (mkF m 363 #[.val (.long q0), .second, .val (.long q1), .second, .val (.long q2), .second, .val (.long q3), .second, .val (.int p4), .val (.int p5), .val (.int v1), .val (.int v2), .val (.int v4), .val (.int v6), .val (.int v7), .val (.ref b8), .val (.ref b9), .val (.ref b11), .unset, .unset, .unset, .unset, .unset] [(.ref b11), (.ref b9), (.ref b8)])) _
    refine XS.iconst X173.here hx rfl (hb hby at_363) ?_
    show Steps p.tables e below (T173.setTop (mkF m 364 #[.val (.long q0), .second, .val (.long q1), .second, .val (.long q2), .second, .val (.long q3), .second, .val (.int p4), .val (.int p5), .val (.int v1), .val (.int v2), .val (.int v4), .val (.int v6), .val (.int v7), .val (.ref b8), .val (.ref b9), .val (.ref b11), .unset, .unset, .unset, .unset, .unset] [(.int (1 : Int32)), (.ref b11), (.ref b9), (.ref b8)])) _
    refine XS.iload X173.here hx rfl (hb hby at_364) rfl ?_
    show Steps p.tables e below (T173.setTop (mkF m 366 #[.val (.long q0), .second, .val (.long q1), .second, .val (.long q2), .second, .val (.long q3), .second, .val (.int p4), .val (.int p5), .val (.int v1), .val (.int v2), .val (.int v4), .val (.int v6), .val (.int v7), .val (.ref b8), .val (.ref b9), .val (.ref b11), .unset, .unset, .unset, .unset, .unset] [(.int v1), (.int (1 : Int32)), (.ref b11), (.ref b9), (.ref b8)])) _
    refine XS.lload X173.here hx rfl (hb hby at_366) rfl ?_
    exact kk)
  have Zz175 := (Nat.le_trans Zz169 K173.1)
  have Av176 := (V167.keep K173 (ninS ne_b8_b9 (ninS ne_b8_b11 nin0)))
  obtain ⟨Lg177, X177, N177⟩ : ∃ L' : List Loc, Stand p l e room_1 s m #[(.long q0), (.long q1), (.long q2), (.long q3), (.int p4), (.int p5)] below meth c T173 L' 3 48 ∧ Fr n0 L' := ⟨_, X173, N173⟩
  (try clear e167); (try clear V167); (try clear pre168); (try clear Zz169); (try clear Av170); (try clear Av171); (try clear X172); (try clear N172); (try clear X173); (try clear st173); (try clear N173q); (try clear K173); (try clear Vu173); (try clear Vi173); (try clear N173)
  obtain ⟨_, _, ⟨T178, L178, k178, n178⟩, -, X178, ⟨Lc178, hQ178, l178, y178, z178⟩, st178⟩ := Jvm.LawKit.callS X177 hx (y := (⟨"com/example/copyleaf/copyleaf/page/PageFirstAtLeastPinLaw", "fill", "([J[J[JIIJ)V"⟩ : MethodName)) hown (mvT hZ (hw _ (List.mem_of_getElem? (i := 8) rfl))) (mvT hZ (hw _ (List.mem_of_getElem? (i := 9) rfl))) (mvT hZ (hw _ (List.mem_of_getElem? (i := 5) rfl))) (mvT hZ (hw _ (List.mem_of_getElem? (i := 10) rfl))) (by decide) (backOf (W := 0) (rm2 l Z a0 hw [] b8 b9 b11 (1 : Int32) v1 q2 k8 k9 k11 [(.long v14), (.long v25), (.long v35), (.long v45), (.long v55), (.long v65), (.long v75), (.long v85), (.long v95), (.long v105), (.long v115), (.long v125), (.long v135), (.long v145), (.long v155), (.long v165)] [(.long u_0), (.long (0 : Int64)), (.long (0 : Int64)), (.long (0 : Int64)), (.long (0 : Int64)), (.long (0 : Int64)), (.long (0 : Int64)), (.long (0 : Int64)), (.long (0 : Int64)), (.long (0 : Int64)), (.long (0 : Int64)), (.long (0 : Int64)), (.long (0 : Int64)), (.long (0 : Int64)), (.long (0 : Int64)), (.long (0 : Int64))] [(.long in_0), (.long (0 : Int64)), (.long (0 : Int64)), (.long (0 : Int64)), (.long (0 : Int64)), (.long (0 : Int64)), (.long (0 : Int64)), (.long (0 : Int64)), (.long (0 : Int64)), (.long (0 : Int64)), (.long (0 : Int64)), (.long (0 : Int64)), (.long (0 : Int64)), (.long (0 : Int64)), (.long (0 : Int64)), (.long (0 : Int64))] v25 T173.heap n0 Zz175 Av176 Wu173 Wi173 ne_b8_b9 ne_b8_b11 ne_b9_b11 g_b9 g_b11 ⟨by decide, by decide⟩ rfl (Nat.le_of_ble_eq_true rfl) (Nat.le_of_ble_eq_true rfl)) hZ (hw _ (List.mem_of_getElem? (i := 10) rfl)) (hw _ (List.mem_of_getElem? (i := 5) rfl)) (by decide) (by decide)) (g := (mkF m 368 #[.val (.long q0), .second, .val (.long q1), .second, .val (.long q2), .second, .val (.long q3), .second, .val (.int p4), .val (.int p5), .val (.int v1), .val (.int v2), .val (.int v4), .val (.int v6), .val (.int v7), .val (.ref b8), .val (.ref b9), .val (.ref b11), .unset, .unset, .unset, .unset, .unset] [(.long q2), (.int v1), (.int (1 : Int32)), (.ref b11), (.ref b9), (.ref b8)])) rfl (by rw [hml]; rfl) (argsL := [(.ref b8), (.ref b9), (.ref b11), (.int (1 : Int32)), (.int v1), (.long q2)]) (rest := []) (lenOf pd__28_5bJ_5bJ_5bJIIJ_29V rfl) rfl (by show 2 * 0 + _ ≤ _; exact Nat.le_of_eq rfl) (hb hby at_368) (fun _ _ => ⟨rfl, rfl, (by decide : 3 + 0 ≤ _), (by decide : 48 + 0 ≤ _)⟩)
  dsimp only [Pt.U, Pt.locs, Pt.cells, Pt.slots] at X178 l178 y178 z178 st178 hQ178
  subst l178 y178 z178
  obtain ⟨rfl, N178q, K178, Vu178, Vi178⟩ := hQ178
  have N178 := Fr.app N177 N178q
  obtain ⟨u_1, eu_1⟩ : ∃ z : Int64, z = prF v25 v1 := ⟨_, rfl⟩
  rw [← eu_1] at Vu178 Vi178
  obtain ⟨in_1, ein_1⟩ : ∃ z : Int64, z = inF u_1 (1 : Int32) v1 q2 := ⟨_, rfl⟩
  rw [← ein_1] at Vi178
  have Wu178 : Arv Z T178.heap b9 k9 .long (16 : Int32) [(.long u_0), (.long u_1), (.long (0 : Int64)), (.long (0 : Int64)), (.long (0 : Int64)), (.long (0 : Int64)), (.long (0 : Int64)), (.long (0 : Int64)), (.long (0 : Int64)), (.long (0 : Int64)), (.long (0 : Int64)), (.long (0 : Int64)), (.long (0 : Int64)), (.long (0 : Int64)), (.long (0 : Int64)), (.long (0 : Int64))] (.long (0 : Int64)) := Vu178
  have Wi178 : Arv Z T178.heap b11 k11 .long (16 : Int32) [(.long in_0), (.long in_1), (.long (0 : Int64)), (.long (0 : Int64)), (.long (0 : Int64)), (.long (0 : Int64)), (.long (0 : Int64)), (.long (0 : Int64)), (.long (0 : Int64)), (.long (0 : Int64)), (.long (0 : Int64)), (.long (0 : Int64)), (.long (0 : Int64)), (.long (0 : Int64)), (.long (0 : Int64)), (.long (0 : Int64))] (.long (0 : Int64)) := Vi178
  have pre179 : ∀ t, Steps p.tables e below (T178.setTop (mkF m 382 #[.val (.long q0), .second, .val (.long q1), .second, .val (.long q2), .second, .val (.long q3), .second, .val (.int p4), .val (.int p5), .val (.int v1), .val (.int v2), .val (.int v4), .val (.int v6), .val (.int v7), .val (.ref b8), .val (.ref b9), .val (.ref b11), .unset, .unset, .unset, .unset, .unset] [(.long q2), (.int v1), (.int (2 : Int32)), (.ref b11), (.ref b9), (.ref b8)])) t → Steps p.tables e below (s₁.setTop (entryFrame m #[(.long q0), (.long q1), (.long q2), (.long q3), (.int p4), (.int p5)] maxLocals)) t := fun t kk => pre174 t (by
    show Steps p.tables e below (T173.setTop (mkF m 368 #[.val (.long q0), .second, .val (.long q1), .second, .val (.long q2), .second, .val (.long q3), .second, .val (.int p4), .val (.int p5), .val (.int v1), .val (.int v2), .val (.int v4), .val (.int v6), .val (.int v7), .val (.ref b8), .val (.ref b9), .val (.ref b11), .unset, .unset, .unset, .unset, .unset] [(.long q2), (.int v1), (.int (1 : Int32)), (.ref b11), (.ref b9), (.ref b8)])) _
    refine st178 _ ?_
    show Steps p.tables e below (T178.setTop (mkF m 371 #[.val (.long q0), .second, .val (.long q1), .second, .val (.long q2), .second, .val (.long q3), .second, .val (.int p4), .val (.int p5), .val (.int v1), .val (.int v2), .val (.int v4), .val (.int v6), .val (.int v7), .val (.ref b8), .val (.ref b9), .val (.ref b11), .unset, .unset, .unset, .unset, .unset] [])) _
    refine XS.aload X178.here hx rfl (hb hby at_371) rfl rfl ?_
    show Steps p.tables e below (T178.setTop (mkF m 373 #[.val (.long q0), .second, .val (.long q1), .second, .val (.long q2), .second, .val (.long q3), .second, .val (.int p4), .val (.int p5), .val (.int v1), .val (.int v2), .val (.int v4), .val (.int v6), .val (.int v7), .val (.ref b8), .val (.ref b9), .val (.ref b11), .unset, .unset, .unset, .unset, .unset] [(.ref b8)])) _
    refine XS.aload X178.here hx rfl (hb hby at_373) rfl rfl ?_
    show Steps p.tables e below (T178.setTop (mkF m 375 #[.val (.long q0), .second, .val (.long q1), .second, .val (.long q2), .second, .val (.long q3), .second, .val (.int p4), .val (.int p5), .val (.int v1), .val (.int v2), .val (.int v4), .val (.int v6), .val (.int v7), .val (.ref b8), .val (.ref b9), .val (.ref b11), .unset, .unset, .unset, .unset, .unset] [(.ref b9), (.ref b8)])) _
    refine XS.aload X178.here hx rfl (hb hby at_375) rfl rfl ?_
    show Steps p.tables e below (T178.setTop (mkF m 377 #[.val (.long q0), .second, .val (.long q1), .second, .val (.long q2), .second, .val (.long q3), .second, .val (.int p4), .val (.int p5), .val (.int v1), .val (.int v2), .val (.int v4), .val (.int v6), .val (.int v7), .val (.ref b8), .val (.ref b9), .val (.ref b11), .unset, .unset, .unset, .unset, .unset] [(.ref b11), (.ref b9), (.ref b8)])) _
    refine XS.iconst X178.here hx rfl (hb hby at_377) ?_
    show Steps p.tables e below (T178.setTop (mkF m 378 #[.val (.long q0), .second, .val (.long q1), .second, .val (.long q2), .second, .val (.long q3), .second, .val (.int p4), .val (.int p5), .val (.int v1), .val (.int v2), .val (.int v4), .val (.int v6), .val (.int v7), .val (.ref b8), .val (.ref b9), .val (.ref b11), .unset, .unset, .unset, .unset, .unset] [(.int (2 : Int32)), (.ref b11), (.ref b9), (.ref b8)])) _
    refine XS.iload X178.here hx rfl (hb hby at_378) rfl ?_
    show Steps p.tables e below (T178.setTop (mkF m 380 #[.val (.long q0), .second, .val (.long q1), .second, .val (.long q2), .second, .val (.long q3), .second, .val (.int p4), .val (.int p5), .val (.int v1), .val (.int v2), .val (.int v4), .val (.int v6), .val (.int v7), .val (.ref b8), .val (.ref b9), .val (.ref b11), .unset, .unset, .unset, .unset, .unset] [(.int v1), (.int (2 : Int32)), (.ref b11), (.ref b9), (.ref b8)])) _
    refine XS.lload X178.here hx rfl (hb hby at_380) rfl ?_
    exact kk)
  have Zz180 := (Nat.le_trans Zz175 K178.1)
  have Av181 := (Av176.keep K178 (ninS ne_b8_b9 (ninS ne_b8_b11 nin0)))
  obtain ⟨Lg182, X182, N182⟩ : ∃ L' : List Loc, Stand p l e room_1 s m #[(.long q0), (.long q1), (.long q2), (.long q3), (.int p4), (.int p5)] below meth c T178 L' 3 48 ∧ Fr n0 L' := ⟨_, X178, N178⟩
  (try clear Wu173); (try clear Wi173); (try clear pre174); (try clear Zz175); (try clear Av176); (try clear X177); (try clear N177); (try clear X178); (try clear st178); (try clear N178q); (try clear K178); (try clear Vu178); (try clear Vi178); (try clear N178)
  obtain ⟨_, _, ⟨T183, L183, k183, n183⟩, -, X183, ⟨Lc183, hQ183, l183, y183, z183⟩, st183⟩ := Jvm.LawKit.callS X182 hx (y := (⟨"com/example/copyleaf/copyleaf/page/PageFirstAtLeastPinLaw", "fill", "([J[J[JIIJ)V"⟩ : MethodName)) hown (mvT hZ (hw _ (List.mem_of_getElem? (i := 8) rfl))) (mvT hZ (hw _ (List.mem_of_getElem? (i := 9) rfl))) (mvT hZ (hw _ (List.mem_of_getElem? (i := 5) rfl))) (mvT hZ (hw _ (List.mem_of_getElem? (i := 10) rfl))) (by decide) (backOf (W := 0) (rm2 l Z a0 hw [] b8 b9 b11 (2 : Int32) v1 q2 k8 k9 k11 [(.long v14), (.long v25), (.long v35), (.long v45), (.long v55), (.long v65), (.long v75), (.long v85), (.long v95), (.long v105), (.long v115), (.long v125), (.long v135), (.long v145), (.long v155), (.long v165)] [(.long u_0), (.long u_1), (.long (0 : Int64)), (.long (0 : Int64)), (.long (0 : Int64)), (.long (0 : Int64)), (.long (0 : Int64)), (.long (0 : Int64)), (.long (0 : Int64)), (.long (0 : Int64)), (.long (0 : Int64)), (.long (0 : Int64)), (.long (0 : Int64)), (.long (0 : Int64)), (.long (0 : Int64)), (.long (0 : Int64))] [(.long in_0), (.long in_1), (.long (0 : Int64)), (.long (0 : Int64)), (.long (0 : Int64)), (.long (0 : Int64)), (.long (0 : Int64)), (.long (0 : Int64)), (.long (0 : Int64)), (.long (0 : Int64)), (.long (0 : Int64)), (.long (0 : Int64)), (.long (0 : Int64)), (.long (0 : Int64)), (.long (0 : Int64)), (.long (0 : Int64))] v35 T178.heap n0 Zz180 Av181 Wu178 Wi178 ne_b8_b9 ne_b8_b11 ne_b9_b11 g_b9 g_b11 ⟨by decide, by decide⟩ rfl (Nat.le_of_ble_eq_true rfl) (Nat.le_of_ble_eq_true rfl)) hZ (hw _ (List.mem_of_getElem? (i := 10) rfl)) (hw _ (List.mem_of_getElem? (i := 5) rfl)) (by decide) (by decide)) (g := (mkF m 382 #[.val (.long q0), .second, .val (.long q1), .second, .val (.long q2), .second, .val (.long q3), .second, .val (.int p4), .val (.int p5), .val (.int v1), .val (.int v2), .val (.int v4), .val (.int v6), .val (.int v7), .val (.ref b8), .val (.ref b9), .val (.ref b11), .unset, .unset, .unset, .unset, .unset] [(.long q2), (.int v1), (.int (2 : Int32)), (.ref b11), (.ref b9), (.ref b8)])) rfl (by rw [hml]; rfl) (argsL := [(.ref b8), (.ref b9), (.ref b11), (.int (2 : Int32)), (.int v1), (.long q2)]) (rest := []) (lenOf pd__28_5bJ_5bJ_5bJIIJ_29V rfl) rfl (by show 2 * 0 + _ ≤ _; exact Nat.le_of_eq rfl) (hb hby at_382) (fun _ _ => ⟨rfl, rfl, (by decide : 3 + 0 ≤ _), (by decide : 48 + 0 ≤ _)⟩)
  dsimp only [Pt.U, Pt.locs, Pt.cells, Pt.slots] at X183 l183 y183 z183 st183 hQ183
  subst l183 y183 z183
  obtain ⟨rfl, N183q, K183, Vu183, Vi183⟩ := hQ183
  have N183 := Fr.app N182 N183q
  obtain ⟨u_2, eu_2⟩ : ∃ z : Int64, z = prF v35 v1 := ⟨_, rfl⟩
  rw [← eu_2] at Vu183 Vi183
  obtain ⟨in_2, ein_2⟩ : ∃ z : Int64, z = inF u_2 (2 : Int32) v1 q2 := ⟨_, rfl⟩
  rw [← ein_2] at Vi183
  have Wu183 : Arv Z T183.heap b9 k9 .long (16 : Int32) [(.long u_0), (.long u_1), (.long u_2), (.long (0 : Int64)), (.long (0 : Int64)), (.long (0 : Int64)), (.long (0 : Int64)), (.long (0 : Int64)), (.long (0 : Int64)), (.long (0 : Int64)), (.long (0 : Int64)), (.long (0 : Int64)), (.long (0 : Int64)), (.long (0 : Int64)), (.long (0 : Int64)), (.long (0 : Int64))] (.long (0 : Int64)) := Vu183
  have Wi183 : Arv Z T183.heap b11 k11 .long (16 : Int32) [(.long in_0), (.long in_1), (.long in_2), (.long (0 : Int64)), (.long (0 : Int64)), (.long (0 : Int64)), (.long (0 : Int64)), (.long (0 : Int64)), (.long (0 : Int64)), (.long (0 : Int64)), (.long (0 : Int64)), (.long (0 : Int64)), (.long (0 : Int64)), (.long (0 : Int64)), (.long (0 : Int64)), (.long (0 : Int64))] (.long (0 : Int64)) := Vi183
  have pre184 : ∀ t, Steps p.tables e below (T183.setTop (mkF m 396 #[.val (.long q0), .second, .val (.long q1), .second, .val (.long q2), .second, .val (.long q3), .second, .val (.int p4), .val (.int p5), .val (.int v1), .val (.int v2), .val (.int v4), .val (.int v6), .val (.int v7), .val (.ref b8), .val (.ref b9), .val (.ref b11), .unset, .unset, .unset, .unset, .unset] [(.long q2), (.int v1), (.int (3 : Int32)), (.ref b11), (.ref b9), (.ref b8)])) t → Steps p.tables e below (s₁.setTop (entryFrame m #[(.long q0), (.long q1), (.long q2), (.long q3), (.int p4), (.int p5)] maxLocals)) t := fun t kk => pre179 t (by
    show Steps p.tables e below (T178.setTop (mkF m 382 #[.val (.long q0), .second, .val (.long q1), .second, .val (.long q2), .second, .val (.long q3), .second, .val (.int p4), .val (.int p5), .val (.int v1), .val (.int v2), .val (.int v4), .val (.int v6), .val (.int v7), .val (.ref b8), .val (.ref b9), .val (.ref b11), .unset, .unset, .unset, .unset, .unset] [(.long q2), (.int v1), (.int (2 : Int32)), (.ref b11), (.ref b9), (.ref b8)])) _
    refine st183 _ ?_
    show Steps p.tables e below (T183.setTop (mkF m 385 #[.val (.long q0), .second, .val (.long q1), .second, .val (.long q2), .second, .val (.long q3), .second, .val (.int p4), .val (.int p5), .val (.int v1), .val (.int v2), .val (.int v4), .val (.int v6), .val (.int v7), .val (.ref b8), .val (.ref b9), .val (.ref b11), .unset, .unset, .unset, .unset, .unset] [])) _
    refine XS.aload X183.here hx rfl (hb hby at_385) rfl rfl ?_
    show Steps p.tables e below (T183.setTop (mkF m 387 #[.val (.long q0), .second, .val (.long q1), .second, .val (.long q2), .second, .val (.long q3), .second, .val (.int p4), .val (.int p5), .val (.int v1), .val (.int v2), .val (.int v4), .val (.int v6), .val (.int v7), .val (.ref b8), .val (.ref b9), .val (.ref b11), .unset, .unset, .unset, .unset, .unset] [(.ref b8)])) _
    refine XS.aload X183.here hx rfl (hb hby at_387) rfl rfl ?_
    show Steps p.tables e below (T183.setTop (mkF m 389 #[.val (.long q0), .second, .val (.long q1), .second, .val (.long q2), .second, .val (.long q3), .second, .val (.int p4), .val (.int p5), .val (.int v1), .val (.int v2), .val (.int v4), .val (.int v6), .val (.int v7), .val (.ref b8), .val (.ref b9), .val (.ref b11), .unset, .unset, .unset, .unset, .unset] [(.ref b9), (.ref b8)])) _
    refine XS.aload X183.here hx rfl (hb hby at_389) rfl rfl ?_
    show Steps p.tables e below (T183.setTop (mkF m 391 #[.val (.long q0), .second, .val (.long q1), .second, .val (.long q2), .second, .val (.long q3), .second, .val (.int p4), .val (.int p5), .val (.int v1), .val (.int v2), .val (.int v4), .val (.int v6), .val (.int v7), .val (.ref b8), .val (.ref b9), .val (.ref b11), .unset, .unset, .unset, .unset, .unset] [(.ref b11), (.ref b9), (.ref b8)])) _
    refine XS.iconst X183.here hx rfl (hb hby at_391) ?_
    show Steps p.tables e below (T183.setTop (mkF m 392 #[.val (.long q0), .second, .val (.long q1), .second, .val (.long q2), .second, .val (.long q3), .second, .val (.int p4), .val (.int p5), .val (.int v1), .val (.int v2), .val (.int v4), .val (.int v6), .val (.int v7), .val (.ref b8), .val (.ref b9), .val (.ref b11), .unset, .unset, .unset, .unset, .unset] [(.int (3 : Int32)), (.ref b11), (.ref b9), (.ref b8)])) _
    refine XS.iload X183.here hx rfl (hb hby at_392) rfl ?_
    show Steps p.tables e below (T183.setTop (mkF m 394 #[.val (.long q0), .second, .val (.long q1), .second, .val (.long q2), .second, .val (.long q3), .second, .val (.int p4), .val (.int p5), .val (.int v1), .val (.int v2), .val (.int v4), .val (.int v6), .val (.int v7), .val (.ref b8), .val (.ref b9), .val (.ref b11), .unset, .unset, .unset, .unset, .unset] [(.int v1), (.int (3 : Int32)), (.ref b11), (.ref b9), (.ref b8)])) _
    refine XS.lload X183.here hx rfl (hb hby at_394) rfl ?_
    exact kk)
  have Zz185 := (Nat.le_trans Zz180 K183.1)
  have Av186 := (Av181.keep K183 (ninS ne_b8_b9 (ninS ne_b8_b11 nin0)))
  obtain ⟨Lg187, X187, N187⟩ : ∃ L' : List Loc, Stand p l e room_1 s m #[(.long q0), (.long q1), (.long q2), (.long q3), (.int p4), (.int p5)] below meth c T183 L' 3 48 ∧ Fr n0 L' := ⟨_, X183, N183⟩
  (try clear Wu178); (try clear Wi178); (try clear pre179); (try clear Zz180); (try clear Av181); (try clear X182); (try clear N182); (try clear X183); (try clear st183); (try clear N183q); (try clear K183); (try clear Vu183); (try clear Vi183); (try clear N183)
  obtain ⟨_, _, ⟨T188, L188, k188, n188⟩, -, X188, ⟨Lc188, hQ188, l188, y188, z188⟩, st188⟩ := Jvm.LawKit.callS X187 hx (y := (⟨"com/example/copyleaf/copyleaf/page/PageFirstAtLeastPinLaw", "fill", "([J[J[JIIJ)V"⟩ : MethodName)) hown (mvT hZ (hw _ (List.mem_of_getElem? (i := 8) rfl))) (mvT hZ (hw _ (List.mem_of_getElem? (i := 9) rfl))) (mvT hZ (hw _ (List.mem_of_getElem? (i := 5) rfl))) (mvT hZ (hw _ (List.mem_of_getElem? (i := 10) rfl))) (by decide) (backOf (W := 0) (rm2 l Z a0 hw [] b8 b9 b11 (3 : Int32) v1 q2 k8 k9 k11 [(.long v14), (.long v25), (.long v35), (.long v45), (.long v55), (.long v65), (.long v75), (.long v85), (.long v95), (.long v105), (.long v115), (.long v125), (.long v135), (.long v145), (.long v155), (.long v165)] [(.long u_0), (.long u_1), (.long u_2), (.long (0 : Int64)), (.long (0 : Int64)), (.long (0 : Int64)), (.long (0 : Int64)), (.long (0 : Int64)), (.long (0 : Int64)), (.long (0 : Int64)), (.long (0 : Int64)), (.long (0 : Int64)), (.long (0 : Int64)), (.long (0 : Int64)), (.long (0 : Int64)), (.long (0 : Int64))] [(.long in_0), (.long in_1), (.long in_2), (.long (0 : Int64)), (.long (0 : Int64)), (.long (0 : Int64)), (.long (0 : Int64)), (.long (0 : Int64)), (.long (0 : Int64)), (.long (0 : Int64)), (.long (0 : Int64)), (.long (0 : Int64)), (.long (0 : Int64)), (.long (0 : Int64)), (.long (0 : Int64)), (.long (0 : Int64))] v45 T183.heap n0 Zz185 Av186 Wu183 Wi183 ne_b8_b9 ne_b8_b11 ne_b9_b11 g_b9 g_b11 ⟨by decide, by decide⟩ rfl (Nat.le_of_ble_eq_true rfl) (Nat.le_of_ble_eq_true rfl)) hZ (hw _ (List.mem_of_getElem? (i := 10) rfl)) (hw _ (List.mem_of_getElem? (i := 5) rfl)) (by decide) (by decide)) (g := (mkF m 396 #[.val (.long q0), .second, .val (.long q1), .second, .val (.long q2), .second, .val (.long q3), .second, .val (.int p4), .val (.int p5), .val (.int v1), .val (.int v2), .val (.int v4), .val (.int v6), .val (.int v7), .val (.ref b8), .val (.ref b9), .val (.ref b11), .unset, .unset, .unset, .unset, .unset] [(.long q2), (.int v1), (.int (3 : Int32)), (.ref b11), (.ref b9), (.ref b8)])) rfl (by rw [hml]; rfl) (argsL := [(.ref b8), (.ref b9), (.ref b11), (.int (3 : Int32)), (.int v1), (.long q2)]) (rest := []) (lenOf pd__28_5bJ_5bJ_5bJIIJ_29V rfl) rfl (by show 2 * 0 + _ ≤ _; exact Nat.le_of_eq rfl) (hb hby at_396) (fun _ _ => ⟨rfl, rfl, (by decide : 3 + 0 ≤ _), (by decide : 48 + 0 ≤ _)⟩)
  dsimp only [Pt.U, Pt.locs, Pt.cells, Pt.slots] at X188 l188 y188 z188 st188 hQ188
  subst l188 y188 z188
  obtain ⟨rfl, N188q, K188, Vu188, Vi188⟩ := hQ188
  have N188 := Fr.app N187 N188q
  obtain ⟨u_3, eu_3⟩ : ∃ z : Int64, z = prF v45 v1 := ⟨_, rfl⟩
  rw [← eu_3] at Vu188 Vi188
  obtain ⟨in_3, ein_3⟩ : ∃ z : Int64, z = inF u_3 (3 : Int32) v1 q2 := ⟨_, rfl⟩
  rw [← ein_3] at Vi188
  have Wu188 : Arv Z T188.heap b9 k9 .long (16 : Int32) [(.long u_0), (.long u_1), (.long u_2), (.long u_3), (.long (0 : Int64)), (.long (0 : Int64)), (.long (0 : Int64)), (.long (0 : Int64)), (.long (0 : Int64)), (.long (0 : Int64)), (.long (0 : Int64)), (.long (0 : Int64)), (.long (0 : Int64)), (.long (0 : Int64)), (.long (0 : Int64)), (.long (0 : Int64))] (.long (0 : Int64)) := Vu188
  have Wi188 : Arv Z T188.heap b11 k11 .long (16 : Int32) [(.long in_0), (.long in_1), (.long in_2), (.long in_3), (.long (0 : Int64)), (.long (0 : Int64)), (.long (0 : Int64)), (.long (0 : Int64)), (.long (0 : Int64)), (.long (0 : Int64)), (.long (0 : Int64)), (.long (0 : Int64)), (.long (0 : Int64)), (.long (0 : Int64)), (.long (0 : Int64)), (.long (0 : Int64))] (.long (0 : Int64)) := Vi188
  have pre189 : ∀ t, Steps p.tables e below (T188.setTop (mkF m 410 #[.val (.long q0), .second, .val (.long q1), .second, .val (.long q2), .second, .val (.long q3), .second, .val (.int p4), .val (.int p5), .val (.int v1), .val (.int v2), .val (.int v4), .val (.int v6), .val (.int v7), .val (.ref b8), .val (.ref b9), .val (.ref b11), .unset, .unset, .unset, .unset, .unset] [(.long q2), (.int v1), (.int (4 : Int32)), (.ref b11), (.ref b9), (.ref b8)])) t → Steps p.tables e below (s₁.setTop (entryFrame m #[(.long q0), (.long q1), (.long q2), (.long q3), (.int p4), (.int p5)] maxLocals)) t := fun t kk => pre184 t (by
    show Steps p.tables e below (T183.setTop (mkF m 396 #[.val (.long q0), .second, .val (.long q1), .second, .val (.long q2), .second, .val (.long q3), .second, .val (.int p4), .val (.int p5), .val (.int v1), .val (.int v2), .val (.int v4), .val (.int v6), .val (.int v7), .val (.ref b8), .val (.ref b9), .val (.ref b11), .unset, .unset, .unset, .unset, .unset] [(.long q2), (.int v1), (.int (3 : Int32)), (.ref b11), (.ref b9), (.ref b8)])) _
    refine st188 _ ?_
    show Steps p.tables e below (T188.setTop (mkF m 399 #[.val (.long q0), .second, .val (.long q1), .second, .val (.long q2), .second, .val (.long q3), .second, .val (.int p4), .val (.int p5), .val (.int v1), .val (.int v2), .val (.int v4), .val (.int v6), .val (.int v7), .val (.ref b8), .val (.ref b9), .val (.ref b11), .unset, .unset, .unset, .unset, .unset] [])) _
    refine XS.aload X188.here hx rfl (hb hby at_399) rfl rfl ?_
    show Steps p.tables e below (T188.setTop (mkF m 401 #[.val (.long q0), .second, .val (.long q1), .second, .val (.long q2), .second, .val (.long q3), .second, .val (.int p4), .val (.int p5), .val (.int v1), .val (.int v2), .val (.int v4), .val (.int v6), .val (.int v7), .val (.ref b8), .val (.ref b9), .val (.ref b11), .unset, .unset, .unset, .unset, .unset] [(.ref b8)])) _
    refine XS.aload X188.here hx rfl (hb hby at_401) rfl rfl ?_
    show Steps p.tables e below (T188.setTop (mkF m 403 #[.val (.long q0), .second, .val (.long q1), .second, .val (.long q2), .second, .val (.long q3), .second, .val (.int p4), .val (.int p5), .val (.int v1), .val (.int v2), .val (.int v4), .val (.int v6), .val (.int v7), .val (.ref b8), .val (.ref b9), .val (.ref b11), .unset, .unset, .unset, .unset, .unset] [(.ref b9), (.ref b8)])) _
    refine XS.aload X188.here hx rfl (hb hby at_403) rfl rfl ?_
    show Steps p.tables e below (T188.setTop (mkF m 405 #[.val (.long q0), .second, .val (.long q1), .second, .val (.long q2), .second, .val (.long q3), .second, .val (.int p4), .val (.int p5), .val (.int v1), .val (.int v2), .val (.int v4), .val (.int v6), .val (.int v7), .val (.ref b8), .val (.ref b9), .val (.ref b11), .unset, .unset, .unset, .unset, .unset] [(.ref b11), (.ref b9), (.ref b8)])) _
    refine XS.iconst X188.here hx rfl (hb hby at_405) ?_
    show Steps p.tables e below (T188.setTop (mkF m 406 #[.val (.long q0), .second, .val (.long q1), .second, .val (.long q2), .second, .val (.long q3), .second, .val (.int p4), .val (.int p5), .val (.int v1), .val (.int v2), .val (.int v4), .val (.int v6), .val (.int v7), .val (.ref b8), .val (.ref b9), .val (.ref b11), .unset, .unset, .unset, .unset, .unset] [(.int (4 : Int32)), (.ref b11), (.ref b9), (.ref b8)])) _
    refine XS.iload X188.here hx rfl (hb hby at_406) rfl ?_
    show Steps p.tables e below (T188.setTop (mkF m 408 #[.val (.long q0), .second, .val (.long q1), .second, .val (.long q2), .second, .val (.long q3), .second, .val (.int p4), .val (.int p5), .val (.int v1), .val (.int v2), .val (.int v4), .val (.int v6), .val (.int v7), .val (.ref b8), .val (.ref b9), .val (.ref b11), .unset, .unset, .unset, .unset, .unset] [(.int v1), (.int (4 : Int32)), (.ref b11), (.ref b9), (.ref b8)])) _
    refine XS.lload X188.here hx rfl (hb hby at_408) rfl ?_
    exact kk)
  have Zz190 := (Nat.le_trans Zz185 K188.1)
  have Av191 := (Av186.keep K188 (ninS ne_b8_b9 (ninS ne_b8_b11 nin0)))
  obtain ⟨Lg192, X192, N192⟩ : ∃ L' : List Loc, Stand p l e room_1 s m #[(.long q0), (.long q1), (.long q2), (.long q3), (.int p4), (.int p5)] below meth c T188 L' 3 48 ∧ Fr n0 L' := ⟨_, X188, N188⟩
  (try clear Wu183); (try clear Wi183); (try clear pre184); (try clear Zz185); (try clear Av186); (try clear X187); (try clear N187); (try clear X188); (try clear st188); (try clear N188q); (try clear K188); (try clear Vu188); (try clear Vi188); (try clear N188)
  obtain ⟨_, _, ⟨T193, L193, k193, n193⟩, -, X193, ⟨Lc193, hQ193, l193, y193, z193⟩, st193⟩ := Jvm.LawKit.callS X192 hx (y := (⟨"com/example/copyleaf/copyleaf/page/PageFirstAtLeastPinLaw", "fill", "([J[J[JIIJ)V"⟩ : MethodName)) hown (mvT hZ (hw _ (List.mem_of_getElem? (i := 8) rfl))) (mvT hZ (hw _ (List.mem_of_getElem? (i := 9) rfl))) (mvT hZ (hw _ (List.mem_of_getElem? (i := 5) rfl))) (mvT hZ (hw _ (List.mem_of_getElem? (i := 10) rfl))) (by decide) (backOf (W := 0) (rm2 l Z a0 hw [] b8 b9 b11 (4 : Int32) v1 q2 k8 k9 k11 [(.long v14), (.long v25), (.long v35), (.long v45), (.long v55), (.long v65), (.long v75), (.long v85), (.long v95), (.long v105), (.long v115), (.long v125), (.long v135), (.long v145), (.long v155), (.long v165)] [(.long u_0), (.long u_1), (.long u_2), (.long u_3), (.long (0 : Int64)), (.long (0 : Int64)), (.long (0 : Int64)), (.long (0 : Int64)), (.long (0 : Int64)), (.long (0 : Int64)), (.long (0 : Int64)), (.long (0 : Int64)), (.long (0 : Int64)), (.long (0 : Int64)), (.long (0 : Int64)), (.long (0 : Int64))] [(.long in_0), (.long in_1), (.long in_2), (.long in_3), (.long (0 : Int64)), (.long (0 : Int64)), (.long (0 : Int64)), (.long (0 : Int64)), (.long (0 : Int64)), (.long (0 : Int64)), (.long (0 : Int64)), (.long (0 : Int64)), (.long (0 : Int64)), (.long (0 : Int64)), (.long (0 : Int64)), (.long (0 : Int64))] v55 T188.heap n0 Zz190 Av191 Wu188 Wi188 ne_b8_b9 ne_b8_b11 ne_b9_b11 g_b9 g_b11 ⟨by decide, by decide⟩ rfl (Nat.le_of_ble_eq_true rfl) (Nat.le_of_ble_eq_true rfl)) hZ (hw _ (List.mem_of_getElem? (i := 10) rfl)) (hw _ (List.mem_of_getElem? (i := 5) rfl)) (by decide) (by decide)) (g := (mkF m 410 #[.val (.long q0), .second, .val (.long q1), .second, .val (.long q2), .second, .val (.long q3), .second, .val (.int p4), .val (.int p5), .val (.int v1), .val (.int v2), .val (.int v4), .val (.int v6), .val (.int v7), .val (.ref b8), .val (.ref b9), .val (.ref b11), .unset, .unset, .unset, .unset, .unset] [(.long q2), (.int v1), (.int (4 : Int32)), (.ref b11), (.ref b9), (.ref b8)])) rfl (by rw [hml]; rfl) (argsL := [(.ref b8), (.ref b9), (.ref b11), (.int (4 : Int32)), (.int v1), (.long q2)]) (rest := []) (lenOf pd__28_5bJ_5bJ_5bJIIJ_29V rfl) rfl (by show 2 * 0 + _ ≤ _; exact Nat.le_of_eq rfl) (hb hby at_410) (fun _ _ => ⟨rfl, rfl, (by decide : 3 + 0 ≤ _), (by decide : 48 + 0 ≤ _)⟩)
  dsimp only [Pt.U, Pt.locs, Pt.cells, Pt.slots] at X193 l193 y193 z193 st193 hQ193
  subst l193 y193 z193
  obtain ⟨rfl, N193q, K193, Vu193, Vi193⟩ := hQ193
  have N193 := Fr.app N192 N193q
  obtain ⟨u_4, eu_4⟩ : ∃ z : Int64, z = prF v55 v1 := ⟨_, rfl⟩
  rw [← eu_4] at Vu193 Vi193
  obtain ⟨in_4, ein_4⟩ : ∃ z : Int64, z = inF u_4 (4 : Int32) v1 q2 := ⟨_, rfl⟩
  rw [← ein_4] at Vi193
  have Wu193 : Arv Z T193.heap b9 k9 .long (16 : Int32) [(.long u_0), (.long u_1), (.long u_2), (.long u_3), (.long u_4), (.long (0 : Int64)), (.long (0 : Int64)), (.long (0 : Int64)), (.long (0 : Int64)), (.long (0 : Int64)), (.long (0 : Int64)), (.long (0 : Int64)), (.long (0 : Int64)), (.long (0 : Int64)), (.long (0 : Int64)), (.long (0 : Int64))] (.long (0 : Int64)) := Vu193
  have Wi193 : Arv Z T193.heap b11 k11 .long (16 : Int32) [(.long in_0), (.long in_1), (.long in_2), (.long in_3), (.long in_4), (.long (0 : Int64)), (.long (0 : Int64)), (.long (0 : Int64)), (.long (0 : Int64)), (.long (0 : Int64)), (.long (0 : Int64)), (.long (0 : Int64)), (.long (0 : Int64)), (.long (0 : Int64)), (.long (0 : Int64)), (.long (0 : Int64))] (.long (0 : Int64)) := Vi193
  have pre194 : ∀ t, Steps p.tables e below (T193.setTop (mkF m 424 #[.val (.long q0), .second, .val (.long q1), .second, .val (.long q2), .second, .val (.long q3), .second, .val (.int p4), .val (.int p5), .val (.int v1), .val (.int v2), .val (.int v4), .val (.int v6), .val (.int v7), .val (.ref b8), .val (.ref b9), .val (.ref b11), .unset, .unset, .unset, .unset, .unset] [(.long q2), (.int v1), (.int (5 : Int32)), (.ref b11), (.ref b9), (.ref b8)])) t → Steps p.tables e below (s₁.setTop (entryFrame m #[(.long q0), (.long q1), (.long q2), (.long q3), (.int p4), (.int p5)] maxLocals)) t := fun t kk => pre189 t (by
    show Steps p.tables e below (T188.setTop (mkF m 410 #[.val (.long q0), .second, .val (.long q1), .second, .val (.long q2), .second, .val (.long q3), .second, .val (.int p4), .val (.int p5), .val (.int v1), .val (.int v2), .val (.int v4), .val (.int v6), .val (.int v7), .val (.ref b8), .val (.ref b9), .val (.ref b11), .unset, .unset, .unset, .unset, .unset] [(.long q2), (.int v1), (.int (4 : Int32)), (.ref b11), (.ref b9), (.ref b8)])) _
    refine st193 _ ?_
    show Steps p.tables e below (T193.setTop (mkF m 413 #[.val (.long q0), .second, .val (.long q1), .second, .val (.long q2), .second, .val (.long q3), .second, .val (.int p4), .val (.int p5), .val (.int v1), .val (.int v2), .val (.int v4), .val (.int v6), .val (.int v7), .val (.ref b8), .val (.ref b9), .val (.ref b11), .unset, .unset, .unset, .unset, .unset] [])) _
    refine XS.aload X193.here hx rfl (hb hby at_413) rfl rfl ?_
    show Steps p.tables e below (T193.setTop (mkF m 415 #[.val (.long q0), .second, .val (.long q1), .second, .val (.long q2), .second, .val (.long q3), .second, .val (.int p4), .val (.int p5), .val (.int v1), .val (.int v2), .val (.int v4), .val (.int v6), .val (.int v7), .val (.ref b8), .val (.ref b9), .val (.ref b11), .unset, .unset, .unset, .unset, .unset] [(.ref b8)])) _
    refine XS.aload X193.here hx rfl (hb hby at_415) rfl rfl ?_
    show Steps p.tables e below (T193.setTop (mkF m 417 #[.val (.long q0), .second, .val (.long q1), .second, .val (.long q2), .second, .val (.long q3), .second, .val (.int p4), .val (.int p5), .val (.int v1), .val (.int v2), .val (.int v4), .val (.int v6), .val (.int v7), .val (.ref b8), .val (.ref b9), .val (.ref b11), .unset, .unset, .unset, .unset, .unset] [(.ref b9), (.ref b8)])) _
    refine XS.aload X193.here hx rfl (hb hby at_417) rfl rfl ?_
    show Steps p.tables e below (T193.setTop (mkF m 419 #[.val (.long q0), .second, .val (.long q1), .second, .val (.long q2), .second, .val (.long q3), .second, .val (.int p4), .val (.int p5), .val (.int v1), .val (.int v2), .val (.int v4), .val (.int v6), .val (.int v7), .val (.ref b8), .val (.ref b9), .val (.ref b11), .unset, .unset, .unset, .unset, .unset] [(.ref b11), (.ref b9), (.ref b8)])) _
    refine XS.iconst X193.here hx rfl (hb hby at_419) ?_
    show Steps p.tables e below (T193.setTop (mkF m 420 #[.val (.long q0), .second, .val (.long q1), .second, .val (.long q2), .second, .val (.long q3), .second, .val (.int p4), .val (.int p5), .val (.int v1), .val (.int v2), .val (.int v4), .val (.int v6), .val (.int v7), .val (.ref b8), .val (.ref b9), .val (.ref b11), .unset, .unset, .unset, .unset, .unset] [(.int (5 : Int32)), (.ref b11), (.ref b9), (.ref b8)])) _
    refine XS.iload X193.here hx rfl (hb hby at_420) rfl ?_
    show Steps p.tables e below (T193.setTop (mkF m 422 #[.val (.long q0), .second, .val (.long q1), .second, .val (.long q2), .second, .val (.long q3), .second, .val (.int p4), .val (.int p5), .val (.int v1), .val (.int v2), .val (.int v4), .val (.int v6), .val (.int v7), .val (.ref b8), .val (.ref b9), .val (.ref b11), .unset, .unset, .unset, .unset, .unset] [(.int v1), (.int (5 : Int32)), (.ref b11), (.ref b9), (.ref b8)])) _
    refine XS.lload X193.here hx rfl (hb hby at_422) rfl ?_
    exact kk)
  have Zz195 := (Nat.le_trans Zz190 K193.1)
  have Av196 := (Av191.keep K193 (ninS ne_b8_b9 (ninS ne_b8_b11 nin0)))
  obtain ⟨Lg197, X197, N197⟩ : ∃ L' : List Loc, Stand p l e room_1 s m #[(.long q0), (.long q1), (.long q2), (.long q3), (.int p4), (.int p5)] below meth c T193 L' 3 48 ∧ Fr n0 L' := ⟨_, X193, N193⟩
  (try clear Wu188); (try clear Wi188); (try clear pre189); (try clear Zz190); (try clear Av191); (try clear X192); (try clear N192); (try clear X193); (try clear st193); (try clear N193q); (try clear K193); (try clear Vu193); (try clear Vi193); (try clear N193)
  obtain ⟨_, _, ⟨T198, L198, k198, n198⟩, -, X198, ⟨Lc198, hQ198, l198, y198, z198⟩, st198⟩ := Jvm.LawKit.callS X197 hx (y := (⟨"com/example/copyleaf/copyleaf/page/PageFirstAtLeastPinLaw", "fill", "([J[J[JIIJ)V"⟩ : MethodName)) hown (mvT hZ (hw _ (List.mem_of_getElem? (i := 8) rfl))) (mvT hZ (hw _ (List.mem_of_getElem? (i := 9) rfl))) (mvT hZ (hw _ (List.mem_of_getElem? (i := 5) rfl))) (mvT hZ (hw _ (List.mem_of_getElem? (i := 10) rfl))) (by decide) (backOf (W := 0) (rm2 l Z a0 hw [] b8 b9 b11 (5 : Int32) v1 q2 k8 k9 k11 [(.long v14), (.long v25), (.long v35), (.long v45), (.long v55), (.long v65), (.long v75), (.long v85), (.long v95), (.long v105), (.long v115), (.long v125), (.long v135), (.long v145), (.long v155), (.long v165)] [(.long u_0), (.long u_1), (.long u_2), (.long u_3), (.long u_4), (.long (0 : Int64)), (.long (0 : Int64)), (.long (0 : Int64)), (.long (0 : Int64)), (.long (0 : Int64)), (.long (0 : Int64)), (.long (0 : Int64)), (.long (0 : Int64)), (.long (0 : Int64)), (.long (0 : Int64)), (.long (0 : Int64))] [(.long in_0), (.long in_1), (.long in_2), (.long in_3), (.long in_4), (.long (0 : Int64)), (.long (0 : Int64)), (.long (0 : Int64)), (.long (0 : Int64)), (.long (0 : Int64)), (.long (0 : Int64)), (.long (0 : Int64)), (.long (0 : Int64)), (.long (0 : Int64)), (.long (0 : Int64)), (.long (0 : Int64))] v65 T193.heap n0 Zz195 Av196 Wu193 Wi193 ne_b8_b9 ne_b8_b11 ne_b9_b11 g_b9 g_b11 ⟨by decide, by decide⟩ rfl (Nat.le_of_ble_eq_true rfl) (Nat.le_of_ble_eq_true rfl)) hZ (hw _ (List.mem_of_getElem? (i := 10) rfl)) (hw _ (List.mem_of_getElem? (i := 5) rfl)) (by decide) (by decide)) (g := (mkF m 424 #[.val (.long q0), .second, .val (.long q1), .second, .val (.long q2), .second, .val (.long q3), .second, .val (.int p4), .val (.int p5), .val (.int v1), .val (.int v2), .val (.int v4), .val (.int v6), .val (.int v7), .val (.ref b8), .val (.ref b9), .val (.ref b11), .unset, .unset, .unset, .unset, .unset] [(.long q2), (.int v1), (.int (5 : Int32)), (.ref b11), (.ref b9), (.ref b8)])) rfl (by rw [hml]; rfl) (argsL := [(.ref b8), (.ref b9), (.ref b11), (.int (5 : Int32)), (.int v1), (.long q2)]) (rest := []) (lenOf pd__28_5bJ_5bJ_5bJIIJ_29V rfl) rfl (by show 2 * 0 + _ ≤ _; exact Nat.le_of_eq rfl) (hb hby at_424) (fun _ _ => ⟨rfl, rfl, (by decide : 3 + 0 ≤ _), (by decide : 48 + 0 ≤ _)⟩)
  dsimp only [Pt.U, Pt.locs, Pt.cells, Pt.slots] at X198 l198 y198 z198 st198 hQ198
  subst l198 y198 z198
  obtain ⟨rfl, N198q, K198, Vu198, Vi198⟩ := hQ198
  have N198 := Fr.app N197 N198q
  obtain ⟨u_5, eu_5⟩ : ∃ z : Int64, z = prF v65 v1 := ⟨_, rfl⟩
  rw [← eu_5] at Vu198 Vi198
  obtain ⟨in_5, ein_5⟩ : ∃ z : Int64, z = inF u_5 (5 : Int32) v1 q2 := ⟨_, rfl⟩
  rw [← ein_5] at Vi198
  have Wu198 : Arv Z T198.heap b9 k9 .long (16 : Int32) [(.long u_0), (.long u_1), (.long u_2), (.long u_3), (.long u_4), (.long u_5), (.long (0 : Int64)), (.long (0 : Int64)), (.long (0 : Int64)), (.long (0 : Int64)), (.long (0 : Int64)), (.long (0 : Int64)), (.long (0 : Int64)), (.long (0 : Int64)), (.long (0 : Int64)), (.long (0 : Int64))] (.long (0 : Int64)) := Vu198
  have Wi198 : Arv Z T198.heap b11 k11 .long (16 : Int32) [(.long in_0), (.long in_1), (.long in_2), (.long in_3), (.long in_4), (.long in_5), (.long (0 : Int64)), (.long (0 : Int64)), (.long (0 : Int64)), (.long (0 : Int64)), (.long (0 : Int64)), (.long (0 : Int64)), (.long (0 : Int64)), (.long (0 : Int64)), (.long (0 : Int64)), (.long (0 : Int64))] (.long (0 : Int64)) := Vi198
  have pre199 : ∀ t, Steps p.tables e below (T198.setTop (mkF m 439 #[.val (.long q0), .second, .val (.long q1), .second, .val (.long q2), .second, .val (.long q3), .second, .val (.int p4), .val (.int p5), .val (.int v1), .val (.int v2), .val (.int v4), .val (.int v6), .val (.int v7), .val (.ref b8), .val (.ref b9), .val (.ref b11), .unset, .unset, .unset, .unset, .unset] [(.long q2), (.int v1), (.int (6 : Int32)), (.ref b11), (.ref b9), (.ref b8)])) t → Steps p.tables e below (s₁.setTop (entryFrame m #[(.long q0), (.long q1), (.long q2), (.long q3), (.int p4), (.int p5)] maxLocals)) t := fun t kk => pre194 t (by
    show Steps p.tables e below (T193.setTop (mkF m 424 #[.val (.long q0), .second, .val (.long q1), .second, .val (.long q2), .second, .val (.long q3), .second, .val (.int p4), .val (.int p5), .val (.int v1), .val (.int v2), .val (.int v4), .val (.int v6), .val (.int v7), .val (.ref b8), .val (.ref b9), .val (.ref b11), .unset, .unset, .unset, .unset, .unset] [(.long q2), (.int v1), (.int (5 : Int32)), (.ref b11), (.ref b9), (.ref b8)])) _
    refine st198 _ ?_
    show Steps p.tables e below (T198.setTop (mkF m 427 #[.val (.long q0), .second, .val (.long q1), .second, .val (.long q2), .second, .val (.long q3), .second, .val (.int p4), .val (.int p5), .val (.int v1), .val (.int v2), .val (.int v4), .val (.int v6), .val (.int v7), .val (.ref b8), .val (.ref b9), .val (.ref b11), .unset, .unset, .unset, .unset, .unset] [])) _
    refine XS.aload X198.here hx rfl (hb hby at_427) rfl rfl ?_
    show Steps p.tables e below (T198.setTop (mkF m 429 #[.val (.long q0), .second, .val (.long q1), .second, .val (.long q2), .second, .val (.long q3), .second, .val (.int p4), .val (.int p5), .val (.int v1), .val (.int v2), .val (.int v4), .val (.int v6), .val (.int v7), .val (.ref b8), .val (.ref b9), .val (.ref b11), .unset, .unset, .unset, .unset, .unset] [(.ref b8)])) _
    refine XS.aload X198.here hx rfl (hb hby at_429) rfl rfl ?_
    show Steps p.tables e below (T198.setTop (mkF m 431 #[.val (.long q0), .second, .val (.long q1), .second, .val (.long q2), .second, .val (.long q3), .second, .val (.int p4), .val (.int p5), .val (.int v1), .val (.int v2), .val (.int v4), .val (.int v6), .val (.int v7), .val (.ref b8), .val (.ref b9), .val (.ref b11), .unset, .unset, .unset, .unset, .unset] [(.ref b9), (.ref b8)])) _
    refine XS.aload X198.here hx rfl (hb hby at_431) rfl rfl ?_
    show Steps p.tables e below (T198.setTop (mkF m 433 #[.val (.long q0), .second, .val (.long q1), .second, .val (.long q2), .second, .val (.long q3), .second, .val (.int p4), .val (.int p5), .val (.int v1), .val (.int v2), .val (.int v4), .val (.int v6), .val (.int v7), .val (.ref b8), .val (.ref b9), .val (.ref b11), .unset, .unset, .unset, .unset, .unset] [(.ref b11), (.ref b9), (.ref b8)])) _
    refine XS.bipush X198.here hx rfl (hb hby at_433) ?_
    show Steps p.tables e below (T198.setTop (mkF m 435 #[.val (.long q0), .second, .val (.long q1), .second, .val (.long q2), .second, .val (.long q3), .second, .val (.int p4), .val (.int p5), .val (.int v1), .val (.int v2), .val (.int v4), .val (.int v6), .val (.int v7), .val (.ref b8), .val (.ref b9), .val (.ref b11), .unset, .unset, .unset, .unset, .unset] [(.int (6 : Int32)), (.ref b11), (.ref b9), (.ref b8)])) _
    refine XS.iload X198.here hx rfl (hb hby at_435) rfl ?_
    show Steps p.tables e below (T198.setTop (mkF m 437 #[.val (.long q0), .second, .val (.long q1), .second, .val (.long q2), .second, .val (.long q3), .second, .val (.int p4), .val (.int p5), .val (.int v1), .val (.int v2), .val (.int v4), .val (.int v6), .val (.int v7), .val (.ref b8), .val (.ref b9), .val (.ref b11), .unset, .unset, .unset, .unset, .unset] [(.int v1), (.int (6 : Int32)), (.ref b11), (.ref b9), (.ref b8)])) _
    refine XS.lload X198.here hx rfl (hb hby at_437) rfl ?_
    exact kk)
  have Zz200 := (Nat.le_trans Zz195 K198.1)
  have Av201 := (Av196.keep K198 (ninS ne_b8_b9 (ninS ne_b8_b11 nin0)))
  obtain ⟨Lg202, X202, N202⟩ : ∃ L' : List Loc, Stand p l e room_1 s m #[(.long q0), (.long q1), (.long q2), (.long q3), (.int p4), (.int p5)] below meth c T198 L' 3 48 ∧ Fr n0 L' := ⟨_, X198, N198⟩
  (try clear Wu193); (try clear Wi193); (try clear pre194); (try clear Zz195); (try clear Av196); (try clear X197); (try clear N197); (try clear X198); (try clear st198); (try clear N198q); (try clear K198); (try clear Vu198); (try clear Vi198); (try clear N198)
  obtain ⟨_, _, ⟨T203, L203, k203, n203⟩, -, X203, ⟨Lc203, hQ203, l203, y203, z203⟩, st203⟩ := Jvm.LawKit.callS X202 hx (y := (⟨"com/example/copyleaf/copyleaf/page/PageFirstAtLeastPinLaw", "fill", "([J[J[JIIJ)V"⟩ : MethodName)) hown (mvT hZ (hw _ (List.mem_of_getElem? (i := 8) rfl))) (mvT hZ (hw _ (List.mem_of_getElem? (i := 9) rfl))) (mvT hZ (hw _ (List.mem_of_getElem? (i := 5) rfl))) (mvT hZ (hw _ (List.mem_of_getElem? (i := 10) rfl))) (by decide) (backOf (W := 0) (rm2 l Z a0 hw [] b8 b9 b11 (6 : Int32) v1 q2 k8 k9 k11 [(.long v14), (.long v25), (.long v35), (.long v45), (.long v55), (.long v65), (.long v75), (.long v85), (.long v95), (.long v105), (.long v115), (.long v125), (.long v135), (.long v145), (.long v155), (.long v165)] [(.long u_0), (.long u_1), (.long u_2), (.long u_3), (.long u_4), (.long u_5), (.long (0 : Int64)), (.long (0 : Int64)), (.long (0 : Int64)), (.long (0 : Int64)), (.long (0 : Int64)), (.long (0 : Int64)), (.long (0 : Int64)), (.long (0 : Int64)), (.long (0 : Int64)), (.long (0 : Int64))] [(.long in_0), (.long in_1), (.long in_2), (.long in_3), (.long in_4), (.long in_5), (.long (0 : Int64)), (.long (0 : Int64)), (.long (0 : Int64)), (.long (0 : Int64)), (.long (0 : Int64)), (.long (0 : Int64)), (.long (0 : Int64)), (.long (0 : Int64)), (.long (0 : Int64)), (.long (0 : Int64))] v75 T198.heap n0 Zz200 Av201 Wu198 Wi198 ne_b8_b9 ne_b8_b11 ne_b9_b11 g_b9 g_b11 ⟨by decide, by decide⟩ rfl (Nat.le_of_ble_eq_true rfl) (Nat.le_of_ble_eq_true rfl)) hZ (hw _ (List.mem_of_getElem? (i := 10) rfl)) (hw _ (List.mem_of_getElem? (i := 5) rfl)) (by decide) (by decide)) (g := (mkF m 439 #[.val (.long q0), .second, .val (.long q1), .second, .val (.long q2), .second, .val (.long q3), .second, .val (.int p4), .val (.int p5), .val (.int v1), .val (.int v2), .val (.int v4), .val (.int v6), .val (.int v7), .val (.ref b8), .val (.ref b9), .val (.ref b11), .unset, .unset, .unset, .unset, .unset] [(.long q2), (.int v1), (.int (6 : Int32)), (.ref b11), (.ref b9), (.ref b8)])) rfl (by rw [hml]; rfl) (argsL := [(.ref b8), (.ref b9), (.ref b11), (.int (6 : Int32)), (.int v1), (.long q2)]) (rest := []) (lenOf pd__28_5bJ_5bJ_5bJIIJ_29V rfl) rfl (by show 2 * 0 + _ ≤ _; exact Nat.le_of_eq rfl) (hb hby at_439) (fun _ _ => ⟨rfl, rfl, (by decide : 3 + 0 ≤ _), (by decide : 48 + 0 ≤ _)⟩)
  dsimp only [Pt.U, Pt.locs, Pt.cells, Pt.slots] at X203 l203 y203 z203 st203 hQ203
  subst l203 y203 z203
  obtain ⟨rfl, N203q, K203, Vu203, Vi203⟩ := hQ203
  have N203 := Fr.app N202 N203q
  obtain ⟨u_6, eu_6⟩ : ∃ z : Int64, z = prF v75 v1 := ⟨_, rfl⟩
  rw [← eu_6] at Vu203 Vi203
  obtain ⟨in_6, ein_6⟩ : ∃ z : Int64, z = inF u_6 (6 : Int32) v1 q2 := ⟨_, rfl⟩
  rw [← ein_6] at Vi203
  have Wu203 : Arv Z T203.heap b9 k9 .long (16 : Int32) [(.long u_0), (.long u_1), (.long u_2), (.long u_3), (.long u_4), (.long u_5), (.long u_6), (.long (0 : Int64)), (.long (0 : Int64)), (.long (0 : Int64)), (.long (0 : Int64)), (.long (0 : Int64)), (.long (0 : Int64)), (.long (0 : Int64)), (.long (0 : Int64)), (.long (0 : Int64))] (.long (0 : Int64)) := Vu203
  have Wi203 : Arv Z T203.heap b11 k11 .long (16 : Int32) [(.long in_0), (.long in_1), (.long in_2), (.long in_3), (.long in_4), (.long in_5), (.long in_6), (.long (0 : Int64)), (.long (0 : Int64)), (.long (0 : Int64)), (.long (0 : Int64)), (.long (0 : Int64)), (.long (0 : Int64)), (.long (0 : Int64)), (.long (0 : Int64)), (.long (0 : Int64))] (.long (0 : Int64)) := Vi203
  have pre204 : ∀ t, Steps p.tables e below (T203.setTop (mkF m 454 #[.val (.long q0), .second, .val (.long q1), .second, .val (.long q2), .second, .val (.long q3), .second, .val (.int p4), .val (.int p5), .val (.int v1), .val (.int v2), .val (.int v4), .val (.int v6), .val (.int v7), .val (.ref b8), .val (.ref b9), .val (.ref b11), .unset, .unset, .unset, .unset, .unset] [(.long q2), (.int v1), (.int (7 : Int32)), (.ref b11), (.ref b9), (.ref b8)])) t → Steps p.tables e below (s₁.setTop (entryFrame m #[(.long q0), (.long q1), (.long q2), (.long q3), (.int p4), (.int p5)] maxLocals)) t := fun t kk => pre199 t (by
    show Steps p.tables e below (T198.setTop (mkF m 439 #[.val (.long q0), .second, .val (.long q1), .second, .val (.long q2), .second, .val (.long q3), .second, .val (.int p4), .val (.int p5), .val (.int v1), .val (.int v2), .val (.int v4), .val (.int v6), .val (.int v7), .val (.ref b8), .val (.ref b9), .val (.ref b11), .unset, .unset, .unset, .unset, .unset] [(.long q2), (.int v1), (.int (6 : Int32)), (.ref b11), (.ref b9), (.ref b8)])) _
    refine st203 _ ?_
    show Steps p.tables e below (T203.setTop (mkF m 442 #[.val (.long q0), .second, .val (.long q1), .second, .val (.long q2), .second, .val (.long q3), .second, .val (.int p4), .val (.int p5), .val (.int v1), .val (.int v2), .val (.int v4), .val (.int v6), .val (.int v7), .val (.ref b8), .val (.ref b9), .val (.ref b11), .unset, .unset, .unset, .unset, .unset] [])) _
    refine XS.aload X203.here hx rfl (hb hby at_442) rfl rfl ?_
    show Steps p.tables e below (T203.setTop (mkF m 444 #[.val (.long q0), .second, .val (.long q1), .second, .val (.long q2), .second, .val (.long q3), .second, .val (.int p4), .val (.int p5), .val (.int v1), .val (.int v2), .val (.int v4), .val (.int v6), .val (.int v7), .val (.ref b8), .val (.ref b9), .val (.ref b11), .unset, .unset, .unset, .unset, .unset] [(.ref b8)])) _
    refine XS.aload X203.here hx rfl (hb hby at_444) rfl rfl ?_
    show Steps p.tables e below (T203.setTop (mkF m 446 #[.val (.long q0), .second, .val (.long q1), .second, .val (.long q2), .second, .val (.long q3), .second, .val (.int p4), .val (.int p5), .val (.int v1), .val (.int v2), .val (.int v4), .val (.int v6), .val (.int v7), .val (.ref b8), .val (.ref b9), .val (.ref b11), .unset, .unset, .unset, .unset, .unset] [(.ref b9), (.ref b8)])) _
    refine XS.aload X203.here hx rfl (hb hby at_446) rfl rfl ?_
    show Steps p.tables e below (T203.setTop (mkF m 448 #[.val (.long q0), .second, .val (.long q1), .second, .val (.long q2), .second, .val (.long q3), .second, .val (.int p4), .val (.int p5), .val (.int v1), .val (.int v2), .val (.int v4), .val (.int v6), .val (.int v7), .val (.ref b8), .val (.ref b9), .val (.ref b11), .unset, .unset, .unset, .unset, .unset] [(.ref b11), (.ref b9), (.ref b8)])) _
    refine XS.bipush X203.here hx rfl (hb hby at_448) ?_
    show Steps p.tables e below (T203.setTop (mkF m 450 #[.val (.long q0), .second, .val (.long q1), .second, .val (.long q2), .second, .val (.long q3), .second, .val (.int p4), .val (.int p5), .val (.int v1), .val (.int v2), .val (.int v4), .val (.int v6), .val (.int v7), .val (.ref b8), .val (.ref b9), .val (.ref b11), .unset, .unset, .unset, .unset, .unset] [(.int (7 : Int32)), (.ref b11), (.ref b9), (.ref b8)])) _
    refine XS.iload X203.here hx rfl (hb hby at_450) rfl ?_
    show Steps p.tables e below (T203.setTop (mkF m 452 #[.val (.long q0), .second, .val (.long q1), .second, .val (.long q2), .second, .val (.long q3), .second, .val (.int p4), .val (.int p5), .val (.int v1), .val (.int v2), .val (.int v4), .val (.int v6), .val (.int v7), .val (.ref b8), .val (.ref b9), .val (.ref b11), .unset, .unset, .unset, .unset, .unset] [(.int v1), (.int (7 : Int32)), (.ref b11), (.ref b9), (.ref b8)])) _
    refine XS.lload X203.here hx rfl (hb hby at_452) rfl ?_
    exact kk)
  have Zz205 := (Nat.le_trans Zz200 K203.1)
  have Av206 := (Av201.keep K203 (ninS ne_b8_b9 (ninS ne_b8_b11 nin0)))
  obtain ⟨Lg207, X207, N207⟩ : ∃ L' : List Loc, Stand p l e room_1 s m #[(.long q0), (.long q1), (.long q2), (.long q3), (.int p4), (.int p5)] below meth c T203 L' 3 48 ∧ Fr n0 L' := ⟨_, X203, N203⟩
  (try clear Wu198); (try clear Wi198); (try clear pre199); (try clear Zz200); (try clear Av201); (try clear X202); (try clear N202); (try clear X203); (try clear st203); (try clear N203q); (try clear K203); (try clear Vu203); (try clear Vi203); (try clear N203)
  obtain ⟨_, _, ⟨T208, L208, k208, n208⟩, -, X208, ⟨Lc208, hQ208, l208, y208, z208⟩, st208⟩ := Jvm.LawKit.callS X207 hx (y := (⟨"com/example/copyleaf/copyleaf/page/PageFirstAtLeastPinLaw", "fill", "([J[J[JIIJ)V"⟩ : MethodName)) hown (mvT hZ (hw _ (List.mem_of_getElem? (i := 8) rfl))) (mvT hZ (hw _ (List.mem_of_getElem? (i := 9) rfl))) (mvT hZ (hw _ (List.mem_of_getElem? (i := 5) rfl))) (mvT hZ (hw _ (List.mem_of_getElem? (i := 10) rfl))) (by decide) (backOf (W := 0) (rm2 l Z a0 hw [] b8 b9 b11 (7 : Int32) v1 q2 k8 k9 k11 [(.long v14), (.long v25), (.long v35), (.long v45), (.long v55), (.long v65), (.long v75), (.long v85), (.long v95), (.long v105), (.long v115), (.long v125), (.long v135), (.long v145), (.long v155), (.long v165)] [(.long u_0), (.long u_1), (.long u_2), (.long u_3), (.long u_4), (.long u_5), (.long u_6), (.long (0 : Int64)), (.long (0 : Int64)), (.long (0 : Int64)), (.long (0 : Int64)), (.long (0 : Int64)), (.long (0 : Int64)), (.long (0 : Int64)), (.long (0 : Int64)), (.long (0 : Int64))] [(.long in_0), (.long in_1), (.long in_2), (.long in_3), (.long in_4), (.long in_5), (.long in_6), (.long (0 : Int64)), (.long (0 : Int64)), (.long (0 : Int64)), (.long (0 : Int64)), (.long (0 : Int64)), (.long (0 : Int64)), (.long (0 : Int64)), (.long (0 : Int64)), (.long (0 : Int64))] v85 T203.heap n0 Zz205 Av206 Wu203 Wi203 ne_b8_b9 ne_b8_b11 ne_b9_b11 g_b9 g_b11 ⟨by decide, by decide⟩ rfl (Nat.le_of_ble_eq_true rfl) (Nat.le_of_ble_eq_true rfl)) hZ (hw _ (List.mem_of_getElem? (i := 10) rfl)) (hw _ (List.mem_of_getElem? (i := 5) rfl)) (by decide) (by decide)) (g := (mkF m 454 #[.val (.long q0), .second, .val (.long q1), .second, .val (.long q2), .second, .val (.long q3), .second, .val (.int p4), .val (.int p5), .val (.int v1), .val (.int v2), .val (.int v4), .val (.int v6), .val (.int v7), .val (.ref b8), .val (.ref b9), .val (.ref b11), .unset, .unset, .unset, .unset, .unset] [(.long q2), (.int v1), (.int (7 : Int32)), (.ref b11), (.ref b9), (.ref b8)])) rfl (by rw [hml]; rfl) (argsL := [(.ref b8), (.ref b9), (.ref b11), (.int (7 : Int32)), (.int v1), (.long q2)]) (rest := []) (lenOf pd__28_5bJ_5bJ_5bJIIJ_29V rfl) rfl (by show 2 * 0 + _ ≤ _; exact Nat.le_of_eq rfl) (hb hby at_454) (fun _ _ => ⟨rfl, rfl, (by decide : 3 + 0 ≤ _), (by decide : 48 + 0 ≤ _)⟩)
  dsimp only [Pt.U, Pt.locs, Pt.cells, Pt.slots] at X208 l208 y208 z208 st208 hQ208
  subst l208 y208 z208
  obtain ⟨rfl, N208q, K208, Vu208, Vi208⟩ := hQ208
  have N208 := Fr.app N207 N208q
  obtain ⟨u_7, eu_7⟩ : ∃ z : Int64, z = prF v85 v1 := ⟨_, rfl⟩
  rw [← eu_7] at Vu208 Vi208
  obtain ⟨in_7, ein_7⟩ : ∃ z : Int64, z = inF u_7 (7 : Int32) v1 q2 := ⟨_, rfl⟩
  rw [← ein_7] at Vi208
  have Wu208 : Arv Z T208.heap b9 k9 .long (16 : Int32) [(.long u_0), (.long u_1), (.long u_2), (.long u_3), (.long u_4), (.long u_5), (.long u_6), (.long u_7), (.long (0 : Int64)), (.long (0 : Int64)), (.long (0 : Int64)), (.long (0 : Int64)), (.long (0 : Int64)), (.long (0 : Int64)), (.long (0 : Int64)), (.long (0 : Int64))] (.long (0 : Int64)) := Vu208
  have Wi208 : Arv Z T208.heap b11 k11 .long (16 : Int32) [(.long in_0), (.long in_1), (.long in_2), (.long in_3), (.long in_4), (.long in_5), (.long in_6), (.long in_7), (.long (0 : Int64)), (.long (0 : Int64)), (.long (0 : Int64)), (.long (0 : Int64)), (.long (0 : Int64)), (.long (0 : Int64)), (.long (0 : Int64)), (.long (0 : Int64))] (.long (0 : Int64)) := Vi208
  have pre209 : ∀ t, Steps p.tables e below (T208.setTop (mkF m 469 #[.val (.long q0), .second, .val (.long q1), .second, .val (.long q2), .second, .val (.long q3), .second, .val (.int p4), .val (.int p5), .val (.int v1), .val (.int v2), .val (.int v4), .val (.int v6), .val (.int v7), .val (.ref b8), .val (.ref b9), .val (.ref b11), .unset, .unset, .unset, .unset, .unset] [(.long q2), (.int v1), (.int (8 : Int32)), (.ref b11), (.ref b9), (.ref b8)])) t → Steps p.tables e below (s₁.setTop (entryFrame m #[(.long q0), (.long q1), (.long q2), (.long q3), (.int p4), (.int p5)] maxLocals)) t := fun t kk => pre204 t (by
    show Steps p.tables e below (T203.setTop (mkF m 454 #[.val (.long q0), .second, .val (.long q1), .second, .val (.long q2), .second, .val (.long q3), .second, .val (.int p4), .val (.int p5), .val (.int v1), .val (.int v2), .val (.int v4), .val (.int v6), .val (.int v7), .val (.ref b8), .val (.ref b9), .val (.ref b11), .unset, .unset, .unset, .unset, .unset] [(.long q2), (.int v1), (.int (7 : Int32)), (.ref b11), (.ref b9), (.ref b8)])) _
    refine st208 _ ?_
    show Steps p.tables e below (T208.setTop (mkF m 457 #[.val (.long q0), .second, .val (.long q1), .second, .val (.long q2), .second, .val (.long q3), .second, .val (.int p4), .val (.int p5), .val (.int v1), .val (.int v2), .val (.int v4), .val (.int v6), .val (.int v7), .val (.ref b8), .val (.ref b9), .val (.ref b11), .unset, .unset, .unset, .unset, .unset] [])) _
    refine XS.aload X208.here hx rfl (hb hby at_457) rfl rfl ?_
    show Steps p.tables e below (T208.setTop (mkF m 459 #[.val (.long q0), .second, .val (.long q1), .second, .val (.long q2), .second, .val (.long q3), .second, .val (.int p4), .val (.int p5), .val (.int v1), .val (.int v2), .val (.int v4), .val (.int v6), .val (.int v7), .val (.ref b8), .val (.ref b9), .val (.ref b11), .unset, .unset, .unset, .unset, .unset] [(.ref b8)])) _
    refine XS.aload X208.here hx rfl (hb hby at_459) rfl rfl ?_
    show Steps p.tables e below (T208.setTop (mkF m 461 #[.val (.long q0), .second, .val (.long q1), .second, .val (.long q2), .second, .val (.long q3), .second, .val (.int p4), .val (.int p5), .val (.int v1), .val (.int v2), .val (.int v4), .val (.int v6), .val (.int v7), .val (.ref b8), .val (.ref b9), .val (.ref b11), .unset, .unset, .unset, .unset, .unset] [(.ref b9), (.ref b8)])) _
    refine XS.aload X208.here hx rfl (hb hby at_461) rfl rfl ?_
    show Steps p.tables e below (T208.setTop (mkF m 463 #[.val (.long q0), .second, .val (.long q1), .second, .val (.long q2), .second, .val (.long q3), .second, .val (.int p4), .val (.int p5), .val (.int v1), .val (.int v2), .val (.int v4), .val (.int v6), .val (.int v7), .val (.ref b8), .val (.ref b9), .val (.ref b11), .unset, .unset, .unset, .unset, .unset] [(.ref b11), (.ref b9), (.ref b8)])) _
    refine XS.bipush X208.here hx rfl (hb hby at_463) ?_
    show Steps p.tables e below (T208.setTop (mkF m 465 #[.val (.long q0), .second, .val (.long q1), .second, .val (.long q2), .second, .val (.long q3), .second, .val (.int p4), .val (.int p5), .val (.int v1), .val (.int v2), .val (.int v4), .val (.int v6), .val (.int v7), .val (.ref b8), .val (.ref b9), .val (.ref b11), .unset, .unset, .unset, .unset, .unset] [(.int (8 : Int32)), (.ref b11), (.ref b9), (.ref b8)])) _
    refine XS.iload X208.here hx rfl (hb hby at_465) rfl ?_
    show Steps p.tables e below (T208.setTop (mkF m 467 #[.val (.long q0), .second, .val (.long q1), .second, .val (.long q2), .second, .val (.long q3), .second, .val (.int p4), .val (.int p5), .val (.int v1), .val (.int v2), .val (.int v4), .val (.int v6), .val (.int v7), .val (.ref b8), .val (.ref b9), .val (.ref b11), .unset, .unset, .unset, .unset, .unset] [(.int v1), (.int (8 : Int32)), (.ref b11), (.ref b9), (.ref b8)])) _
    refine XS.lload X208.here hx rfl (hb hby at_467) rfl ?_
    exact kk)
  have Zz210 := (Nat.le_trans Zz205 K208.1)
  have Av211 := (Av206.keep K208 (ninS ne_b8_b9 (ninS ne_b8_b11 nin0)))
  obtain ⟨Lg212, X212, N212⟩ : ∃ L' : List Loc, Stand p l e room_1 s m #[(.long q0), (.long q1), (.long q2), (.long q3), (.int p4), (.int p5)] below meth c T208 L' 3 48 ∧ Fr n0 L' := ⟨_, X208, N208⟩
  (try clear Wu203); (try clear Wi203); (try clear pre204); (try clear Zz205); (try clear Av206); (try clear X207); (try clear N207); (try clear X208); (try clear st208); (try clear N208q); (try clear K208); (try clear Vu208); (try clear Vi208); (try clear N208)
  obtain ⟨_, _, ⟨T213, L213, k213, n213⟩, -, X213, ⟨Lc213, hQ213, l213, y213, z213⟩, st213⟩ := Jvm.LawKit.callS X212 hx (y := (⟨"com/example/copyleaf/copyleaf/page/PageFirstAtLeastPinLaw", "fill", "([J[J[JIIJ)V"⟩ : MethodName)) hown (mvT hZ (hw _ (List.mem_of_getElem? (i := 8) rfl))) (mvT hZ (hw _ (List.mem_of_getElem? (i := 9) rfl))) (mvT hZ (hw _ (List.mem_of_getElem? (i := 5) rfl))) (mvT hZ (hw _ (List.mem_of_getElem? (i := 10) rfl))) (by decide) (backOf (W := 0) (rm2 l Z a0 hw [] b8 b9 b11 (8 : Int32) v1 q2 k8 k9 k11 [(.long v14), (.long v25), (.long v35), (.long v45), (.long v55), (.long v65), (.long v75), (.long v85), (.long v95), (.long v105), (.long v115), (.long v125), (.long v135), (.long v145), (.long v155), (.long v165)] [(.long u_0), (.long u_1), (.long u_2), (.long u_3), (.long u_4), (.long u_5), (.long u_6), (.long u_7), (.long (0 : Int64)), (.long (0 : Int64)), (.long (0 : Int64)), (.long (0 : Int64)), (.long (0 : Int64)), (.long (0 : Int64)), (.long (0 : Int64)), (.long (0 : Int64))] [(.long in_0), (.long in_1), (.long in_2), (.long in_3), (.long in_4), (.long in_5), (.long in_6), (.long in_7), (.long (0 : Int64)), (.long (0 : Int64)), (.long (0 : Int64)), (.long (0 : Int64)), (.long (0 : Int64)), (.long (0 : Int64)), (.long (0 : Int64)), (.long (0 : Int64))] v95 T208.heap n0 Zz210 Av211 Wu208 Wi208 ne_b8_b9 ne_b8_b11 ne_b9_b11 g_b9 g_b11 ⟨by decide, by decide⟩ rfl (Nat.le_of_ble_eq_true rfl) (Nat.le_of_ble_eq_true rfl)) hZ (hw _ (List.mem_of_getElem? (i := 10) rfl)) (hw _ (List.mem_of_getElem? (i := 5) rfl)) (by decide) (by decide)) (g := (mkF m 469 #[.val (.long q0), .second, .val (.long q1), .second, .val (.long q2), .second, .val (.long q3), .second, .val (.int p4), .val (.int p5), .val (.int v1), .val (.int v2), .val (.int v4), .val (.int v6), .val (.int v7), .val (.ref b8), .val (.ref b9), .val (.ref b11), .unset, .unset, .unset, .unset, .unset] [(.long q2), (.int v1), (.int (8 : Int32)), (.ref b11), (.ref b9), (.ref b8)])) rfl (by rw [hml]; rfl) (argsL := [(.ref b8), (.ref b9), (.ref b11), (.int (8 : Int32)), (.int v1), (.long q2)]) (rest := []) (lenOf pd__28_5bJ_5bJ_5bJIIJ_29V rfl) rfl (by show 2 * 0 + _ ≤ _; exact Nat.le_of_eq rfl) (hb hby at_469) (fun _ _ => ⟨rfl, rfl, (by decide : 3 + 0 ≤ _), (by decide : 48 + 0 ≤ _)⟩)
  dsimp only [Pt.U, Pt.locs, Pt.cells, Pt.slots] at X213 l213 y213 z213 st213 hQ213
  subst l213 y213 z213
  obtain ⟨rfl, N213q, K213, Vu213, Vi213⟩ := hQ213
  have N213 := Fr.app N212 N213q
  obtain ⟨u_8, eu_8⟩ : ∃ z : Int64, z = prF v95 v1 := ⟨_, rfl⟩
  rw [← eu_8] at Vu213 Vi213
  obtain ⟨in_8, ein_8⟩ : ∃ z : Int64, z = inF u_8 (8 : Int32) v1 q2 := ⟨_, rfl⟩
  rw [← ein_8] at Vi213
  have Wu213 : Arv Z T213.heap b9 k9 .long (16 : Int32) [(.long u_0), (.long u_1), (.long u_2), (.long u_3), (.long u_4), (.long u_5), (.long u_6), (.long u_7), (.long u_8), (.long (0 : Int64)), (.long (0 : Int64)), (.long (0 : Int64)), (.long (0 : Int64)), (.long (0 : Int64)), (.long (0 : Int64)), (.long (0 : Int64))] (.long (0 : Int64)) := Vu213
  have Wi213 : Arv Z T213.heap b11 k11 .long (16 : Int32) [(.long in_0), (.long in_1), (.long in_2), (.long in_3), (.long in_4), (.long in_5), (.long in_6), (.long in_7), (.long in_8), (.long (0 : Int64)), (.long (0 : Int64)), (.long (0 : Int64)), (.long (0 : Int64)), (.long (0 : Int64)), (.long (0 : Int64)), (.long (0 : Int64))] (.long (0 : Int64)) := Vi213
  have pre214 : ∀ t, Steps p.tables e below (T213.setTop (mkF m 484 #[.val (.long q0), .second, .val (.long q1), .second, .val (.long q2), .second, .val (.long q3), .second, .val (.int p4), .val (.int p5), .val (.int v1), .val (.int v2), .val (.int v4), .val (.int v6), .val (.int v7), .val (.ref b8), .val (.ref b9), .val (.ref b11), .unset, .unset, .unset, .unset, .unset] [(.long q2), (.int v1), (.int (9 : Int32)), (.ref b11), (.ref b9), (.ref b8)])) t → Steps p.tables e below (s₁.setTop (entryFrame m #[(.long q0), (.long q1), (.long q2), (.long q3), (.int p4), (.int p5)] maxLocals)) t := fun t kk => pre209 t (by
    show Steps p.tables e below (T208.setTop (mkF m 469 #[.val (.long q0), .second, .val (.long q1), .second, .val (.long q2), .second, .val (.long q3), .second, .val (.int p4), .val (.int p5), .val (.int v1), .val (.int v2), .val (.int v4), .val (.int v6), .val (.int v7), .val (.ref b8), .val (.ref b9), .val (.ref b11), .unset, .unset, .unset, .unset, .unset] [(.long q2), (.int v1), (.int (8 : Int32)), (.ref b11), (.ref b9), (.ref b8)])) _
    refine st213 _ ?_
    show Steps p.tables e below (T213.setTop (mkF m 472 #[.val (.long q0), .second, .val (.long q1), .second, .val (.long q2), .second, .val (.long q3), .second, .val (.int p4), .val (.int p5), .val (.int v1), .val (.int v2), .val (.int v4), .val (.int v6), .val (.int v7), .val (.ref b8), .val (.ref b9), .val (.ref b11), .unset, .unset, .unset, .unset, .unset] [])) _
    refine XS.aload X213.here hx rfl (hb hby at_472) rfl rfl ?_
    show Steps p.tables e below (T213.setTop (mkF m 474 #[.val (.long q0), .second, .val (.long q1), .second, .val (.long q2), .second, .val (.long q3), .second, .val (.int p4), .val (.int p5), .val (.int v1), .val (.int v2), .val (.int v4), .val (.int v6), .val (.int v7), .val (.ref b8), .val (.ref b9), .val (.ref b11), .unset, .unset, .unset, .unset, .unset] [(.ref b8)])) _
    refine XS.aload X213.here hx rfl (hb hby at_474) rfl rfl ?_
    show Steps p.tables e below (T213.setTop (mkF m 476 #[.val (.long q0), .second, .val (.long q1), .second, .val (.long q2), .second, .val (.long q3), .second, .val (.int p4), .val (.int p5), .val (.int v1), .val (.int v2), .val (.int v4), .val (.int v6), .val (.int v7), .val (.ref b8), .val (.ref b9), .val (.ref b11), .unset, .unset, .unset, .unset, .unset] [(.ref b9), (.ref b8)])) _
    refine XS.aload X213.here hx rfl (hb hby at_476) rfl rfl ?_
    show Steps p.tables e below (T213.setTop (mkF m 478 #[.val (.long q0), .second, .val (.long q1), .second, .val (.long q2), .second, .val (.long q3), .second, .val (.int p4), .val (.int p5), .val (.int v1), .val (.int v2), .val (.int v4), .val (.int v6), .val (.int v7), .val (.ref b8), .val (.ref b9), .val (.ref b11), .unset, .unset, .unset, .unset, .unset] [(.ref b11), (.ref b9), (.ref b8)])) _
    refine XS.bipush X213.here hx rfl (hb hby at_478) ?_
    show Steps p.tables e below (T213.setTop (mkF m 480 #[.val (.long q0), .second, .val (.long q1), .second, .val (.long q2), .second, .val (.long q3), .second, .val (.int p4), .val (.int p5), .val (.int v1), .val (.int v2), .val (.int v4), .val (.int v6), .val (.int v7), .val (.ref b8), .val (.ref b9), .val (.ref b11), .unset, .unset, .unset, .unset, .unset] [(.int (9 : Int32)), (.ref b11), (.ref b9), (.ref b8)])) _
    refine XS.iload X213.here hx rfl (hb hby at_480) rfl ?_
    show Steps p.tables e below (T213.setTop (mkF m 482 #[.val (.long q0), .second, .val (.long q1), .second, .val (.long q2), .second, .val (.long q3), .second, .val (.int p4), .val (.int p5), .val (.int v1), .val (.int v2), .val (.int v4), .val (.int v6), .val (.int v7), .val (.ref b8), .val (.ref b9), .val (.ref b11), .unset, .unset, .unset, .unset, .unset] [(.int v1), (.int (9 : Int32)), (.ref b11), (.ref b9), (.ref b8)])) _
    refine XS.lload X213.here hx rfl (hb hby at_482) rfl ?_
    exact kk)
  have Zz215 := (Nat.le_trans Zz210 K213.1)
  have Av216 := (Av211.keep K213 (ninS ne_b8_b9 (ninS ne_b8_b11 nin0)))
  obtain ⟨Lg217, X217, N217⟩ : ∃ L' : List Loc, Stand p l e room_1 s m #[(.long q0), (.long q1), (.long q2), (.long q3), (.int p4), (.int p5)] below meth c T213 L' 3 48 ∧ Fr n0 L' := ⟨_, X213, N213⟩
  (try clear Wu208); (try clear Wi208); (try clear pre209); (try clear Zz210); (try clear Av211); (try clear X212); (try clear N212); (try clear X213); (try clear st213); (try clear N213q); (try clear K213); (try clear Vu213); (try clear Vi213); (try clear N213)
  obtain ⟨_, _, ⟨T218, L218, k218, n218⟩, -, X218, ⟨Lc218, hQ218, l218, y218, z218⟩, st218⟩ := Jvm.LawKit.callS X217 hx (y := (⟨"com/example/copyleaf/copyleaf/page/PageFirstAtLeastPinLaw", "fill", "([J[J[JIIJ)V"⟩ : MethodName)) hown (mvT hZ (hw _ (List.mem_of_getElem? (i := 8) rfl))) (mvT hZ (hw _ (List.mem_of_getElem? (i := 9) rfl))) (mvT hZ (hw _ (List.mem_of_getElem? (i := 5) rfl))) (mvT hZ (hw _ (List.mem_of_getElem? (i := 10) rfl))) (by decide) (backOf (W := 0) (rm2 l Z a0 hw [] b8 b9 b11 (9 : Int32) v1 q2 k8 k9 k11 [(.long v14), (.long v25), (.long v35), (.long v45), (.long v55), (.long v65), (.long v75), (.long v85), (.long v95), (.long v105), (.long v115), (.long v125), (.long v135), (.long v145), (.long v155), (.long v165)] [(.long u_0), (.long u_1), (.long u_2), (.long u_3), (.long u_4), (.long u_5), (.long u_6), (.long u_7), (.long u_8), (.long (0 : Int64)), (.long (0 : Int64)), (.long (0 : Int64)), (.long (0 : Int64)), (.long (0 : Int64)), (.long (0 : Int64)), (.long (0 : Int64))] [(.long in_0), (.long in_1), (.long in_2), (.long in_3), (.long in_4), (.long in_5), (.long in_6), (.long in_7), (.long in_8), (.long (0 : Int64)), (.long (0 : Int64)), (.long (0 : Int64)), (.long (0 : Int64)), (.long (0 : Int64)), (.long (0 : Int64)), (.long (0 : Int64))] v105 T213.heap n0 Zz215 Av216 Wu213 Wi213 ne_b8_b9 ne_b8_b11 ne_b9_b11 g_b9 g_b11 ⟨by decide, by decide⟩ rfl (Nat.le_of_ble_eq_true rfl) (Nat.le_of_ble_eq_true rfl)) hZ (hw _ (List.mem_of_getElem? (i := 10) rfl)) (hw _ (List.mem_of_getElem? (i := 5) rfl)) (by decide) (by decide)) (g := (mkF m 484 #[.val (.long q0), .second, .val (.long q1), .second, .val (.long q2), .second, .val (.long q3), .second, .val (.int p4), .val (.int p5), .val (.int v1), .val (.int v2), .val (.int v4), .val (.int v6), .val (.int v7), .val (.ref b8), .val (.ref b9), .val (.ref b11), .unset, .unset, .unset, .unset, .unset] [(.long q2), (.int v1), (.int (9 : Int32)), (.ref b11), (.ref b9), (.ref b8)])) rfl (by rw [hml]; rfl) (argsL := [(.ref b8), (.ref b9), (.ref b11), (.int (9 : Int32)), (.int v1), (.long q2)]) (rest := []) (lenOf pd__28_5bJ_5bJ_5bJIIJ_29V rfl) rfl (by show 2 * 0 + _ ≤ _; exact Nat.le_of_eq rfl) (hb hby at_484) (fun _ _ => ⟨rfl, rfl, (by decide : 3 + 0 ≤ _), (by decide : 48 + 0 ≤ _)⟩)
  dsimp only [Pt.U, Pt.locs, Pt.cells, Pt.slots] at X218 l218 y218 z218 st218 hQ218
  subst l218 y218 z218
  obtain ⟨rfl, N218q, K218, Vu218, Vi218⟩ := hQ218
  have N218 := Fr.app N217 N218q
  obtain ⟨u_9, eu_9⟩ : ∃ z : Int64, z = prF v105 v1 := ⟨_, rfl⟩
  rw [← eu_9] at Vu218 Vi218
  obtain ⟨in_9, ein_9⟩ : ∃ z : Int64, z = inF u_9 (9 : Int32) v1 q2 := ⟨_, rfl⟩
  rw [← ein_9] at Vi218
  have Wu218 : Arv Z T218.heap b9 k9 .long (16 : Int32) [(.long u_0), (.long u_1), (.long u_2), (.long u_3), (.long u_4), (.long u_5), (.long u_6), (.long u_7), (.long u_8), (.long u_9), (.long (0 : Int64)), (.long (0 : Int64)), (.long (0 : Int64)), (.long (0 : Int64)), (.long (0 : Int64)), (.long (0 : Int64))] (.long (0 : Int64)) := Vu218
  have Wi218 : Arv Z T218.heap b11 k11 .long (16 : Int32) [(.long in_0), (.long in_1), (.long in_2), (.long in_3), (.long in_4), (.long in_5), (.long in_6), (.long in_7), (.long in_8), (.long in_9), (.long (0 : Int64)), (.long (0 : Int64)), (.long (0 : Int64)), (.long (0 : Int64)), (.long (0 : Int64)), (.long (0 : Int64))] (.long (0 : Int64)) := Vi218
  have pre219 : ∀ t, Steps p.tables e below (T218.setTop (mkF m 499 #[.val (.long q0), .second, .val (.long q1), .second, .val (.long q2), .second, .val (.long q3), .second, .val (.int p4), .val (.int p5), .val (.int v1), .val (.int v2), .val (.int v4), .val (.int v6), .val (.int v7), .val (.ref b8), .val (.ref b9), .val (.ref b11), .unset, .unset, .unset, .unset, .unset] [(.long q2), (.int v1), (.int (10 : Int32)), (.ref b11), (.ref b9), (.ref b8)])) t → Steps p.tables e below (s₁.setTop (entryFrame m #[(.long q0), (.long q1), (.long q2), (.long q3), (.int p4), (.int p5)] maxLocals)) t := fun t kk => pre214 t (by
    show Steps p.tables e below (T213.setTop (mkF m 484 #[.val (.long q0), .second, .val (.long q1), .second, .val (.long q2), .second, .val (.long q3), .second, .val (.int p4), .val (.int p5), .val (.int v1), .val (.int v2), .val (.int v4), .val (.int v6), .val (.int v7), .val (.ref b8), .val (.ref b9), .val (.ref b11), .unset, .unset, .unset, .unset, .unset] [(.long q2), (.int v1), (.int (9 : Int32)), (.ref b11), (.ref b9), (.ref b8)])) _
    refine st218 _ ?_
    show Steps p.tables e below (T218.setTop (mkF m 487 #[.val (.long q0), .second, .val (.long q1), .second, .val (.long q2), .second, .val (.long q3), .second, .val (.int p4), .val (.int p5), .val (.int v1), .val (.int v2), .val (.int v4), .val (.int v6), .val (.int v7), .val (.ref b8), .val (.ref b9), .val (.ref b11), .unset, .unset, .unset, .unset, .unset] [])) _
    refine XS.aload X218.here hx rfl (hb hby at_487) rfl rfl ?_
    show Steps p.tables e below (T218.setTop (mkF m 489 #[.val (.long q0), .second, .val (.long q1), .second, .val (.long q2), .second, .val (.long q3), .second, .val (.int p4), .val (.int p5), .val (.int v1), .val (.int v2), .val (.int v4), .val (.int v6), .val (.int v7), .val (.ref b8), .val (.ref b9), .val (.ref b11), .unset, .unset, .unset, .unset, .unset] [(.ref b8)])) _
    refine XS.aload X218.here hx rfl (hb hby at_489) rfl rfl ?_
    show Steps p.tables e below (T218.setTop (mkF m 491 #[.val (.long q0), .second, .val (.long q1), .second, .val (.long q2), .second, .val (.long q3), .second, .val (.int p4), .val (.int p5), .val (.int v1), .val (.int v2), .val (.int v4), .val (.int v6), .val (.int v7), .val (.ref b8), .val (.ref b9), .val (.ref b11), .unset, .unset, .unset, .unset, .unset] [(.ref b9), (.ref b8)])) _
    refine XS.aload X218.here hx rfl (hb hby at_491) rfl rfl ?_
    show Steps p.tables e below (T218.setTop (mkF m 493 #[.val (.long q0), .second, .val (.long q1), .second, .val (.long q2), .second, .val (.long q3), .second, .val (.int p4), .val (.int p5), .val (.int v1), .val (.int v2), .val (.int v4), .val (.int v6), .val (.int v7), .val (.ref b8), .val (.ref b9), .val (.ref b11), .unset, .unset, .unset, .unset, .unset] [(.ref b11), (.ref b9), (.ref b8)])) _
    refine XS.bipush X218.here hx rfl (hb hby at_493) ?_
    show Steps p.tables e below (T218.setTop (mkF m 495 #[.val (.long q0), .second, .val (.long q1), .second, .val (.long q2), .second, .val (.long q3), .second, .val (.int p4), .val (.int p5), .val (.int v1), .val (.int v2), .val (.int v4), .val (.int v6), .val (.int v7), .val (.ref b8), .val (.ref b9), .val (.ref b11), .unset, .unset, .unset, .unset, .unset] [(.int (10 : Int32)), (.ref b11), (.ref b9), (.ref b8)])) _
    refine XS.iload X218.here hx rfl (hb hby at_495) rfl ?_
    show Steps p.tables e below (T218.setTop (mkF m 497 #[.val (.long q0), .second, .val (.long q1), .second, .val (.long q2), .second, .val (.long q3), .second, .val (.int p4), .val (.int p5), .val (.int v1), .val (.int v2), .val (.int v4), .val (.int v6), .val (.int v7), .val (.ref b8), .val (.ref b9), .val (.ref b11), .unset, .unset, .unset, .unset, .unset] [(.int v1), (.int (10 : Int32)), (.ref b11), (.ref b9), (.ref b8)])) _
    refine XS.lload X218.here hx rfl (hb hby at_497) rfl ?_
    exact kk)
  have Zz220 := (Nat.le_trans Zz215 K218.1)
  have Av221 := (Av216.keep K218 (ninS ne_b8_b9 (ninS ne_b8_b11 nin0)))
  obtain ⟨Lg222, X222, N222⟩ : ∃ L' : List Loc, Stand p l e room_1 s m #[(.long q0), (.long q1), (.long q2), (.long q3), (.int p4), (.int p5)] below meth c T218 L' 3 48 ∧ Fr n0 L' := ⟨_, X218, N218⟩
  (try clear Wu213); (try clear Wi213); (try clear pre214); (try clear Zz215); (try clear Av216); (try clear X217); (try clear N217); (try clear X218); (try clear st218); (try clear N218q); (try clear K218); (try clear Vu218); (try clear Vi218); (try clear N218)
  obtain ⟨_, _, ⟨T223, L223, k223, n223⟩, -, X223, ⟨Lc223, hQ223, l223, y223, z223⟩, st223⟩ := Jvm.LawKit.callS X222 hx (y := (⟨"com/example/copyleaf/copyleaf/page/PageFirstAtLeastPinLaw", "fill", "([J[J[JIIJ)V"⟩ : MethodName)) hown (mvT hZ (hw _ (List.mem_of_getElem? (i := 8) rfl))) (mvT hZ (hw _ (List.mem_of_getElem? (i := 9) rfl))) (mvT hZ (hw _ (List.mem_of_getElem? (i := 5) rfl))) (mvT hZ (hw _ (List.mem_of_getElem? (i := 10) rfl))) (by decide) (backOf (W := 0) (rm2 l Z a0 hw [] b8 b9 b11 (10 : Int32) v1 q2 k8 k9 k11 [(.long v14), (.long v25), (.long v35), (.long v45), (.long v55), (.long v65), (.long v75), (.long v85), (.long v95), (.long v105), (.long v115), (.long v125), (.long v135), (.long v145), (.long v155), (.long v165)] [(.long u_0), (.long u_1), (.long u_2), (.long u_3), (.long u_4), (.long u_5), (.long u_6), (.long u_7), (.long u_8), (.long u_9), (.long (0 : Int64)), (.long (0 : Int64)), (.long (0 : Int64)), (.long (0 : Int64)), (.long (0 : Int64)), (.long (0 : Int64))] [(.long in_0), (.long in_1), (.long in_2), (.long in_3), (.long in_4), (.long in_5), (.long in_6), (.long in_7), (.long in_8), (.long in_9), (.long (0 : Int64)), (.long (0 : Int64)), (.long (0 : Int64)), (.long (0 : Int64)), (.long (0 : Int64)), (.long (0 : Int64))] v115 T218.heap n0 Zz220 Av221 Wu218 Wi218 ne_b8_b9 ne_b8_b11 ne_b9_b11 g_b9 g_b11 ⟨by decide, by decide⟩ rfl (Nat.le_of_ble_eq_true rfl) (Nat.le_of_ble_eq_true rfl)) hZ (hw _ (List.mem_of_getElem? (i := 10) rfl)) (hw _ (List.mem_of_getElem? (i := 5) rfl)) (by decide) (by decide)) (g := (mkF m 499 #[.val (.long q0), .second, .val (.long q1), .second, .val (.long q2), .second, .val (.long q3), .second, .val (.int p4), .val (.int p5), .val (.int v1), .val (.int v2), .val (.int v4), .val (.int v6), .val (.int v7), .val (.ref b8), .val (.ref b9), .val (.ref b11), .unset, .unset, .unset, .unset, .unset] [(.long q2), (.int v1), (.int (10 : Int32)), (.ref b11), (.ref b9), (.ref b8)])) rfl (by rw [hml]; rfl) (argsL := [(.ref b8), (.ref b9), (.ref b11), (.int (10 : Int32)), (.int v1), (.long q2)]) (rest := []) (lenOf pd__28_5bJ_5bJ_5bJIIJ_29V rfl) rfl (by show 2 * 0 + _ ≤ _; exact Nat.le_of_eq rfl) (hb hby at_499) (fun _ _ => ⟨rfl, rfl, (by decide : 3 + 0 ≤ _), (by decide : 48 + 0 ≤ _)⟩)
  dsimp only [Pt.U, Pt.locs, Pt.cells, Pt.slots] at X223 l223 y223 z223 st223 hQ223
  subst l223 y223 z223
  obtain ⟨rfl, N223q, K223, Vu223, Vi223⟩ := hQ223
  have N223 := Fr.app N222 N223q
  obtain ⟨u_10, eu_10⟩ : ∃ z : Int64, z = prF v115 v1 := ⟨_, rfl⟩
  rw [← eu_10] at Vu223 Vi223
  obtain ⟨in_10, ein_10⟩ : ∃ z : Int64, z = inF u_10 (10 : Int32) v1 q2 := ⟨_, rfl⟩
  rw [← ein_10] at Vi223
  have Wu223 : Arv Z T223.heap b9 k9 .long (16 : Int32) [(.long u_0), (.long u_1), (.long u_2), (.long u_3), (.long u_4), (.long u_5), (.long u_6), (.long u_7), (.long u_8), (.long u_9), (.long u_10), (.long (0 : Int64)), (.long (0 : Int64)), (.long (0 : Int64)), (.long (0 : Int64)), (.long (0 : Int64))] (.long (0 : Int64)) := Vu223
  have Wi223 : Arv Z T223.heap b11 k11 .long (16 : Int32) [(.long in_0), (.long in_1), (.long in_2), (.long in_3), (.long in_4), (.long in_5), (.long in_6), (.long in_7), (.long in_8), (.long in_9), (.long in_10), (.long (0 : Int64)), (.long (0 : Int64)), (.long (0 : Int64)), (.long (0 : Int64)), (.long (0 : Int64))] (.long (0 : Int64)) := Vi223
  have pre224 : ∀ t, Steps p.tables e below (T223.setTop (mkF m 514 #[.val (.long q0), .second, .val (.long q1), .second, .val (.long q2), .second, .val (.long q3), .second, .val (.int p4), .val (.int p5), .val (.int v1), .val (.int v2), .val (.int v4), .val (.int v6), .val (.int v7), .val (.ref b8), .val (.ref b9), .val (.ref b11), .unset, .unset, .unset, .unset, .unset] [(.long q2), (.int v1), (.int (11 : Int32)), (.ref b11), (.ref b9), (.ref b8)])) t → Steps p.tables e below (s₁.setTop (entryFrame m #[(.long q0), (.long q1), (.long q2), (.long q3), (.int p4), (.int p5)] maxLocals)) t := fun t kk => pre219 t (by
    show Steps p.tables e below (T218.setTop (mkF m 499 #[.val (.long q0), .second, .val (.long q1), .second, .val (.long q2), .second, .val (.long q3), .second, .val (.int p4), .val (.int p5), .val (.int v1), .val (.int v2), .val (.int v4), .val (.int v6), .val (.int v7), .val (.ref b8), .val (.ref b9), .val (.ref b11), .unset, .unset, .unset, .unset, .unset] [(.long q2), (.int v1), (.int (10 : Int32)), (.ref b11), (.ref b9), (.ref b8)])) _
    refine st223 _ ?_
    show Steps p.tables e below (T223.setTop (mkF m 502 #[.val (.long q0), .second, .val (.long q1), .second, .val (.long q2), .second, .val (.long q3), .second, .val (.int p4), .val (.int p5), .val (.int v1), .val (.int v2), .val (.int v4), .val (.int v6), .val (.int v7), .val (.ref b8), .val (.ref b9), .val (.ref b11), .unset, .unset, .unset, .unset, .unset] [])) _
    refine XS.aload X223.here hx rfl (hb hby at_502) rfl rfl ?_
    show Steps p.tables e below (T223.setTop (mkF m 504 #[.val (.long q0), .second, .val (.long q1), .second, .val (.long q2), .second, .val (.long q3), .second, .val (.int p4), .val (.int p5), .val (.int v1), .val (.int v2), .val (.int v4), .val (.int v6), .val (.int v7), .val (.ref b8), .val (.ref b9), .val (.ref b11), .unset, .unset, .unset, .unset, .unset] [(.ref b8)])) _
    refine XS.aload X223.here hx rfl (hb hby at_504) rfl rfl ?_
    show Steps p.tables e below (T223.setTop (mkF m 506 #[.val (.long q0), .second, .val (.long q1), .second, .val (.long q2), .second, .val (.long q3), .second, .val (.int p4), .val (.int p5), .val (.int v1), .val (.int v2), .val (.int v4), .val (.int v6), .val (.int v7), .val (.ref b8), .val (.ref b9), .val (.ref b11), .unset, .unset, .unset, .unset, .unset] [(.ref b9), (.ref b8)])) _
    refine XS.aload X223.here hx rfl (hb hby at_506) rfl rfl ?_
    show Steps p.tables e below (T223.setTop (mkF m 508 #[.val (.long q0), .second, .val (.long q1), .second, .val (.long q2), .second, .val (.long q3), .second, .val (.int p4), .val (.int p5), .val (.int v1), .val (.int v2), .val (.int v4), .val (.int v6), .val (.int v7), .val (.ref b8), .val (.ref b9), .val (.ref b11), .unset, .unset, .unset, .unset, .unset] [(.ref b11), (.ref b9), (.ref b8)])) _
    refine XS.bipush X223.here hx rfl (hb hby at_508) ?_
    show Steps p.tables e below (T223.setTop (mkF m 510 #[.val (.long q0), .second, .val (.long q1), .second, .val (.long q2), .second, .val (.long q3), .second, .val (.int p4), .val (.int p5), .val (.int v1), .val (.int v2), .val (.int v4), .val (.int v6), .val (.int v7), .val (.ref b8), .val (.ref b9), .val (.ref b11), .unset, .unset, .unset, .unset, .unset] [(.int (11 : Int32)), (.ref b11), (.ref b9), (.ref b8)])) _
    refine XS.iload X223.here hx rfl (hb hby at_510) rfl ?_
    show Steps p.tables e below (T223.setTop (mkF m 512 #[.val (.long q0), .second, .val (.long q1), .second, .val (.long q2), .second, .val (.long q3), .second, .val (.int p4), .val (.int p5), .val (.int v1), .val (.int v2), .val (.int v4), .val (.int v6), .val (.int v7), .val (.ref b8), .val (.ref b9), .val (.ref b11), .unset, .unset, .unset, .unset, .unset] [(.int v1), (.int (11 : Int32)), (.ref b11), (.ref b9), (.ref b8)])) _
    refine XS.lload X223.here hx rfl (hb hby at_512) rfl ?_
    exact kk)
  have Zz225 := (Nat.le_trans Zz220 K223.1)
  have Av226 := (Av221.keep K223 (ninS ne_b8_b9 (ninS ne_b8_b11 nin0)))
  obtain ⟨Lg227, X227, N227⟩ : ∃ L' : List Loc, Stand p l e room_1 s m #[(.long q0), (.long q1), (.long q2), (.long q3), (.int p4), (.int p5)] below meth c T223 L' 3 48 ∧ Fr n0 L' := ⟨_, X223, N223⟩
  (try clear Wu218); (try clear Wi218); (try clear pre219); (try clear Zz220); (try clear Av221); (try clear X222); (try clear N222); (try clear X223); (try clear st223); (try clear N223q); (try clear K223); (try clear Vu223); (try clear Vi223); (try clear N223)
  obtain ⟨_, _, ⟨T228, L228, k228, n228⟩, -, X228, ⟨Lc228, hQ228, l228, y228, z228⟩, st228⟩ := Jvm.LawKit.callS X227 hx (y := (⟨"com/example/copyleaf/copyleaf/page/PageFirstAtLeastPinLaw", "fill", "([J[J[JIIJ)V"⟩ : MethodName)) hown (mvT hZ (hw _ (List.mem_of_getElem? (i := 8) rfl))) (mvT hZ (hw _ (List.mem_of_getElem? (i := 9) rfl))) (mvT hZ (hw _ (List.mem_of_getElem? (i := 5) rfl))) (mvT hZ (hw _ (List.mem_of_getElem? (i := 10) rfl))) (by decide) (backOf (W := 0) (rm2 l Z a0 hw [] b8 b9 b11 (11 : Int32) v1 q2 k8 k9 k11 [(.long v14), (.long v25), (.long v35), (.long v45), (.long v55), (.long v65), (.long v75), (.long v85), (.long v95), (.long v105), (.long v115), (.long v125), (.long v135), (.long v145), (.long v155), (.long v165)] [(.long u_0), (.long u_1), (.long u_2), (.long u_3), (.long u_4), (.long u_5), (.long u_6), (.long u_7), (.long u_8), (.long u_9), (.long u_10), (.long (0 : Int64)), (.long (0 : Int64)), (.long (0 : Int64)), (.long (0 : Int64)), (.long (0 : Int64))] [(.long in_0), (.long in_1), (.long in_2), (.long in_3), (.long in_4), (.long in_5), (.long in_6), (.long in_7), (.long in_8), (.long in_9), (.long in_10), (.long (0 : Int64)), (.long (0 : Int64)), (.long (0 : Int64)), (.long (0 : Int64)), (.long (0 : Int64))] v125 T223.heap n0 Zz225 Av226 Wu223 Wi223 ne_b8_b9 ne_b8_b11 ne_b9_b11 g_b9 g_b11 ⟨by decide, by decide⟩ rfl (Nat.le_of_ble_eq_true rfl) (Nat.le_of_ble_eq_true rfl)) hZ (hw _ (List.mem_of_getElem? (i := 10) rfl)) (hw _ (List.mem_of_getElem? (i := 5) rfl)) (by decide) (by decide)) (g := (mkF m 514 #[.val (.long q0), .second, .val (.long q1), .second, .val (.long q2), .second, .val (.long q3), .second, .val (.int p4), .val (.int p5), .val (.int v1), .val (.int v2), .val (.int v4), .val (.int v6), .val (.int v7), .val (.ref b8), .val (.ref b9), .val (.ref b11), .unset, .unset, .unset, .unset, .unset] [(.long q2), (.int v1), (.int (11 : Int32)), (.ref b11), (.ref b9), (.ref b8)])) rfl (by rw [hml]; rfl) (argsL := [(.ref b8), (.ref b9), (.ref b11), (.int (11 : Int32)), (.int v1), (.long q2)]) (rest := []) (lenOf pd__28_5bJ_5bJ_5bJIIJ_29V rfl) rfl (by show 2 * 0 + _ ≤ _; exact Nat.le_of_eq rfl) (hb hby at_514) (fun _ _ => ⟨rfl, rfl, (by decide : 3 + 0 ≤ _), (by decide : 48 + 0 ≤ _)⟩)
  dsimp only [Pt.U, Pt.locs, Pt.cells, Pt.slots] at X228 l228 y228 z228 st228 hQ228
  subst l228 y228 z228
  obtain ⟨rfl, N228q, K228, Vu228, Vi228⟩ := hQ228
  have N228 := Fr.app N227 N228q
  obtain ⟨u_11, eu_11⟩ : ∃ z : Int64, z = prF v125 v1 := ⟨_, rfl⟩
  rw [← eu_11] at Vu228 Vi228
  obtain ⟨in_11, ein_11⟩ : ∃ z : Int64, z = inF u_11 (11 : Int32) v1 q2 := ⟨_, rfl⟩
  rw [← ein_11] at Vi228
  have Wu228 : Arv Z T228.heap b9 k9 .long (16 : Int32) [(.long u_0), (.long u_1), (.long u_2), (.long u_3), (.long u_4), (.long u_5), (.long u_6), (.long u_7), (.long u_8), (.long u_9), (.long u_10), (.long u_11), (.long (0 : Int64)), (.long (0 : Int64)), (.long (0 : Int64)), (.long (0 : Int64))] (.long (0 : Int64)) := Vu228
  have Wi228 : Arv Z T228.heap b11 k11 .long (16 : Int32) [(.long in_0), (.long in_1), (.long in_2), (.long in_3), (.long in_4), (.long in_5), (.long in_6), (.long in_7), (.long in_8), (.long in_9), (.long in_10), (.long in_11), (.long (0 : Int64)), (.long (0 : Int64)), (.long (0 : Int64)), (.long (0 : Int64))] (.long (0 : Int64)) := Vi228
  have pre229 : ∀ t, Steps p.tables e below (T228.setTop (mkF m 529 #[.val (.long q0), .second, .val (.long q1), .second, .val (.long q2), .second, .val (.long q3), .second, .val (.int p4), .val (.int p5), .val (.int v1), .val (.int v2), .val (.int v4), .val (.int v6), .val (.int v7), .val (.ref b8), .val (.ref b9), .val (.ref b11), .unset, .unset, .unset, .unset, .unset] [(.long q2), (.int v1), (.int (12 : Int32)), (.ref b11), (.ref b9), (.ref b8)])) t → Steps p.tables e below (s₁.setTop (entryFrame m #[(.long q0), (.long q1), (.long q2), (.long q3), (.int p4), (.int p5)] maxLocals)) t := fun t kk => pre224 t (by
    show Steps p.tables e below (T223.setTop (mkF m 514 #[.val (.long q0), .second, .val (.long q1), .second, .val (.long q2), .second, .val (.long q3), .second, .val (.int p4), .val (.int p5), .val (.int v1), .val (.int v2), .val (.int v4), .val (.int v6), .val (.int v7), .val (.ref b8), .val (.ref b9), .val (.ref b11), .unset, .unset, .unset, .unset, .unset] [(.long q2), (.int v1), (.int (11 : Int32)), (.ref b11), (.ref b9), (.ref b8)])) _
    refine st228 _ ?_
    show Steps p.tables e below (T228.setTop (mkF m 517 #[.val (.long q0), .second, .val (.long q1), .second, .val (.long q2), .second, .val (.long q3), .second, .val (.int p4), .val (.int p5), .val (.int v1), .val (.int v2), .val (.int v4), .val (.int v6), .val (.int v7), .val (.ref b8), .val (.ref b9), .val (.ref b11), .unset, .unset, .unset, .unset, .unset] [])) _
    refine XS.aload X228.here hx rfl (hb hby at_517) rfl rfl ?_
    show Steps p.tables e below (T228.setTop (mkF m 519 #[.val (.long q0), .second, .val (.long q1), .second, .val (.long q2), .second, .val (.long q3), .second, .val (.int p4), .val (.int p5), .val (.int v1), .val (.int v2), .val (.int v4), .val (.int v6), .val (.int v7), .val (.ref b8), .val (.ref b9), .val (.ref b11), .unset, .unset, .unset, .unset, .unset] [(.ref b8)])) _
    refine XS.aload X228.here hx rfl (hb hby at_519) rfl rfl ?_
    show Steps p.tables e below (T228.setTop (mkF m 521 #[.val (.long q0), .second, .val (.long q1), .second, .val (.long q2), .second, .val (.long q3), .second, .val (.int p4), .val (.int p5), .val (.int v1), .val (.int v2), .val (.int v4), .val (.int v6), .val (.int v7), .val (.ref b8), .val (.ref b9), .val (.ref b11), .unset, .unset, .unset, .unset, .unset] [(.ref b9), (.ref b8)])) _
    refine XS.aload X228.here hx rfl (hb hby at_521) rfl rfl ?_
    show Steps p.tables e below (T228.setTop (mkF m 523 #[.val (.long q0), .second, .val (.long q1), .second, .val (.long q2), .second, .val (.long q3), .second, .val (.int p4), .val (.int p5), .val (.int v1), .val (.int v2), .val (.int v4), .val (.int v6), .val (.int v7), .val (.ref b8), .val (.ref b9), .val (.ref b11), .unset, .unset, .unset, .unset, .unset] [(.ref b11), (.ref b9), (.ref b8)])) _
    refine XS.bipush X228.here hx rfl (hb hby at_523) ?_
    show Steps p.tables e below (T228.setTop (mkF m 525 #[.val (.long q0), .second, .val (.long q1), .second, .val (.long q2), .second, .val (.long q3), .second, .val (.int p4), .val (.int p5), .val (.int v1), .val (.int v2), .val (.int v4), .val (.int v6), .val (.int v7), .val (.ref b8), .val (.ref b9), .val (.ref b11), .unset, .unset, .unset, .unset, .unset] [(.int (12 : Int32)), (.ref b11), (.ref b9), (.ref b8)])) _
    refine XS.iload X228.here hx rfl (hb hby at_525) rfl ?_
    show Steps p.tables e below (T228.setTop (mkF m 527 #[.val (.long q0), .second, .val (.long q1), .second, .val (.long q2), .second, .val (.long q3), .second, .val (.int p4), .val (.int p5), .val (.int v1), .val (.int v2), .val (.int v4), .val (.int v6), .val (.int v7), .val (.ref b8), .val (.ref b9), .val (.ref b11), .unset, .unset, .unset, .unset, .unset] [(.int v1), (.int (12 : Int32)), (.ref b11), (.ref b9), (.ref b8)])) _
    refine XS.lload X228.here hx rfl (hb hby at_527) rfl ?_
    exact kk)
  have Zz230 := (Nat.le_trans Zz225 K228.1)
  have Av231 := (Av226.keep K228 (ninS ne_b8_b9 (ninS ne_b8_b11 nin0)))
  obtain ⟨Lg232, X232, N232⟩ : ∃ L' : List Loc, Stand p l e room_1 s m #[(.long q0), (.long q1), (.long q2), (.long q3), (.int p4), (.int p5)] below meth c T228 L' 3 48 ∧ Fr n0 L' := ⟨_, X228, N228⟩
  (try clear Wu223); (try clear Wi223); (try clear pre224); (try clear Zz225); (try clear Av226); (try clear X227); (try clear N227); (try clear X228); (try clear st228); (try clear N228q); (try clear K228); (try clear Vu228); (try clear Vi228); (try clear N228)
  obtain ⟨_, _, ⟨T233, L233, k233, n233⟩, -, X233, ⟨Lc233, hQ233, l233, y233, z233⟩, st233⟩ := Jvm.LawKit.callS X232 hx (y := (⟨"com/example/copyleaf/copyleaf/page/PageFirstAtLeastPinLaw", "fill", "([J[J[JIIJ)V"⟩ : MethodName)) hown (mvT hZ (hw _ (List.mem_of_getElem? (i := 8) rfl))) (mvT hZ (hw _ (List.mem_of_getElem? (i := 9) rfl))) (mvT hZ (hw _ (List.mem_of_getElem? (i := 5) rfl))) (mvT hZ (hw _ (List.mem_of_getElem? (i := 10) rfl))) (by decide) (backOf (W := 0) (rm2 l Z a0 hw [] b8 b9 b11 (12 : Int32) v1 q2 k8 k9 k11 [(.long v14), (.long v25), (.long v35), (.long v45), (.long v55), (.long v65), (.long v75), (.long v85), (.long v95), (.long v105), (.long v115), (.long v125), (.long v135), (.long v145), (.long v155), (.long v165)] [(.long u_0), (.long u_1), (.long u_2), (.long u_3), (.long u_4), (.long u_5), (.long u_6), (.long u_7), (.long u_8), (.long u_9), (.long u_10), (.long u_11), (.long (0 : Int64)), (.long (0 : Int64)), (.long (0 : Int64)), (.long (0 : Int64))] [(.long in_0), (.long in_1), (.long in_2), (.long in_3), (.long in_4), (.long in_5), (.long in_6), (.long in_7), (.long in_8), (.long in_9), (.long in_10), (.long in_11), (.long (0 : Int64)), (.long (0 : Int64)), (.long (0 : Int64)), (.long (0 : Int64))] v135 T228.heap n0 Zz230 Av231 Wu228 Wi228 ne_b8_b9 ne_b8_b11 ne_b9_b11 g_b9 g_b11 ⟨by decide, by decide⟩ rfl (Nat.le_of_ble_eq_true rfl) (Nat.le_of_ble_eq_true rfl)) hZ (hw _ (List.mem_of_getElem? (i := 10) rfl)) (hw _ (List.mem_of_getElem? (i := 5) rfl)) (by decide) (by decide)) (g := (mkF m 529 #[.val (.long q0), .second, .val (.long q1), .second, .val (.long q2), .second, .val (.long q3), .second, .val (.int p4), .val (.int p5), .val (.int v1), .val (.int v2), .val (.int v4), .val (.int v6), .val (.int v7), .val (.ref b8), .val (.ref b9), .val (.ref b11), .unset, .unset, .unset, .unset, .unset] [(.long q2), (.int v1), (.int (12 : Int32)), (.ref b11), (.ref b9), (.ref b8)])) rfl (by rw [hml]; rfl) (argsL := [(.ref b8), (.ref b9), (.ref b11), (.int (12 : Int32)), (.int v1), (.long q2)]) (rest := []) (lenOf pd__28_5bJ_5bJ_5bJIIJ_29V rfl) rfl (by show 2 * 0 + _ ≤ _; exact Nat.le_of_eq rfl) (hb hby at_529) (fun _ _ => ⟨rfl, rfl, (by decide : 3 + 0 ≤ _), (by decide : 48 + 0 ≤ _)⟩)
  dsimp only [Pt.U, Pt.locs, Pt.cells, Pt.slots] at X233 l233 y233 z233 st233 hQ233
  subst l233 y233 z233
  obtain ⟨rfl, N233q, K233, Vu233, Vi233⟩ := hQ233
  have N233 := Fr.app N232 N233q
  obtain ⟨u_12, eu_12⟩ : ∃ z : Int64, z = prF v135 v1 := ⟨_, rfl⟩
  rw [← eu_12] at Vu233 Vi233
  obtain ⟨in_12, ein_12⟩ : ∃ z : Int64, z = inF u_12 (12 : Int32) v1 q2 := ⟨_, rfl⟩
  rw [← ein_12] at Vi233
  have Wu233 : Arv Z T233.heap b9 k9 .long (16 : Int32) [(.long u_0), (.long u_1), (.long u_2), (.long u_3), (.long u_4), (.long u_5), (.long u_6), (.long u_7), (.long u_8), (.long u_9), (.long u_10), (.long u_11), (.long u_12), (.long (0 : Int64)), (.long (0 : Int64)), (.long (0 : Int64))] (.long (0 : Int64)) := Vu233
  have Wi233 : Arv Z T233.heap b11 k11 .long (16 : Int32) [(.long in_0), (.long in_1), (.long in_2), (.long in_3), (.long in_4), (.long in_5), (.long in_6), (.long in_7), (.long in_8), (.long in_9), (.long in_10), (.long in_11), (.long in_12), (.long (0 : Int64)), (.long (0 : Int64)), (.long (0 : Int64))] (.long (0 : Int64)) := Vi233
  have pre234 : ∀ t, Steps p.tables e below (T233.setTop (mkF m 544 #[.val (.long q0), .second, .val (.long q1), .second, .val (.long q2), .second, .val (.long q3), .second, .val (.int p4), .val (.int p5), .val (.int v1), .val (.int v2), .val (.int v4), .val (.int v6), .val (.int v7), .val (.ref b8), .val (.ref b9), .val (.ref b11), .unset, .unset, .unset, .unset, .unset] [(.long q2), (.int v1), (.int (13 : Int32)), (.ref b11), (.ref b9), (.ref b8)])) t → Steps p.tables e below (s₁.setTop (entryFrame m #[(.long q0), (.long q1), (.long q2), (.long q3), (.int p4), (.int p5)] maxLocals)) t := fun t kk => pre229 t (by
    show Steps p.tables e below (T228.setTop (mkF m 529 #[.val (.long q0), .second, .val (.long q1), .second, .val (.long q2), .second, .val (.long q3), .second, .val (.int p4), .val (.int p5), .val (.int v1), .val (.int v2), .val (.int v4), .val (.int v6), .val (.int v7), .val (.ref b8), .val (.ref b9), .val (.ref b11), .unset, .unset, .unset, .unset, .unset] [(.long q2), (.int v1), (.int (12 : Int32)), (.ref b11), (.ref b9), (.ref b8)])) _
    refine st233 _ ?_
    show Steps p.tables e below (T233.setTop (mkF m 532 #[.val (.long q0), .second, .val (.long q1), .second, .val (.long q2), .second, .val (.long q3), .second, .val (.int p4), .val (.int p5), .val (.int v1), .val (.int v2), .val (.int v4), .val (.int v6), .val (.int v7), .val (.ref b8), .val (.ref b9), .val (.ref b11), .unset, .unset, .unset, .unset, .unset] [])) _
    refine XS.aload X233.here hx rfl (hb hby at_532) rfl rfl ?_
    show Steps p.tables e below (T233.setTop (mkF m 534 #[.val (.long q0), .second, .val (.long q1), .second, .val (.long q2), .second, .val (.long q3), .second, .val (.int p4), .val (.int p5), .val (.int v1), .val (.int v2), .val (.int v4), .val (.int v6), .val (.int v7), .val (.ref b8), .val (.ref b9), .val (.ref b11), .unset, .unset, .unset, .unset, .unset] [(.ref b8)])) _
    refine XS.aload X233.here hx rfl (hb hby at_534) rfl rfl ?_
    show Steps p.tables e below (T233.setTop (mkF m 536 #[.val (.long q0), .second, .val (.long q1), .second, .val (.long q2), .second, .val (.long q3), .second, .val (.int p4), .val (.int p5), .val (.int v1), .val (.int v2), .val (.int v4), .val (.int v6), .val (.int v7), .val (.ref b8), .val (.ref b9), .val (.ref b11), .unset, .unset, .unset, .unset, .unset] [(.ref b9), (.ref b8)])) _
    refine XS.aload X233.here hx rfl (hb hby at_536) rfl rfl ?_
    show Steps p.tables e below (T233.setTop (mkF m 538 #[.val (.long q0), .second, .val (.long q1), .second, .val (.long q2), .second, .val (.long q3), .second, .val (.int p4), .val (.int p5), .val (.int v1), .val (.int v2), .val (.int v4), .val (.int v6), .val (.int v7), .val (.ref b8), .val (.ref b9), .val (.ref b11), .unset, .unset, .unset, .unset, .unset] [(.ref b11), (.ref b9), (.ref b8)])) _
    refine XS.bipush X233.here hx rfl (hb hby at_538) ?_
    show Steps p.tables e below (T233.setTop (mkF m 540 #[.val (.long q0), .second, .val (.long q1), .second, .val (.long q2), .second, .val (.long q3), .second, .val (.int p4), .val (.int p5), .val (.int v1), .val (.int v2), .val (.int v4), .val (.int v6), .val (.int v7), .val (.ref b8), .val (.ref b9), .val (.ref b11), .unset, .unset, .unset, .unset, .unset] [(.int (13 : Int32)), (.ref b11), (.ref b9), (.ref b8)])) _
    refine XS.iload X233.here hx rfl (hb hby at_540) rfl ?_
    show Steps p.tables e below (T233.setTop (mkF m 542 #[.val (.long q0), .second, .val (.long q1), .second, .val (.long q2), .second, .val (.long q3), .second, .val (.int p4), .val (.int p5), .val (.int v1), .val (.int v2), .val (.int v4), .val (.int v6), .val (.int v7), .val (.ref b8), .val (.ref b9), .val (.ref b11), .unset, .unset, .unset, .unset, .unset] [(.int v1), (.int (13 : Int32)), (.ref b11), (.ref b9), (.ref b8)])) _
    refine XS.lload X233.here hx rfl (hb hby at_542) rfl ?_
    exact kk)
  have Zz235 := (Nat.le_trans Zz230 K233.1)
  have Av236 := (Av231.keep K233 (ninS ne_b8_b9 (ninS ne_b8_b11 nin0)))
  obtain ⟨Lg237, X237, N237⟩ : ∃ L' : List Loc, Stand p l e room_1 s m #[(.long q0), (.long q1), (.long q2), (.long q3), (.int p4), (.int p5)] below meth c T233 L' 3 48 ∧ Fr n0 L' := ⟨_, X233, N233⟩
  (try clear Wu228); (try clear Wi228); (try clear pre229); (try clear Zz230); (try clear Av231); (try clear X232); (try clear N232); (try clear X233); (try clear st233); (try clear N233q); (try clear K233); (try clear Vu233); (try clear Vi233); (try clear N233)
  obtain ⟨_, _, ⟨T238, L238, k238, n238⟩, -, X238, ⟨Lc238, hQ238, l238, y238, z238⟩, st238⟩ := Jvm.LawKit.callS X237 hx (y := (⟨"com/example/copyleaf/copyleaf/page/PageFirstAtLeastPinLaw", "fill", "([J[J[JIIJ)V"⟩ : MethodName)) hown (mvT hZ (hw _ (List.mem_of_getElem? (i := 8) rfl))) (mvT hZ (hw _ (List.mem_of_getElem? (i := 9) rfl))) (mvT hZ (hw _ (List.mem_of_getElem? (i := 5) rfl))) (mvT hZ (hw _ (List.mem_of_getElem? (i := 10) rfl))) (by decide) (backOf (W := 0) (rm2 l Z a0 hw [] b8 b9 b11 (13 : Int32) v1 q2 k8 k9 k11 [(.long v14), (.long v25), (.long v35), (.long v45), (.long v55), (.long v65), (.long v75), (.long v85), (.long v95), (.long v105), (.long v115), (.long v125), (.long v135), (.long v145), (.long v155), (.long v165)] [(.long u_0), (.long u_1), (.long u_2), (.long u_3), (.long u_4), (.long u_5), (.long u_6), (.long u_7), (.long u_8), (.long u_9), (.long u_10), (.long u_11), (.long u_12), (.long (0 : Int64)), (.long (0 : Int64)), (.long (0 : Int64))] [(.long in_0), (.long in_1), (.long in_2), (.long in_3), (.long in_4), (.long in_5), (.long in_6), (.long in_7), (.long in_8), (.long in_9), (.long in_10), (.long in_11), (.long in_12), (.long (0 : Int64)), (.long (0 : Int64)), (.long (0 : Int64))] v145 T233.heap n0 Zz235 Av236 Wu233 Wi233 ne_b8_b9 ne_b8_b11 ne_b9_b11 g_b9 g_b11 ⟨by decide, by decide⟩ rfl (Nat.le_of_ble_eq_true rfl) (Nat.le_of_ble_eq_true rfl)) hZ (hw _ (List.mem_of_getElem? (i := 10) rfl)) (hw _ (List.mem_of_getElem? (i := 5) rfl)) (by decide) (by decide)) (g := (mkF m 544 #[.val (.long q0), .second, .val (.long q1), .second, .val (.long q2), .second, .val (.long q3), .second, .val (.int p4), .val (.int p5), .val (.int v1), .val (.int v2), .val (.int v4), .val (.int v6), .val (.int v7), .val (.ref b8), .val (.ref b9), .val (.ref b11), .unset, .unset, .unset, .unset, .unset] [(.long q2), (.int v1), (.int (13 : Int32)), (.ref b11), (.ref b9), (.ref b8)])) rfl (by rw [hml]; rfl) (argsL := [(.ref b8), (.ref b9), (.ref b11), (.int (13 : Int32)), (.int v1), (.long q2)]) (rest := []) (lenOf pd__28_5bJ_5bJ_5bJIIJ_29V rfl) rfl (by show 2 * 0 + _ ≤ _; exact Nat.le_of_eq rfl) (hb hby at_544) (fun _ _ => ⟨rfl, rfl, (by decide : 3 + 0 ≤ _), (by decide : 48 + 0 ≤ _)⟩)
  dsimp only [Pt.U, Pt.locs, Pt.cells, Pt.slots] at X238 l238 y238 z238 st238 hQ238
  subst l238 y238 z238
  obtain ⟨rfl, N238q, K238, Vu238, Vi238⟩ := hQ238
  have N238 := Fr.app N237 N238q
  obtain ⟨u_13, eu_13⟩ : ∃ z : Int64, z = prF v145 v1 := ⟨_, rfl⟩
  rw [← eu_13] at Vu238 Vi238
  obtain ⟨in_13, ein_13⟩ : ∃ z : Int64, z = inF u_13 (13 : Int32) v1 q2 := ⟨_, rfl⟩
  rw [← ein_13] at Vi238
  have Wu238 : Arv Z T238.heap b9 k9 .long (16 : Int32) [(.long u_0), (.long u_1), (.long u_2), (.long u_3), (.long u_4), (.long u_5), (.long u_6), (.long u_7), (.long u_8), (.long u_9), (.long u_10), (.long u_11), (.long u_12), (.long u_13), (.long (0 : Int64)), (.long (0 : Int64))] (.long (0 : Int64)) := Vu238
  have Wi238 : Arv Z T238.heap b11 k11 .long (16 : Int32) [(.long in_0), (.long in_1), (.long in_2), (.long in_3), (.long in_4), (.long in_5), (.long in_6), (.long in_7), (.long in_8), (.long in_9), (.long in_10), (.long in_11), (.long in_12), (.long in_13), (.long (0 : Int64)), (.long (0 : Int64))] (.long (0 : Int64)) := Vi238
  have pre239 : ∀ t, Steps p.tables e below (T238.setTop (mkF m 559 #[.val (.long q0), .second, .val (.long q1), .second, .val (.long q2), .second, .val (.long q3), .second, .val (.int p4), .val (.int p5), .val (.int v1), .val (.int v2), .val (.int v4), .val (.int v6), .val (.int v7), .val (.ref b8), .val (.ref b9), .val (.ref b11), .unset, .unset, .unset, .unset, .unset] [(.long q2), (.int v1), (.int (14 : Int32)), (.ref b11), (.ref b9), (.ref b8)])) t → Steps p.tables e below (s₁.setTop (entryFrame m #[(.long q0), (.long q1), (.long q2), (.long q3), (.int p4), (.int p5)] maxLocals)) t := fun t kk => pre234 t (by
    show Steps p.tables e below (T233.setTop (mkF m 544 #[.val (.long q0), .second, .val (.long q1), .second, .val (.long q2), .second, .val (.long q3), .second, .val (.int p4), .val (.int p5), .val (.int v1), .val (.int v2), .val (.int v4), .val (.int v6), .val (.int v7), .val (.ref b8), .val (.ref b9), .val (.ref b11), .unset, .unset, .unset, .unset, .unset] [(.long q2), (.int v1), (.int (13 : Int32)), (.ref b11), (.ref b9), (.ref b8)])) _
    refine st238 _ ?_
    show Steps p.tables e below (T238.setTop (mkF m 547 #[.val (.long q0), .second, .val (.long q1), .second, .val (.long q2), .second, .val (.long q3), .second, .val (.int p4), .val (.int p5), .val (.int v1), .val (.int v2), .val (.int v4), .val (.int v6), .val (.int v7), .val (.ref b8), .val (.ref b9), .val (.ref b11), .unset, .unset, .unset, .unset, .unset] [])) _
    refine XS.aload X238.here hx rfl (hb hby at_547) rfl rfl ?_
    show Steps p.tables e below (T238.setTop (mkF m 549 #[.val (.long q0), .second, .val (.long q1), .second, .val (.long q2), .second, .val (.long q3), .second, .val (.int p4), .val (.int p5), .val (.int v1), .val (.int v2), .val (.int v4), .val (.int v6), .val (.int v7), .val (.ref b8), .val (.ref b9), .val (.ref b11), .unset, .unset, .unset, .unset, .unset] [(.ref b8)])) _
    refine XS.aload X238.here hx rfl (hb hby at_549) rfl rfl ?_
    show Steps p.tables e below (T238.setTop (mkF m 551 #[.val (.long q0), .second, .val (.long q1), .second, .val (.long q2), .second, .val (.long q3), .second, .val (.int p4), .val (.int p5), .val (.int v1), .val (.int v2), .val (.int v4), .val (.int v6), .val (.int v7), .val (.ref b8), .val (.ref b9), .val (.ref b11), .unset, .unset, .unset, .unset, .unset] [(.ref b9), (.ref b8)])) _
    refine XS.aload X238.here hx rfl (hb hby at_551) rfl rfl ?_
    show Steps p.tables e below (T238.setTop (mkF m 553 #[.val (.long q0), .second, .val (.long q1), .second, .val (.long q2), .second, .val (.long q3), .second, .val (.int p4), .val (.int p5), .val (.int v1), .val (.int v2), .val (.int v4), .val (.int v6), .val (.int v7), .val (.ref b8), .val (.ref b9), .val (.ref b11), .unset, .unset, .unset, .unset, .unset] [(.ref b11), (.ref b9), (.ref b8)])) _
    refine XS.bipush X238.here hx rfl (hb hby at_553) ?_
    show Steps p.tables e below (T238.setTop (mkF m 555 #[.val (.long q0), .second, .val (.long q1), .second, .val (.long q2), .second, .val (.long q3), .second, .val (.int p4), .val (.int p5), .val (.int v1), .val (.int v2), .val (.int v4), .val (.int v6), .val (.int v7), .val (.ref b8), .val (.ref b9), .val (.ref b11), .unset, .unset, .unset, .unset, .unset] [(.int (14 : Int32)), (.ref b11), (.ref b9), (.ref b8)])) _
    refine XS.iload X238.here hx rfl (hb hby at_555) rfl ?_
    show Steps p.tables e below (T238.setTop (mkF m 557 #[.val (.long q0), .second, .val (.long q1), .second, .val (.long q2), .second, .val (.long q3), .second, .val (.int p4), .val (.int p5), .val (.int v1), .val (.int v2), .val (.int v4), .val (.int v6), .val (.int v7), .val (.ref b8), .val (.ref b9), .val (.ref b11), .unset, .unset, .unset, .unset, .unset] [(.int v1), (.int (14 : Int32)), (.ref b11), (.ref b9), (.ref b8)])) _
    refine XS.lload X238.here hx rfl (hb hby at_557) rfl ?_
    exact kk)
  have Zz240 := (Nat.le_trans Zz235 K238.1)
  have Av241 := (Av236.keep K238 (ninS ne_b8_b9 (ninS ne_b8_b11 nin0)))
  obtain ⟨Lg242, X242, N242⟩ : ∃ L' : List Loc, Stand p l e room_1 s m #[(.long q0), (.long q1), (.long q2), (.long q3), (.int p4), (.int p5)] below meth c T238 L' 3 48 ∧ Fr n0 L' := ⟨_, X238, N238⟩
  (try clear Wu233); (try clear Wi233); (try clear pre234); (try clear Zz235); (try clear Av236); (try clear X237); (try clear N237); (try clear X238); (try clear st238); (try clear N238q); (try clear K238); (try clear Vu238); (try clear Vi238); (try clear N238)
  obtain ⟨_, _, ⟨T243, L243, k243, n243⟩, -, X243, ⟨Lc243, hQ243, l243, y243, z243⟩, st243⟩ := Jvm.LawKit.callS X242 hx (y := (⟨"com/example/copyleaf/copyleaf/page/PageFirstAtLeastPinLaw", "fill", "([J[J[JIIJ)V"⟩ : MethodName)) hown (mvT hZ (hw _ (List.mem_of_getElem? (i := 8) rfl))) (mvT hZ (hw _ (List.mem_of_getElem? (i := 9) rfl))) (mvT hZ (hw _ (List.mem_of_getElem? (i := 5) rfl))) (mvT hZ (hw _ (List.mem_of_getElem? (i := 10) rfl))) (by decide) (backOf (W := 0) (rm2 l Z a0 hw [] b8 b9 b11 (14 : Int32) v1 q2 k8 k9 k11 [(.long v14), (.long v25), (.long v35), (.long v45), (.long v55), (.long v65), (.long v75), (.long v85), (.long v95), (.long v105), (.long v115), (.long v125), (.long v135), (.long v145), (.long v155), (.long v165)] [(.long u_0), (.long u_1), (.long u_2), (.long u_3), (.long u_4), (.long u_5), (.long u_6), (.long u_7), (.long u_8), (.long u_9), (.long u_10), (.long u_11), (.long u_12), (.long u_13), (.long (0 : Int64)), (.long (0 : Int64))] [(.long in_0), (.long in_1), (.long in_2), (.long in_3), (.long in_4), (.long in_5), (.long in_6), (.long in_7), (.long in_8), (.long in_9), (.long in_10), (.long in_11), (.long in_12), (.long in_13), (.long (0 : Int64)), (.long (0 : Int64))] v155 T238.heap n0 Zz240 Av241 Wu238 Wi238 ne_b8_b9 ne_b8_b11 ne_b9_b11 g_b9 g_b11 ⟨by decide, by decide⟩ rfl (Nat.le_of_ble_eq_true rfl) (Nat.le_of_ble_eq_true rfl)) hZ (hw _ (List.mem_of_getElem? (i := 10) rfl)) (hw _ (List.mem_of_getElem? (i := 5) rfl)) (by decide) (by decide)) (g := (mkF m 559 #[.val (.long q0), .second, .val (.long q1), .second, .val (.long q2), .second, .val (.long q3), .second, .val (.int p4), .val (.int p5), .val (.int v1), .val (.int v2), .val (.int v4), .val (.int v6), .val (.int v7), .val (.ref b8), .val (.ref b9), .val (.ref b11), .unset, .unset, .unset, .unset, .unset] [(.long q2), (.int v1), (.int (14 : Int32)), (.ref b11), (.ref b9), (.ref b8)])) rfl (by rw [hml]; rfl) (argsL := [(.ref b8), (.ref b9), (.ref b11), (.int (14 : Int32)), (.int v1), (.long q2)]) (rest := []) (lenOf pd__28_5bJ_5bJ_5bJIIJ_29V rfl) rfl (by show 2 * 0 + _ ≤ _; exact Nat.le_of_eq rfl) (hb hby at_559) (fun _ _ => ⟨rfl, rfl, (by decide : 3 + 0 ≤ _), (by decide : 48 + 0 ≤ _)⟩)
  dsimp only [Pt.U, Pt.locs, Pt.cells, Pt.slots] at X243 l243 y243 z243 st243 hQ243
  subst l243 y243 z243
  obtain ⟨rfl, N243q, K243, Vu243, Vi243⟩ := hQ243
  have N243 := Fr.app N242 N243q
  obtain ⟨u_14, eu_14⟩ : ∃ z : Int64, z = prF v155 v1 := ⟨_, rfl⟩
  rw [← eu_14] at Vu243 Vi243
  obtain ⟨in_14, ein_14⟩ : ∃ z : Int64, z = inF u_14 (14 : Int32) v1 q2 := ⟨_, rfl⟩
  rw [← ein_14] at Vi243
  have Wu243 : Arv Z T243.heap b9 k9 .long (16 : Int32) [(.long u_0), (.long u_1), (.long u_2), (.long u_3), (.long u_4), (.long u_5), (.long u_6), (.long u_7), (.long u_8), (.long u_9), (.long u_10), (.long u_11), (.long u_12), (.long u_13), (.long u_14), (.long (0 : Int64))] (.long (0 : Int64)) := Vu243
  have Wi243 : Arv Z T243.heap b11 k11 .long (16 : Int32) [(.long in_0), (.long in_1), (.long in_2), (.long in_3), (.long in_4), (.long in_5), (.long in_6), (.long in_7), (.long in_8), (.long in_9), (.long in_10), (.long in_11), (.long in_12), (.long in_13), (.long in_14), (.long (0 : Int64))] (.long (0 : Int64)) := Vi243
  have pre244 : ∀ t, Steps p.tables e below (T243.setTop (mkF m 574 #[.val (.long q0), .second, .val (.long q1), .second, .val (.long q2), .second, .val (.long q3), .second, .val (.int p4), .val (.int p5), .val (.int v1), .val (.int v2), .val (.int v4), .val (.int v6), .val (.int v7), .val (.ref b8), .val (.ref b9), .val (.ref b11), .unset, .unset, .unset, .unset, .unset] [(.long q2), (.int v1), (.int (15 : Int32)), (.ref b11), (.ref b9), (.ref b8)])) t → Steps p.tables e below (s₁.setTop (entryFrame m #[(.long q0), (.long q1), (.long q2), (.long q3), (.int p4), (.int p5)] maxLocals)) t := fun t kk => pre239 t (by
    show Steps p.tables e below (T238.setTop (mkF m 559 #[.val (.long q0), .second, .val (.long q1), .second, .val (.long q2), .second, .val (.long q3), .second, .val (.int p4), .val (.int p5), .val (.int v1), .val (.int v2), .val (.int v4), .val (.int v6), .val (.int v7), .val (.ref b8), .val (.ref b9), .val (.ref b11), .unset, .unset, .unset, .unset, .unset] [(.long q2), (.int v1), (.int (14 : Int32)), (.ref b11), (.ref b9), (.ref b8)])) _
    refine st243 _ ?_
    show Steps p.tables e below (T243.setTop (mkF m 562 #[.val (.long q0), .second, .val (.long q1), .second, .val (.long q2), .second, .val (.long q3), .second, .val (.int p4), .val (.int p5), .val (.int v1), .val (.int v2), .val (.int v4), .val (.int v6), .val (.int v7), .val (.ref b8), .val (.ref b9), .val (.ref b11), .unset, .unset, .unset, .unset, .unset] [])) _
    refine XS.aload X243.here hx rfl (hb hby at_562) rfl rfl ?_
    show Steps p.tables e below (T243.setTop (mkF m 564 #[.val (.long q0), .second, .val (.long q1), .second, .val (.long q2), .second, .val (.long q3), .second, .val (.int p4), .val (.int p5), .val (.int v1), .val (.int v2), .val (.int v4), .val (.int v6), .val (.int v7), .val (.ref b8), .val (.ref b9), .val (.ref b11), .unset, .unset, .unset, .unset, .unset] [(.ref b8)])) _
    refine XS.aload X243.here hx rfl (hb hby at_564) rfl rfl ?_
    show Steps p.tables e below (T243.setTop (mkF m 566 #[.val (.long q0), .second, .val (.long q1), .second, .val (.long q2), .second, .val (.long q3), .second, .val (.int p4), .val (.int p5), .val (.int v1), .val (.int v2), .val (.int v4), .val (.int v6), .val (.int v7), .val (.ref b8), .val (.ref b9), .val (.ref b11), .unset, .unset, .unset, .unset, .unset] [(.ref b9), (.ref b8)])) _
    refine XS.aload X243.here hx rfl (hb hby at_566) rfl rfl ?_
    show Steps p.tables e below (T243.setTop (mkF m 568 #[.val (.long q0), .second, .val (.long q1), .second, .val (.long q2), .second, .val (.long q3), .second, .val (.int p4), .val (.int p5), .val (.int v1), .val (.int v2), .val (.int v4), .val (.int v6), .val (.int v7), .val (.ref b8), .val (.ref b9), .val (.ref b11), .unset, .unset, .unset, .unset, .unset] [(.ref b11), (.ref b9), (.ref b8)])) _
    refine XS.bipush X243.here hx rfl (hb hby at_568) ?_
    show Steps p.tables e below (T243.setTop (mkF m 570 #[.val (.long q0), .second, .val (.long q1), .second, .val (.long q2), .second, .val (.long q3), .second, .val (.int p4), .val (.int p5), .val (.int v1), .val (.int v2), .val (.int v4), .val (.int v6), .val (.int v7), .val (.ref b8), .val (.ref b9), .val (.ref b11), .unset, .unset, .unset, .unset, .unset] [(.int (15 : Int32)), (.ref b11), (.ref b9), (.ref b8)])) _
    refine XS.iload X243.here hx rfl (hb hby at_570) rfl ?_
    show Steps p.tables e below (T243.setTop (mkF m 572 #[.val (.long q0), .second, .val (.long q1), .second, .val (.long q2), .second, .val (.long q3), .second, .val (.int p4), .val (.int p5), .val (.int v1), .val (.int v2), .val (.int v4), .val (.int v6), .val (.int v7), .val (.ref b8), .val (.ref b9), .val (.ref b11), .unset, .unset, .unset, .unset, .unset] [(.int v1), (.int (15 : Int32)), (.ref b11), (.ref b9), (.ref b8)])) _
    refine XS.lload X243.here hx rfl (hb hby at_572) rfl ?_
    exact kk)
  have Zz245 := (Nat.le_trans Zz240 K243.1)
  have Av246 := (Av241.keep K243 (ninS ne_b8_b9 (ninS ne_b8_b11 nin0)))
  obtain ⟨Lg247, X247, N247⟩ : ∃ L' : List Loc, Stand p l e room_1 s m #[(.long q0), (.long q1), (.long q2), (.long q3), (.int p4), (.int p5)] below meth c T243 L' 3 48 ∧ Fr n0 L' := ⟨_, X243, N243⟩
  (try clear Wu238); (try clear Wi238); (try clear pre239); (try clear Zz240); (try clear Av241); (try clear X242); (try clear N242); (try clear X243); (try clear st243); (try clear N243q); (try clear K243); (try clear Vu243); (try clear Vi243); (try clear N243)
  obtain ⟨_, _, ⟨T248, L248, k248, n248⟩, -, X248, ⟨Lc248, hQ248, l248, y248, z248⟩, st248⟩ := Jvm.LawKit.callS X247 hx (y := (⟨"com/example/copyleaf/copyleaf/page/PageFirstAtLeastPinLaw", "fill", "([J[J[JIIJ)V"⟩ : MethodName)) hown (mvT hZ (hw _ (List.mem_of_getElem? (i := 8) rfl))) (mvT hZ (hw _ (List.mem_of_getElem? (i := 9) rfl))) (mvT hZ (hw _ (List.mem_of_getElem? (i := 5) rfl))) (mvT hZ (hw _ (List.mem_of_getElem? (i := 10) rfl))) (by decide) (backOf (W := 0) (rm2 l Z a0 hw [] b8 b9 b11 (15 : Int32) v1 q2 k8 k9 k11 [(.long v14), (.long v25), (.long v35), (.long v45), (.long v55), (.long v65), (.long v75), (.long v85), (.long v95), (.long v105), (.long v115), (.long v125), (.long v135), (.long v145), (.long v155), (.long v165)] [(.long u_0), (.long u_1), (.long u_2), (.long u_3), (.long u_4), (.long u_5), (.long u_6), (.long u_7), (.long u_8), (.long u_9), (.long u_10), (.long u_11), (.long u_12), (.long u_13), (.long u_14), (.long (0 : Int64))] [(.long in_0), (.long in_1), (.long in_2), (.long in_3), (.long in_4), (.long in_5), (.long in_6), (.long in_7), (.long in_8), (.long in_9), (.long in_10), (.long in_11), (.long in_12), (.long in_13), (.long in_14), (.long (0 : Int64))] v165 T243.heap n0 Zz245 Av246 Wu243 Wi243 ne_b8_b9 ne_b8_b11 ne_b9_b11 g_b9 g_b11 ⟨by decide, by decide⟩ rfl (Nat.le_of_ble_eq_true rfl) (Nat.le_of_ble_eq_true rfl)) hZ (hw _ (List.mem_of_getElem? (i := 10) rfl)) (hw _ (List.mem_of_getElem? (i := 5) rfl)) (by decide) (by decide)) (g := (mkF m 574 #[.val (.long q0), .second, .val (.long q1), .second, .val (.long q2), .second, .val (.long q3), .second, .val (.int p4), .val (.int p5), .val (.int v1), .val (.int v2), .val (.int v4), .val (.int v6), .val (.int v7), .val (.ref b8), .val (.ref b9), .val (.ref b11), .unset, .unset, .unset, .unset, .unset] [(.long q2), (.int v1), (.int (15 : Int32)), (.ref b11), (.ref b9), (.ref b8)])) rfl (by rw [hml]; rfl) (argsL := [(.ref b8), (.ref b9), (.ref b11), (.int (15 : Int32)), (.int v1), (.long q2)]) (rest := []) (lenOf pd__28_5bJ_5bJ_5bJIIJ_29V rfl) rfl (by show 2 * 0 + _ ≤ _; exact Nat.le_of_eq rfl) (hb hby at_574) (fun _ _ => ⟨rfl, rfl, (by decide : 3 + 0 ≤ _), (by decide : 48 + 0 ≤ _)⟩)
  dsimp only [Pt.U, Pt.locs, Pt.cells, Pt.slots] at X248 l248 y248 z248 st248 hQ248
  subst l248 y248 z248
  obtain ⟨rfl, N248q, K248, Vu248, Vi248⟩ := hQ248
  have N248 := Fr.app N247 N248q
  obtain ⟨u_15, eu_15⟩ : ∃ z : Int64, z = prF v165 v1 := ⟨_, rfl⟩
  rw [← eu_15] at Vu248 Vi248
  obtain ⟨in_15, ein_15⟩ : ∃ z : Int64, z = inF u_15 (15 : Int32) v1 q2 := ⟨_, rfl⟩
  rw [← ein_15] at Vi248
  have Wu248 : Arv Z T248.heap b9 k9 .long (16 : Int32) [(.long u_0), (.long u_1), (.long u_2), (.long u_3), (.long u_4), (.long u_5), (.long u_6), (.long u_7), (.long u_8), (.long u_9), (.long u_10), (.long u_11), (.long u_12), (.long u_13), (.long u_14), (.long u_15)] (.long (0 : Int64)) := Vu248
  have Wi248 : Arv Z T248.heap b11 k11 .long (16 : Int32) [(.long in_0), (.long in_1), (.long in_2), (.long in_3), (.long in_4), (.long in_5), (.long in_6), (.long in_7), (.long in_8), (.long in_9), (.long in_10), (.long in_11), (.long in_12), (.long in_13), (.long in_14), (.long in_15)] (.long (0 : Int64)) := Vi248
  have hq0 : 0 ≤ v14.toInt := own_base ev14
  have hq1 := own_next hq0 (i := (1 : Int32)) ev2 ev25
  have hq2 := own_next hq1.1 (i := (2 : Int32)) ev2 ev35
  have hq3 := own_next hq2.1 (i := (3 : Int32)) ev2 ev45
  have hq4 := own_next hq3.1 (i := (4 : Int32)) ev2 ev55
  have hq5 := own_next hq4.1 (i := (5 : Int32)) ev2 ev65
  have hq6 := own_next hq5.1 (i := (6 : Int32)) ev2 ev75
  have hq7 := own_next hq6.1 (i := (7 : Int32)) ev2 ev85
  have hq8 := own_next hq7.1 (i := (8 : Int32)) ev2 ev95
  have hq9 := own_next hq8.1 (i := (9 : Int32)) ev2 ev105
  have hq10 := own_next hq9.1 (i := (10 : Int32)) ev2 ev115
  have hq11 := own_next hq10.1 (i := (11 : Int32)) ev2 ev125
  have hq12 := own_next hq11.1 (i := (12 : Int32)) ev2 ev135
  have hq13 := own_next hq12.1 (i := (13 : Int32)) ev2 ev145
  have hq14 := own_next hq13.1 (i := (14 : Int32)) ev2 ev155
  have hq15 := own_next hq14.1 (i := (15 : Int32)) ev2 ev165
  have hv0 := own_pr hq0 ev1 eu_0 ein_0
  have hv1 := own_pr hq1.1 ev1 eu_1 ein_1
  have hv2 := own_pr hq2.1 ev1 eu_2 ein_2
  have hv3 := own_pr hq3.1 ev1 eu_3 ein_3
  have hv4 := own_pr hq4.1 ev1 eu_4 ein_4
  have hv5 := own_pr hq5.1 ev1 eu_5 ein_5
  have hv6 := own_pr hq6.1 ev1 eu_6 ein_6
  have hv7 := own_pr hq7.1 ev1 eu_7 ein_7
  have hv8 := own_pr hq8.1 ev1 eu_8 ein_8
  have hv9 := own_pr hq9.1 ev1 eu_9 ein_9
  have hv10 := own_pr hq10.1 ev1 eu_10 ein_10
  have hv11 := own_pr hq11.1 ev1 eu_11 ein_11
  have hv12 := own_pr hq12.1 ev1 eu_12 ein_12
  have hv13 := own_pr hq13.1 ev1 eu_13 ein_13
  have hv14 := own_pr hq14.1 ev1 eu_14 ein_14
  have hv15 := own_pr hq15.1 ev1 eu_15 ein_15
  have hU : ∀ i : Nat, i < 16 → ∃ z : Int64, ([(.long in_0), (.long in_1), (.long in_2), (.long in_3), (.long in_4), (.long in_5), (.long in_6), (.long in_7), (.long in_8), (.long in_9), (.long in_10), (.long in_11), (.long in_12), (.long in_13), (.long in_14), (.long in_15)] : List Value).getD i (.long (0 : Int64)) = .long z ∧ ((z.toUInt64 >>> (v1 &&& 0x3f).toInt64.toUInt64).toInt64) = (fun i : Nat => ([u_0, u_1, u_2, u_3, u_4, u_5, u_6, u_7, u_8, u_9, u_10, u_11, u_12, u_13, u_14, u_15] : List Int64).getD i 0) i := by
    intro i hi
    match i, hi with
    | 0, _ => exact ⟨_, rfl, hv0.2⟩
    | 1, _ => exact ⟨_, rfl, hv1.2⟩
    | 2, _ => exact ⟨_, rfl, hv2.2⟩
    | 3, _ => exact ⟨_, rfl, hv3.2⟩
    | 4, _ => exact ⟨_, rfl, hv4.2⟩
    | 5, _ => exact ⟨_, rfl, hv5.2⟩
    | 6, _ => exact ⟨_, rfl, hv6.2⟩
    | 7, _ => exact ⟨_, rfl, hv7.2⟩
    | 8, _ => exact ⟨_, rfl, hv8.2⟩
    | 9, _ => exact ⟨_, rfl, hv9.2⟩
    | 10, _ => exact ⟨_, rfl, hv10.2⟩
    | 11, _ => exact ⟨_, rfl, hv11.2⟩
    | 12, _ => exact ⟨_, rfl, hv12.2⟩
    | 13, _ => exact ⟨_, rfl, hv13.2⟩
    | 14, _ => exact ⟨_, rfl, hv14.2⟩
    | 15, _ => exact ⟨_, rfl, hv15.2⟩
    | i + 16, h => exact absurd h (by omega)
  have hs : ∀ i j : Nat, i ≤ j → j < 16 → ((fun i : Nat => ([u_0, u_1, u_2, u_3, u_4, u_5, u_6, u_7, u_8, u_9, u_10, u_11, u_12, u_13, u_14, u_15] : List Int64).getD i 0) i).toInt ≤ ((fun i : Nat => ([u_0, u_1, u_2, u_3, u_4, u_5, u_6, u_7, u_8, u_9, u_10, u_11, u_12, u_13, u_14, u_15] : List Int64).getD i 0) j).toInt := own_mono _ (by
    intro i hi
    match i, hi with
    | 0, _ => exact own_step hq0 ev1 eu_0 eu_1 hq1.2
    | 1, _ => exact own_step hq1.1 ev1 eu_1 eu_2 hq2.2
    | 2, _ => exact own_step hq2.1 ev1 eu_2 eu_3 hq3.2
    | 3, _ => exact own_step hq3.1 ev1 eu_3 eu_4 hq4.2
    | 4, _ => exact own_step hq4.1 ev1 eu_4 eu_5 hq5.2
    | 5, _ => exact own_step hq5.1 ev1 eu_5 eu_6 hq6.2
    | 6, _ => exact own_step hq6.1 ev1 eu_6 eu_7 hq7.2
    | 7, _ => exact own_step hq7.1 ev1 eu_7 eu_8 hq8.2
    | 8, _ => exact own_step hq8.1 ev1 eu_8 eu_9 hq9.2
    | 9, _ => exact own_step hq9.1 ev1 eu_9 eu_10 hq10.2
    | 10, _ => exact own_step hq10.1 ev1 eu_10 eu_11 hq11.2
    | 11, _ => exact own_step hq11.1 ev1 eu_11 eu_12 hq12.2
    | 12, _ => exact own_step hq12.1 ev1 eu_12 eu_13 hq13.2
    | 13, _ => exact own_step hq13.1 ev1 eu_13 eu_14 hq14.2
    | 14, _ => exact own_step hq14.1 ev1 eu_14 eu_15 hq15.2)
  have hnn : ∀ i : Nat, i < 16 → 0 ≤ ((fun i : Nat => ([u_0, u_1, u_2, u_3, u_4, u_5, u_6, u_7, u_8, u_9, u_10, u_11, u_12, u_13, u_14, u_15] : List Int64).getD i 0) i).toInt := by
    intro i hi
    match i, hi with
    | 0, _ => exact hv0.1
    | 1, _ => exact hv1.1
    | 2, _ => exact hv2.1
    | 3, _ => exact hv3.1
    | 4, _ => exact hv4.1
    | 5, _ => exact hv5.1
    | 6, _ => exact hv6.1
    | 7, _ => exact hv7.1
    | 8, _ => exact hv8.1
    | 9, _ => exact hv9.1
    | 10, _ => exact hv10.1
    | 11, _ => exact hv11.1
    | 12, _ => exact hv12.1
    | 13, _ => exact hv13.1
    | 14, _ => exact hv14.1
    | 15, _ => exact hv15.1
    | i + 16, h => exact absurd h (by omega)
  have hf0 : 0 ≤ v6.toInt := (own_from ev6).1
  obtain ⟨hft, ht16⟩ := own_to ev6 ev7
  have pre249 : ∀ t, Steps p.tables e below (T248.setTop (mkF m 588 #[.val (.long q0), .second, .val (.long q1), .second, .val (.long q2), .second, .val (.long q3), .second, .val (.int p4), .val (.int p5), .val (.int v1), .val (.int v2), .val (.int v4), .val (.int v6), .val (.int v7), .val (.ref b8), .val (.ref b9), .val (.ref b11), .val (.int ((q3 &&& (15 : Int64)).toInt32)), .unset, .unset, .unset, .unset] [(.int v4)])) t → Steps p.tables e below (s₁.setTop (entryFrame m #[(.long q0), (.long q1), (.long q2), (.long q3), (.int p4), (.int p5)] maxLocals)) t := fun t kk => pre244 t (by
    show Steps p.tables e below (T243.setTop (mkF m 574 #[.val (.long q0), .second, .val (.long q1), .second, .val (.long q2), .second, .val (.long q3), .second, .val (.int p4), .val (.int p5), .val (.int v1), .val (.int v2), .val (.int v4), .val (.int v6), .val (.int v7), .val (.ref b8), .val (.ref b9), .val (.ref b11), .unset, .unset, .unset, .unset, .unset] [(.long q2), (.int v1), (.int (15 : Int32)), (.ref b11), (.ref b9), (.ref b8)])) _
    refine st248 _ ?_
    show Steps p.tables e below (T248.setTop (mkF m 577 #[.val (.long q0), .second, .val (.long q1), .second, .val (.long q2), .second, .val (.long q3), .second, .val (.int p4), .val (.int p5), .val (.int v1), .val (.int v2), .val (.int v4), .val (.int v6), .val (.int v7), .val (.ref b8), .val (.ref b9), .val (.ref b11), .unset, .unset, .unset, .unset, .unset] [])) _
    refine XS.lload X248.here hx rfl (hb hby at_577) rfl ?_
    show Steps p.tables e below (T248.setTop (mkF m 579 #[.val (.long q0), .second, .val (.long q1), .second, .val (.long q2), .second, .val (.long q3), .second, .val (.int p4), .val (.int p5), .val (.int v1), .val (.int v2), .val (.int v4), .val (.int v6), .val (.int v7), .val (.ref b8), .val (.ref b9), .val (.ref b11), .unset, .unset, .unset, .unset, .unset] [(.long q3)])) _
    refine X248.ldc2Long hx hown (mvT hZ (hw _ (List.mem_of_getElem? (i := 7) rfl))) (g := (mkF m 579 #[.val (.long q0), .second, .val (.long q1), .second, .val (.long q2), .second, .val (.long q3), .second, .val (.int p4), .val (.int p5), .val (.int v1), .val (.int v2), .val (.int v4), .val (.int v6), .val (.int v7), .val (.ref b8), .val (.ref b9), .val (.ref b11), .unset, .unset, .unset, .unset, .unset] [(.long q3)])) rfl (hb hby at_579) _ ?_
    show Steps p.tables e below (T248.setTop (mkF m 582 #[.val (.long q0), .second, .val (.long q1), .second, .val (.long q2), .second, .val (.long q3), .second, .val (.int p4), .val (.int p5), .val (.int v1), .val (.int v2), .val (.int v4), .val (.int v6), .val (.int v7), .val (.ref b8), .val (.ref b9), .val (.ref b11), .unset, .unset, .unset, .unset, .unset] [(.long (15 : Int64)), (.long q3)])) _
    refine XS.land X248.here hx rfl (hb hby at_582) rfl ?_
    show Steps p.tables e below (T248.setTop (mkF m 583 #[.val (.long q0), .second, .val (.long q1), .second, .val (.long q2), .second, .val (.long q3), .second, .val (.int p4), .val (.int p5), .val (.int v1), .val (.int v2), .val (.int v4), .val (.int v6), .val (.int v7), .val (.ref b8), .val (.ref b9), .val (.ref b11), .unset, .unset, .unset, .unset, .unset] [(.long (q3 &&& (15 : Int64)))])) _
    refine XS.l2i X248.here hx rfl (hb hby at_583) rfl ?_
    show Steps p.tables e below (T248.setTop (mkF m 584 #[.val (.long q0), .second, .val (.long q1), .second, .val (.long q2), .second, .val (.long q3), .second, .val (.int p4), .val (.int p5), .val (.int v1), .val (.int v2), .val (.int v4), .val (.int v6), .val (.int v7), .val (.ref b8), .val (.ref b9), .val (.ref b11), .unset, .unset, .unset, .unset, .unset] [(.int ((q3 &&& (15 : Int64)).toInt32))])) _
    refine XS.istore X248.here hx rfl (hb hby at_584) rfl (l' := #[.val (.long q0), .second, .val (.long q1), .second, .val (.long q2), .second, .val (.long q3), .second, .val (.int p4), .val (.int p5), .val (.int v1), .val (.int v2), .val (.int v4), .val (.int v6), .val (.int v7), .val (.ref b8), .val (.ref b9), .val (.ref b11), .val (.int ((q3 &&& (15 : Int64)).toInt32)), .unset, .unset, .unset, .unset]) rfl ?_
    show Steps p.tables e below (T248.setTop (mkF m 586 #[.val (.long q0), .second, .val (.long q1), .second, .val (.long q2), .second, .val (.long q3), .second, .val (.int p4), .val (.int p5), .val (.int v1), .val (.int v2), .val (.int v4), .val (.int v6), .val (.int v7), .val (.ref b8), .val (.ref b9), .val (.ref b11), .val (.int ((q3 &&& (15 : Int64)).toInt32)), .unset, .unset, .unset, .unset] [])) _
    refine XS.iload X248.here hx rfl (hb hby at_586) rfl ?_
    exact kk)
  obtain ⟨j250, T250, L250, X250, e250, N250, hj250, pre250⟩ : ∃ (j250 : Int64) (T' : State) (L' : List Loc), Stand p l e room_1 s m #[(.long q0), (.long q1), (.long q2), (.long q3), (.int p4), (.int p5)] below meth c T' L' 3 48 ∧ T'.heap = T248.heap ∧ Fr n0 L' ∧ 0 ≤ j250.toInt ∧ ∀ t, Steps p.tables e below (T'.setTop (mkF m 619 #[.val (.long q0), .second, .val (.long q1), .second, .val (.long q2), .second, .val (.long q3), .second, .val (.int p4), .val (.int p5), .val (.int v1), .val (.int v2), .val (.int v4), .val (.int v6), .val (.int v7), .val (.ref b8), .val (.ref b9), .val (.ref b11), .val (.int ((q3 &&& (15 : Int64)).toInt32)), .unset, .unset, .unset, .unset] [(.long j250)])) t → Steps p.tables e below (s₁.setTop (entryFrame m #[(.long q0), (.long q1), (.long q2), (.long q3), (.int p4), (.int p5)] maxLocals)) t := by
    by_cases hj251 : v4 = (0 : Int32)
    · exact ⟨(q3 &&& (9223372036854775807 : Int64)), T248, _, X248, rfl, N248, (own_raw q3), fun t kk => pre249 t (by
        show Steps p.tables e below (T248.setTop (mkF m 588 #[.val (.long q0), .second, .val (.long q1), .second, .val (.long q2), .second, .val (.long q3), .second, .val (.int p4), .val (.int p5), .val (.int v1), .val (.int v2), .val (.int v4), .val (.int v6), .val (.int v7), .val (.ref b8), .val (.ref b9), .val (.ref b11), .val (.int ((q3 &&& (15 : Int64)).toInt32)), .unset, .unset, .unset, .unset] [(.int v4)])) _
        refine XS.ifYes X248.here hx rfl (pc0 := 588) (pc' := 613) rfl (hb hby at_588) rfl ((if0 _ _).trans (teq hj251).1) (by decide) (by decide) ?_
        show Steps p.tables e below (T248.setTop (mkF m 613 #[.val (.long q0), .second, .val (.long q1), .second, .val (.long q2), .second, .val (.long q3), .second, .val (.int p4), .val (.int p5), .val (.int v1), .val (.int v2), .val (.int v4), .val (.int v6), .val (.int v7), .val (.ref b8), .val (.ref b9), .val (.ref b11), .val (.int ((q3 &&& (15 : Int64)).toInt32)), .unset, .unset, .unset, .unset] [])) _
        refine XS.lload X248.here hx rfl (hb hby at_613) rfl ?_
        show Steps p.tables e below (T248.setTop (mkF m 615 #[.val (.long q0), .second, .val (.long q1), .second, .val (.long q2), .second, .val (.long q3), .second, .val (.int p4), .val (.int p5), .val (.int v1), .val (.int v2), .val (.int v4), .val (.int v6), .val (.int v7), .val (.ref b8), .val (.ref b9), .val (.ref b11), .val (.int ((q3 &&& (15 : Int64)).toInt32)), .unset, .unset, .unset, .unset] [(.long q3)])) _
        refine X248.ldc2Long hx hown (mvT hZ (hw _ (List.mem_of_getElem? (i := 2) rfl))) (g := (mkF m 615 #[.val (.long q0), .second, .val (.long q1), .second, .val (.long q2), .second, .val (.long q3), .second, .val (.int p4), .val (.int p5), .val (.int v1), .val (.int v2), .val (.int v4), .val (.int v6), .val (.int v7), .val (.ref b8), .val (.ref b9), .val (.ref b11), .val (.int ((q3 &&& (15 : Int64)).toInt32)), .unset, .unset, .unset, .unset] [(.long q3)])) rfl (hb hby at_615) _ ?_
        show Steps p.tables e below (T248.setTop (mkF m 618 #[.val (.long q0), .second, .val (.long q1), .second, .val (.long q2), .second, .val (.long q3), .second, .val (.int p4), .val (.int p5), .val (.int v1), .val (.int v2), .val (.int v4), .val (.int v6), .val (.int v7), .val (.ref b8), .val (.ref b9), .val (.ref b11), .val (.int ((q3 &&& (15 : Int64)).toInt32)), .unset, .unset, .unset, .unset] [(.long (9223372036854775807 : Int64)), (.long q3)])) _
        refine XS.land X248.here hx rfl (hb hby at_618) rfl ?_
        exact kk)⟩
    · obtain ⟨hj252, hjj252, hjn252⟩ := own_j (x := q3) (z := ((q3 &&& (15 : Int64)).toInt32)) rfl
      have hz252 := own_at (us := [u_0, u_1, u_2, u_3, u_4, u_5, u_6, u_7, u_8, u_9, u_10, u_11, u_12, u_13, u_14, u_15]) (i := (((q3 &&& (15 : Int64)).toInt32)).toNatClampNeg) hjn252
      obtain ⟨cl253, Ar253, -, S253, -, H253, -⟩ := id Wu248
      have hin253 : ¬ (((q3 &&& (15 : Int64)).toInt32) < 0 ∨ cl253.slots.size ≤ (((q3 &&& (15 : Int64)).toInt32)).toNatClampNeg) := inb_of S253 ⟨hj252, hjj252⟩
      have hat253 : cl253.slots[(((q3 &&& (15 : Int64)).toInt32)).toNatClampNeg]? = some (.long ((fun i : Nat => ([u_0, u_1, u_2, u_3, u_4, u_5, u_6, u_7, u_8, u_9, u_10, u_11, u_12, u_13, u_14, u_15] : List Int64).getD i 0) (((q3 &&& (15 : Int64)).toInt32)).toNatClampNeg)) := Has.at H253 hin253 hz252
      obtain ⟨uj254, euj254⟩ : ∃ z : Int64, z = ((fun i : Nat => ([u_0, u_1, u_2, u_3, u_4, u_5, u_6, u_7, u_8, u_9, u_10, u_11, u_12, u_13, u_14, u_15] : List Int64).getD i 0) (((q3 &&& (15 : Int64)).toInt32)).toNatClampNeg) := ⟨_, rfl⟩
      have huj : 0 ≤ uj254.toInt := by rw [euj254]; exact hnn _ hjn252
      have pre255 : ∀ t, Steps p.tables e below (T248.setTop (mkF m 607 #[.val (.long q0), .second, .val (.long q1), .second, .val (.long q2), .second, .val (.long q3), .second, .val (.int p4), .val (.int p5), .val (.int v1), .val (.int v2), .val (.int v4), .val (.int v6), .val (.int v7), .val (.ref b8), .val (.ref b9), .val (.ref b11), .val (.int ((q3 &&& (15 : Int64)).toInt32)), .unset, .unset, .unset, .unset] [(.int (((((q3.toUInt64 >>> ((4 : Int32) &&& 0x3f).toInt64.toUInt64).toInt64) &&& (3 : Int64)).toInt32) - (1 : Int32))), (.long uj254)])) t → Steps p.tables e below (s₁.setTop (entryFrame m #[(.long q0), (.long q1), (.long q2), (.long q3), (.int p4), (.int p5)] maxLocals)) t := fun t kk => pre249 t (by
        show Steps p.tables e below (T248.setTop (mkF m 588 #[.val (.long q0), .second, .val (.long q1), .second, .val (.long q2), .second, .val (.long q3), .second, .val (.int p4), .val (.int p5), .val (.int v1), .val (.int v2), .val (.int v4), .val (.int v6), .val (.int v7), .val (.ref b8), .val (.ref b9), .val (.ref b11), .val (.int ((q3 &&& (15 : Int64)).toInt32)), .unset, .unset, .unset, .unset] [(.int v4)])) _
        refine XS.ifNo X248.here hx rfl (hb hby at_588) rfl ((if0 _ _).trans (feq hj251).1) ?_
        show Steps p.tables e below (T248.setTop (mkF m 591 #[.val (.long q0), .second, .val (.long q1), .second, .val (.long q2), .second, .val (.long q3), .second, .val (.int p4), .val (.int p5), .val (.int v1), .val (.int v2), .val (.int v4), .val (.int v6), .val (.int v7), .val (.ref b8), .val (.ref b9), .val (.ref b11), .val (.int ((q3 &&& (15 : Int64)).toInt32)), .unset, .unset, .unset, .unset] [])) _
        refine XS.aload X248.here hx rfl (hb hby at_591) rfl rfl ?_
        show Steps p.tables e below (T248.setTop (mkF m 593 #[.val (.long q0), .second, .val (.long q1), .second, .val (.long q2), .second, .val (.long q3), .second, .val (.int p4), .val (.int p5), .val (.int v1), .val (.int v2), .val (.int v4), .val (.int v6), .val (.int v7), .val (.ref b8), .val (.ref b9), .val (.ref b11), .val (.int ((q3 &&& (15 : Int64)).toInt32)), .unset, .unset, .unset, .unset] [(.ref b9)])) _
        refine XS.iload X248.here hx rfl (hb hby at_593) rfl ?_
        show Steps p.tables e below (T248.setTop (mkF m 595 #[.val (.long q0), .second, .val (.long q1), .second, .val (.long q2), .second, .val (.long q3), .second, .val (.int p4), .val (.int p5), .val (.int v1), .val (.int v2), .val (.int v4), .val (.int v6), .val (.int v7), .val (.ref b8), .val (.ref b9), .val (.ref b11), .val (.int ((q3 &&& (15 : Int64)).toInt32)), .unset, .unset, .unset, .unset] [(.int ((q3 &&& (15 : Int64)).toInt32)), (.ref b9)])) _
        refine X248.laload hx (j := ((q3 &&& (15 : Int64)).toInt32)) (v := (.long ((fun i : Nat => ([u_0, u_1, u_2, u_3, u_4, u_5, u_6, u_7, u_8, u_9, u_10, u_11, u_12, u_13, u_14, u_15] : List Int64).getD i 0) (((q3 &&& (15 : Int64)).toInt32)).toNatClampNeg))) Ar253.1 (State.isArrayOf_alike hZ.alike Ar253.2.1) Ar253.2.2 hin253 hat253 (g := (mkF m 595 #[.val (.long q0), .second, .val (.long q1), .second, .val (.long q2), .second, .val (.long q3), .second, .val (.int p4), .val (.int p5), .val (.int v1), .val (.int v2), .val (.int v4), .val (.int v6), .val (.int v7), .val (.ref b8), .val (.ref b9), .val (.ref b11), .val (.int ((q3 &&& (15 : Int64)).toInt32)), .unset, .unset, .unset, .unset] [(.int ((q3 &&& (15 : Int64)).toInt32)), (.ref b9)])) rfl rfl (hb hby at_595) _ ?_
        show Steps p.tables e below (T248.setTop (mkF m 596 #[.val (.long q0), .second, .val (.long q1), .second, .val (.long q2), .second, .val (.long q3), .second, .val (.int p4), .val (.int p5), .val (.int v1), .val (.int v2), .val (.int v4), .val (.int v6), .val (.int v7), .val (.ref b8), .val (.ref b9), .val (.ref b11), .val (.int ((q3 &&& (15 : Int64)).toInt32)), .unset, .unset, .unset, .unset] [(.long ((fun i : Nat => ([u_0, u_1, u_2, u_3, u_4, u_5, u_6, u_7, u_8, u_9, u_10, u_11, u_12, u_13, u_14, u_15] : List Int64).getD i 0) (((q3 &&& (15 : Int64)).toInt32)).toNatClampNeg))])) _
        rw [← euj254]
        show Steps p.tables e below (T248.setTop (mkF m 596 #[.val (.long q0), .second, .val (.long q1), .second, .val (.long q2), .second, .val (.long q3), .second, .val (.int p4), .val (.int p5), .val (.int v1), .val (.int v2), .val (.int v4), .val (.int v6), .val (.int v7), .val (.ref b8), .val (.ref b9), .val (.ref b11), .val (.int ((q3 &&& (15 : Int64)).toInt32)), .unset, .unset, .unset, .unset] [(.long uj254)])) _
        refine XS.lload X248.here hx rfl (hb hby at_596) rfl ?_
        show Steps p.tables e below (T248.setTop (mkF m 598 #[.val (.long q0), .second, .val (.long q1), .second, .val (.long q2), .second, .val (.long q3), .second, .val (.int p4), .val (.int p5), .val (.int v1), .val (.int v2), .val (.int v4), .val (.int v6), .val (.int v7), .val (.ref b8), .val (.ref b9), .val (.ref b11), .val (.int ((q3 &&& (15 : Int64)).toInt32)), .unset, .unset, .unset, .unset] [(.long q3), (.long uj254)])) _
        refine XS.iconst X248.here hx rfl (hb hby at_598) ?_
        show Steps p.tables e below (T248.setTop (mkF m 599 #[.val (.long q0), .second, .val (.long q1), .second, .val (.long q2), .second, .val (.long q3), .second, .val (.int p4), .val (.int p5), .val (.int v1), .val (.int v2), .val (.int v4), .val (.int v6), .val (.int v7), .val (.ref b8), .val (.ref b9), .val (.ref b11), .val (.int ((q3 &&& (15 : Int64)).toInt32)), .unset, .unset, .unset, .unset] [(.int (4 : Int32)), (.long q3), (.long uj254)])) _
        refine XS.lushr X248.here hx rfl (hb hby at_599) rfl ?_
        show Steps p.tables e below (T248.setTop (mkF m 600 #[.val (.long q0), .second, .val (.long q1), .second, .val (.long q2), .second, .val (.long q3), .second, .val (.int p4), .val (.int p5), .val (.int v1), .val (.int v2), .val (.int v4), .val (.int v6), .val (.int v7), .val (.ref b8), .val (.ref b9), .val (.ref b11), .val (.int ((q3 &&& (15 : Int64)).toInt32)), .unset, .unset, .unset, .unset] [(.long ((q3.toUInt64 >>> ((4 : Int32) &&& 0x3f).toInt64.toUInt64).toInt64)), (.long uj254)])) _
        refine X248.ldc2Long hx hown (mvT hZ (hw _ (List.mem_of_getElem? (i := 19) rfl))) (g := (mkF m 600 #[.val (.long q0), .second, .val (.long q1), .second, .val (.long q2), .second, .val (.long q3), .second, .val (.int p4), .val (.int p5), .val (.int v1), .val (.int v2), .val (.int v4), .val (.int v6), .val (.int v7), .val (.ref b8), .val (.ref b9), .val (.ref b11), .val (.int ((q3 &&& (15 : Int64)).toInt32)), .unset, .unset, .unset, .unset] [(.long ((q3.toUInt64 >>> ((4 : Int32) &&& 0x3f).toInt64.toUInt64).toInt64)), (.long uj254)])) rfl (hb hby at_600) _ ?_
        show Steps p.tables e below (T248.setTop (mkF m 603 #[.val (.long q0), .second, .val (.long q1), .second, .val (.long q2), .second, .val (.long q3), .second, .val (.int p4), .val (.int p5), .val (.int v1), .val (.int v2), .val (.int v4), .val (.int v6), .val (.int v7), .val (.ref b8), .val (.ref b9), .val (.ref b11), .val (.int ((q3 &&& (15 : Int64)).toInt32)), .unset, .unset, .unset, .unset] [(.long (3 : Int64)), (.long ((q3.toUInt64 >>> ((4 : Int32) &&& 0x3f).toInt64.toUInt64).toInt64)), (.long uj254)])) _
        refine XS.land X248.here hx rfl (hb hby at_603) rfl ?_
        show Steps p.tables e below (T248.setTop (mkF m 604 #[.val (.long q0), .second, .val (.long q1), .second, .val (.long q2), .second, .val (.long q3), .second, .val (.int p4), .val (.int p5), .val (.int v1), .val (.int v2), .val (.int v4), .val (.int v6), .val (.int v7), .val (.ref b8), .val (.ref b9), .val (.ref b11), .val (.int ((q3 &&& (15 : Int64)).toInt32)), .unset, .unset, .unset, .unset] [(.long (((q3.toUInt64 >>> ((4 : Int32) &&& 0x3f).toInt64.toUInt64).toInt64) &&& (3 : Int64))), (.long uj254)])) _
        refine XS.l2i X248.here hx rfl (hb hby at_604) rfl ?_
        show Steps p.tables e below (T248.setTop (mkF m 605 #[.val (.long q0), .second, .val (.long q1), .second, .val (.long q2), .second, .val (.long q3), .second, .val (.int p4), .val (.int p5), .val (.int v1), .val (.int v2), .val (.int v4), .val (.int v6), .val (.int v7), .val (.ref b8), .val (.ref b9), .val (.ref b11), .val (.int ((q3 &&& (15 : Int64)).toInt32)), .unset, .unset, .unset, .unset] [(.int ((((q3.toUInt64 >>> ((4 : Int32) &&& 0x3f).toInt64.toUInt64).toInt64) &&& (3 : Int64)).toInt32)), (.long uj254)])) _
        refine XS.iconst X248.here hx rfl (hb hby at_605) ?_
        show Steps p.tables e below (T248.setTop (mkF m 606 #[.val (.long q0), .second, .val (.long q1), .second, .val (.long q2), .second, .val (.long q3), .second, .val (.int p4), .val (.int p5), .val (.int v1), .val (.int v2), .val (.int v4), .val (.int v6), .val (.int v7), .val (.ref b8), .val (.ref b9), .val (.ref b11), .val (.int ((q3 &&& (15 : Int64)).toInt32)), .unset, .unset, .unset, .unset] [(.int (1 : Int32)), (.int ((((q3.toUInt64 >>> ((4 : Int32) &&& 0x3f).toInt64.toUInt64).toInt64) &&& (3 : Int64)).toInt32)), (.long uj254)])) _
        refine XS.isub X248.here hx rfl (hb hby at_606) rfl ?_
        exact kk)
      have Zz256 := (Nat.le_trans Zz245 K248.1)
      have Av257 := (Av246.keep K248 (ninS ne_b8_b9 (ninS ne_b8_b11 nin0)))
      obtain ⟨Lg258, X258, N258⟩ : ∃ L' : List Loc, Stand p l e room_1 s m #[(.long q0), (.long q1), (.long q2), (.long q3), (.int p4), (.int p5)] below meth c T248 L' 3 48 ∧ Fr n0 L' := ⟨_, X248, N248⟩
      (try clear Wu243); (try clear Wi243); (try clear pre244); (try clear Zz245); (try clear Av246); (try clear X247); (try clear N247)
      obtain ⟨_, _, ⟨T259, L259, k259, n259⟩, -, X259, ⟨Lc259, hQ259, l259, y259, z259⟩, st259⟩ := Jvm.LawKit.callS X258 hx (y := (⟨"com/example/copyleaf/copyleaf/page/PageFirstAtLeastPinLaw", "shifted", "(JI)J"⟩ : MethodName)) hown (mvT hZ (hw _ (List.mem_of_getElem? (i := 20) rfl))) (mvT hZ (hw _ (List.mem_of_getElem? (i := 21) rfl))) (mvT hZ (hw _ (List.mem_of_getElem? (i := 5) rfl))) (mvT hZ (hw _ (List.mem_of_getElem? (i := 22) rfl))) (by decide) (backOf (W := 0) (rm5 l Z a0 hw [] uj254 (((((q3.toUInt64 >>> ((4 : Int32) &&& 0x3f).toInt64.toUInt64).toInt64) &&& (3 : Int64)).toInt32) - (1 : Int32)) T248.heap n0 Zz256) hZ (hw _ (List.mem_of_getElem? (i := 22) rfl)) (hw _ (List.mem_of_getElem? (i := 5) rfl)) (by decide) (by decide)) (g := (mkF m 607 #[.val (.long q0), .second, .val (.long q1), .second, .val (.long q2), .second, .val (.long q3), .second, .val (.int p4), .val (.int p5), .val (.int v1), .val (.int v2), .val (.int v4), .val (.int v6), .val (.int v7), .val (.ref b8), .val (.ref b9), .val (.ref b11), .val (.int ((q3 &&& (15 : Int64)).toInt32)), .unset, .unset, .unset, .unset] [(.int (((((q3.toUInt64 >>> ((4 : Int32) &&& 0x3f).toInt64.toUInt64).toInt64) &&& (3 : Int64)).toInt32) - (1 : Int32))), (.long uj254)])) rfl (by rw [hml]; rfl) (argsL := [(.long uj254), (.int (((((q3.toUInt64 >>> ((4 : Int32) &&& 0x3f).toInt64.toUInt64).toInt64) &&& (3 : Int64)).toInt32) - (1 : Int32)))]) (rest := []) (lenOf pd__28JI_29J rfl) rfl (by show 2 * 0 + _ ≤ _; exact Nat.le_of_eq rfl) (hb hby at_607) (fun _ _ => ⟨rfl, rfl, (by decide : 3 + 0 ≤ _), (by decide : 48 + 0 ≤ _)⟩)
      dsimp only [Pt.U, Pt.locs, Pt.cells, Pt.slots] at X259 l259 y259 z259 st259 hQ259
      subst l259 y259 z259
      obtain ⟨rfl, N259q, e259⟩ := hQ259
      have N259 := Fr.app N258 N259q
      exact ⟨(shiftF uj254 (((((q3.toUInt64 >>> ((4 : Int32) &&& 0x3f).toInt64.toUInt64).toInt64) &&& (3 : Int64)).toInt32) - (1 : Int32))), T259, _, X259, e259, N259, (own_sh huj), fun t kk => pre255 t (by
        show Steps p.tables e below (T248.setTop (mkF m 607 #[.val (.long q0), .second, .val (.long q1), .second, .val (.long q2), .second, .val (.long q3), .second, .val (.int p4), .val (.int p5), .val (.int v1), .val (.int v2), .val (.int v4), .val (.int v6), .val (.int v7), .val (.ref b8), .val (.ref b9), .val (.ref b11), .val (.int ((q3 &&& (15 : Int64)).toInt32)), .unset, .unset, .unset, .unset] [(.int (((((q3.toUInt64 >>> ((4 : Int32) &&& 0x3f).toInt64.toUInt64).toInt64) &&& (3 : Int64)).toInt32) - (1 : Int32))), (.long uj254)])) _
        refine st259 _ ?_
        show Steps p.tables e below (T259.setTop (mkF m 610 #[.val (.long q0), .second, .val (.long q1), .second, .val (.long q2), .second, .val (.long q3), .second, .val (.int p4), .val (.int p5), .val (.int v1), .val (.int v2), .val (.int v4), .val (.int v6), .val (.int v7), .val (.ref b8), .val (.ref b9), .val (.ref b11), .val (.int ((q3 &&& (15 : Int64)).toInt32)), .unset, .unset, .unset, .unset] [(.long (shiftF uj254 (((((q3.toUInt64 >>> ((4 : Int32) &&& 0x3f).toInt64.toUInt64).toInt64) &&& (3 : Int64)).toInt32) - (1 : Int32))))])) _
        refine XS.goto X259.here hx rfl (pc0 := 610) (pc' := 619) rfl (hb hby at_610) (by decide) (by decide) ?_
        exact kk)⟩
  have hw0 := hj250
  have Av261 := (Av246.keep K248 (ninS ne_b8_b9 (ninS ne_b8_b11 nin0)))
  have Zz262 := (Nat.le_trans Zz245 K248.1)
  skip
  obtain ⟨_, _, ⟨T260, L260, k260, n260⟩, -, X260, ⟨Lc260, hQ260, l260, y260, z260⟩, st260⟩ := Jvm.LawKit.callS X250 hx (y := (⟨"com/example/copyleaf/copyleaf/page/Page", "firstAtLeast", "([JIIJI)I"⟩ : MethodName)) hown (mvT hZ (hw _ (List.mem_of_getElem? (i := 12) rfl))) (mvT hZ (hw _ (List.mem_of_getElem? (i := 13) rfl))) (mvT hZ (hw _ (List.mem_of_getElem? (i := 14) rfl))) (mvT hZ (hw _ (List.mem_of_getElem? (i := 15) rfl))) (by decide) (backOf (W := 0) (rm3 l Z a0 hw [] b11 v6 v7 j250 v1 k11 [(.long in_0), (.long in_1), (.long in_2), (.long in_3), (.long in_4), (.long in_5), (.long in_6), (.long in_7), (.long in_8), (.long in_9), (.long in_10), (.long in_11), (.long in_12), (.long in_13), (.long in_14), (.long in_15)] (fun i => ([u_0, u_1, u_2, u_3, u_4, u_5, u_6, u_7, u_8, u_9, u_10, u_11, u_12, u_13, u_14, u_15] : List Int64).getD i 0) T248.heap n0 Zz262 Wi248 hU hs hnn hw0 hf0 ht16 hft) hZ (hw _ (List.mem_of_getElem? (i := 15) rfl)) (hw _ (List.mem_of_getElem? (i := 14) rfl)) (by decide) (by decide)) (g := (mkF m 631 #[.val (.long q0), .second, .val (.long q1), .second, .val (.long q2), .second, .val (.long q3), .second, .val (.int p4), .val (.int p5), .val (.int v1), .val (.int v2), .val (.int v4), .val (.int v6), .val (.int v7), .val (.ref b8), .val (.ref b9), .val (.ref b11), .val (.int ((q3 &&& (15 : Int64)).toInt32)), .val (.long j250), .second, .unset, .unset] [(.int v1), (.long j250), (.int v7), (.int v6), (.ref b11)])) rfl (by rw [hml]; rfl) (argsL := [(.ref b11), (.int v6), (.int v7), (.long j250), (.int v1)]) (rest := []) (lenOf pd__28_5bJIIJI_29I rfl) rfl (by show 2 * 0 + _ ≤ _; exact Nat.le_of_eq rfl) (hb hby at_631) (fun _ _ => ⟨rfl, e250, (by decide : 3 + 0 ≤ _), (by decide : 48 + 0 ≤ _)⟩)
  dsimp only [Pt.U, Pt.locs, Pt.cells, Pt.slots] at X260 l260 y260 z260 st260 hQ260
  subst l260 y260 z260
  obtain ⟨g260, rfl, N260q, e260, hG260⟩ := hQ260
  have N260 := Fr.app N250 N260q
  have pre263 : ∀ t, Steps p.tables e below (T260.setTop (mkF m 645 #[.val (.long q0), .second, .val (.long q1), .second, .val (.long q2), .second, .val (.long q3), .second, .val (.int p4), .val (.int p5), .val (.int v1), .val (.int v2), .val (.int v4), .val (.int v6), .val (.int v7), .val (.ref b8), .val (.ref b9), .val (.ref b11), .val (.int ((q3 &&& (15 : Int64)).toInt32)), .val (.long j250), .second, .val (.int g260), .unset] [(.long j250), (.int v7), (.int v6), (.int (0 : Int32)), (.ref b9)])) t → Steps p.tables e below (s₁.setTop (entryFrame m #[(.long q0), (.long q1), (.long q2), (.long q3), (.int p4), (.int p5)] maxLocals)) t := fun t kk => pre250 t (by
    show Steps p.tables e below (T250.setTop (mkF m 619 #[.val (.long q0), .second, .val (.long q1), .second, .val (.long q2), .second, .val (.long q3), .second, .val (.int p4), .val (.int p5), .val (.int v1), .val (.int v2), .val (.int v4), .val (.int v6), .val (.int v7), .val (.ref b8), .val (.ref b9), .val (.ref b11), .val (.int ((q3 &&& (15 : Int64)).toInt32)), .unset, .unset, .unset, .unset] [(.long j250)])) _
    refine XS.lstore X250.here hx rfl (hb hby at_619) rfl (l' := #[.val (.long q0), .second, .val (.long q1), .second, .val (.long q2), .second, .val (.long q3), .second, .val (.int p4), .val (.int p5), .val (.int v1), .val (.int v2), .val (.int v4), .val (.int v6), .val (.int v7), .val (.ref b8), .val (.ref b9), .val (.ref b11), .val (.int ((q3 &&& (15 : Int64)).toInt32)), .val (.long j250), .second, .unset, .unset]) rfl ?_
    show Steps p.tables e below (T250.setTop (mkF m 621 #[.val (.long q0), .second, .val (.long q1), .second, .val (.long q2), .second, .val (.long q3), .second, .val (.int p4), .val (.int p5), .val (.int v1), .val (.int v2), .val (.int v4), .val (.int v6), .val (.int v7), .val (.ref b8), .val (.ref b9), .val (.ref b11), .val (.int ((q3 &&& (15 : Int64)).toInt32)), .val (.long j250), .second, .unset, .unset] [])) _
    refine XS.aload X250.here hx rfl (hb hby at_621) rfl rfl ?_
    show Steps p.tables e below (T250.setTop (mkF m 623 #[.val (.long q0), .second, .val (.long q1), .second, .val (.long q2), .second, .val (.long q3), .second, .val (.int p4), .val (.int p5), .val (.int v1), .val (.int v2), .val (.int v4), .val (.int v6), .val (.int v7), .val (.ref b8), .val (.ref b9), .val (.ref b11), .val (.int ((q3 &&& (15 : Int64)).toInt32)), .val (.long j250), .second, .unset, .unset] [(.ref b11)])) _
    refine XS.iload X250.here hx rfl (hb hby at_623) rfl ?_
    show Steps p.tables e below (T250.setTop (mkF m 625 #[.val (.long q0), .second, .val (.long q1), .second, .val (.long q2), .second, .val (.long q3), .second, .val (.int p4), .val (.int p5), .val (.int v1), .val (.int v2), .val (.int v4), .val (.int v6), .val (.int v7), .val (.ref b8), .val (.ref b9), .val (.ref b11), .val (.int ((q3 &&& (15 : Int64)).toInt32)), .val (.long j250), .second, .unset, .unset] [(.int v6), (.ref b11)])) _
    refine XS.iload X250.here hx rfl (hb hby at_625) rfl ?_
    show Steps p.tables e below (T250.setTop (mkF m 627 #[.val (.long q0), .second, .val (.long q1), .second, .val (.long q2), .second, .val (.long q3), .second, .val (.int p4), .val (.int p5), .val (.int v1), .val (.int v2), .val (.int v4), .val (.int v6), .val (.int v7), .val (.ref b8), .val (.ref b9), .val (.ref b11), .val (.int ((q3 &&& (15 : Int64)).toInt32)), .val (.long j250), .second, .unset, .unset] [(.int v7), (.int v6), (.ref b11)])) _
    refine XS.lload X250.here hx rfl (hb hby at_627) rfl ?_
    show Steps p.tables e below (T250.setTop (mkF m 629 #[.val (.long q0), .second, .val (.long q1), .second, .val (.long q2), .second, .val (.long q3), .second, .val (.int p4), .val (.int p5), .val (.int v1), .val (.int v2), .val (.int v4), .val (.int v6), .val (.int v7), .val (.ref b8), .val (.ref b9), .val (.ref b11), .val (.int ((q3 &&& (15 : Int64)).toInt32)), .val (.long j250), .second, .unset, .unset] [(.long j250), (.int v7), (.int v6), (.ref b11)])) _
    refine XS.iload X250.here hx rfl (hb hby at_629) rfl ?_
    show Steps p.tables e below (T250.setTop (mkF m 631 #[.val (.long q0), .second, .val (.long q1), .second, .val (.long q2), .second, .val (.long q3), .second, .val (.int p4), .val (.int p5), .val (.int v1), .val (.int v2), .val (.int v4), .val (.int v6), .val (.int v7), .val (.ref b8), .val (.ref b9), .val (.ref b11), .val (.int ((q3 &&& (15 : Int64)).toInt32)), .val (.long j250), .second, .unset, .unset] [(.int v1), (.long j250), (.int v7), (.int v6), (.ref b11)])) _
    refine st260 _ ?_
    show Steps p.tables e below (T260.setTop (mkF m 634 #[.val (.long q0), .second, .val (.long q1), .second, .val (.long q2), .second, .val (.long q3), .second, .val (.int p4), .val (.int p5), .val (.int v1), .val (.int v2), .val (.int v4), .val (.int v6), .val (.int v7), .val (.ref b8), .val (.ref b9), .val (.ref b11), .val (.int ((q3 &&& (15 : Int64)).toInt32)), .val (.long j250), .second, .unset, .unset] [(.int g260)])) _
    refine XS.istore X260.here hx rfl (hb hby at_634) rfl (l' := #[.val (.long q0), .second, .val (.long q1), .second, .val (.long q2), .second, .val (.long q3), .second, .val (.int p4), .val (.int p5), .val (.int v1), .val (.int v2), .val (.int v4), .val (.int v6), .val (.int v7), .val (.ref b8), .val (.ref b9), .val (.ref b11), .val (.int ((q3 &&& (15 : Int64)).toInt32)), .val (.long j250), .second, .val (.int g260), .unset]) rfl ?_
    show Steps p.tables e below (T260.setTop (mkF m 636 #[.val (.long q0), .second, .val (.long q1), .second, .val (.long q2), .second, .val (.long q3), .second, .val (.int p4), .val (.int p5), .val (.int v1), .val (.int v2), .val (.int v4), .val (.int v6), .val (.int v7), .val (.ref b8), .val (.ref b9), .val (.ref b11), .val (.int ((q3 &&& (15 : Int64)).toInt32)), .val (.long j250), .second, .val (.int g260), .unset] [])) _
    refine XS.aload X260.here hx rfl (hb hby at_636) rfl rfl ?_
    show Steps p.tables e below (T260.setTop (mkF m 638 #[.val (.long q0), .second, .val (.long q1), .second, .val (.long q2), .second, .val (.long q3), .second, .val (.int p4), .val (.int p5), .val (.int v1), .val (.int v2), .val (.int v4), .val (.int v6), .val (.int v7), .val (.ref b8), .val (.ref b9), .val (.ref b11), .val (.int ((q3 &&& (15 : Int64)).toInt32)), .val (.long j250), .second, .val (.int g260), .unset] [(.ref b9)])) _
    refine XS.iconst X260.here hx rfl (hb hby at_638) ?_
    show Steps p.tables e below (T260.setTop (mkF m 639 #[.val (.long q0), .second, .val (.long q1), .second, .val (.long q2), .second, .val (.long q3), .second, .val (.int p4), .val (.int p5), .val (.int v1), .val (.int v2), .val (.int v4), .val (.int v6), .val (.int v7), .val (.ref b8), .val (.ref b9), .val (.ref b11), .val (.int ((q3 &&& (15 : Int64)).toInt32)), .val (.long j250), .second, .val (.int g260), .unset] [(.int (0 : Int32)), (.ref b9)])) _
    refine XS.iload X260.here hx rfl (hb hby at_639) rfl ?_
    show Steps p.tables e below (T260.setTop (mkF m 641 #[.val (.long q0), .second, .val (.long q1), .second, .val (.long q2), .second, .val (.long q3), .second, .val (.int p4), .val (.int p5), .val (.int v1), .val (.int v2), .val (.int v4), .val (.int v6), .val (.int v7), .val (.ref b8), .val (.ref b9), .val (.ref b11), .val (.int ((q3 &&& (15 : Int64)).toInt32)), .val (.long j250), .second, .val (.int g260), .unset] [(.int v6), (.int (0 : Int32)), (.ref b9)])) _
    refine XS.iload X260.here hx rfl (hb hby at_641) rfl ?_
    show Steps p.tables e below (T260.setTop (mkF m 643 #[.val (.long q0), .second, .val (.long q1), .second, .val (.long q2), .second, .val (.long q3), .second, .val (.int p4), .val (.int p5), .val (.int v1), .val (.int v2), .val (.int v4), .val (.int v6), .val (.int v7), .val (.ref b8), .val (.ref b9), .val (.ref b11), .val (.int ((q3 &&& (15 : Int64)).toInt32)), .val (.long j250), .second, .val (.int g260), .unset] [(.int v7), (.int v6), (.int (0 : Int32)), (.ref b9)])) _
    refine XS.lload X260.here hx rfl (hb hby at_643) rfl ?_
    exact kk)
  obtain ⟨Lg264, X264, N264⟩ : ∃ L' : List Loc, Stand p l e room_1 s m #[(.long q0), (.long q1), (.long q2), (.long q3), (.int p4), (.int p5)] below meth c T260 L' 3 48 ∧ Fr n0 L' := ⟨_, X260, N260⟩
  (try clear Wu243); (try clear Wi243); (try clear pre244); (try clear Zz245); (try clear Av246); (try clear X247); (try clear N247); (try clear X248); (try clear st248); (try clear N248q); (try clear K248); (try clear Vu248); (try clear Vi248); (try clear N248); (try clear pre249); (try clear X250); (try clear e250); (try clear N250); (try clear pre250); (try clear Ar253); (try clear S253); (try clear H253); (try clear hin253); (try clear hat253); (try clear pre255); (try clear Zz256); (try clear Av257); (try clear X258); (try clear N258); (try clear X259); (try clear st259); (try clear N259q); (try clear e259); (try clear N259); (try clear X260); (try clear st260); (try clear g260); (try clear N260q); (try clear N260)
  obtain ⟨_, _, ⟨T265, L265, k265, n265⟩, -, X265, ⟨Lc265, hQ265, l265, y265, z265⟩, st265⟩ := Jvm.LawKit.callS X264 hx (y := (⟨"com/example/copyleaf/copyleaf/page/PageFirstAtLeastPinLaw", "b", "([JIIIJ)I"⟩ : MethodName)) hown (mvT hZ (hw _ (List.mem_of_getElem? (i := 16) rfl))) (mvT hZ (hw _ (List.mem_of_getElem? (i := 17) rfl))) (mvT hZ (hw _ (List.mem_of_getElem? (i := 5) rfl))) (mvT hZ (hw _ (List.mem_of_getElem? (i := 18) rfl))) (by decide) (backOf (W := 0) (rm4 l Z a0 hw [] b9 (0 : Int32) v6 v7 j250 k9 [(.long u_0), (.long u_1), (.long u_2), (.long u_3), (.long u_4), (.long u_5), (.long u_6), (.long u_7), (.long u_8), (.long u_9), (.long u_10), (.long u_11), (.long u_12), (.long u_13), (.long u_14), (.long u_15)] u_0 T248.heap n0 Zz262 Wu248 ⟨by decide, by decide⟩ rfl) hZ (hw _ (List.mem_of_getElem? (i := 18) rfl)) (hw _ (List.mem_of_getElem? (i := 5) rfl)) (by decide) (by decide)) (g := (mkF m 645 #[.val (.long q0), .second, .val (.long q1), .second, .val (.long q2), .second, .val (.long q3), .second, .val (.int p4), .val (.int p5), .val (.int v1), .val (.int v2), .val (.int v4), .val (.int v6), .val (.int v7), .val (.ref b8), .val (.ref b9), .val (.ref b11), .val (.int ((q3 &&& (15 : Int64)).toInt32)), .val (.long j250), .second, .val (.int g260), .unset] [(.long j250), (.int v7), (.int v6), (.int (0 : Int32)), (.ref b9)])) rfl (by rw [hml]; rfl) (argsL := [(.ref b9), (.int (0 : Int32)), (.int v6), (.int v7), (.long j250)]) (rest := []) (lenOf pd__28_5bJIIIJ_29I rfl) rfl (by show 2 * 0 + _ ≤ _; exact Nat.le_of_eq rfl) (hb hby at_645) (fun _ _ => ⟨rfl, e260, (by decide : 3 + 0 ≤ _), (by decide : 48 + 0 ≤ _)⟩)
  dsimp only [Pt.U, Pt.locs, Pt.cells, Pt.slots] at X265 l265 y265 z265 st265 hQ265
  subst l265 y265 z265
  obtain ⟨rfl, N265q, e265⟩ := hQ265
  have N265 := Fr.app N264 N265q
  obtain ⟨v266, ev266⟩ : ∃ z : Int32, z = (bF (0 : Int32) v6 v7 j250 u_0) := ⟨_, rfl⟩
  have pre267 : ∀ t, Steps p.tables e below (T265.setTop (mkF m 657 #[.val (.long q0), .second, .val (.long q1), .second, .val (.long q2), .second, .val (.long q3), .second, .val (.int p4), .val (.int p5), .val (.int v1), .val (.int v2), .val (.int v4), .val (.int v6), .val (.int v7), .val (.ref b8), .val (.ref b9), .val (.ref b11), .val (.int ((q3 &&& (15 : Int64)).toInt32)), .val (.long j250), .second, .val (.int g260), .unset] [(.long j250), (.int v7), (.int v6), (.int (1 : Int32)), (.ref b9), (.int v266)])) t → Steps p.tables e below (s₁.setTop (entryFrame m #[(.long q0), (.long q1), (.long q2), (.long q3), (.int p4), (.int p5)] maxLocals)) t := fun t kk => pre263 t (by
    show Steps p.tables e below (T260.setTop (mkF m 645 #[.val (.long q0), .second, .val (.long q1), .second, .val (.long q2), .second, .val (.long q3), .second, .val (.int p4), .val (.int p5), .val (.int v1), .val (.int v2), .val (.int v4), .val (.int v6), .val (.int v7), .val (.ref b8), .val (.ref b9), .val (.ref b11), .val (.int ((q3 &&& (15 : Int64)).toInt32)), .val (.long j250), .second, .val (.int g260), .unset] [(.long j250), (.int v7), (.int v6), (.int (0 : Int32)), (.ref b9)])) _
    refine st265 _ ?_
    show Steps p.tables e below (T265.setTop (mkF m 648 #[.val (.long q0), .second, .val (.long q1), .second, .val (.long q2), .second, .val (.long q3), .second, .val (.int p4), .val (.int p5), .val (.int v1), .val (.int v2), .val (.int v4), .val (.int v6), .val (.int v7), .val (.ref b8), .val (.ref b9), .val (.ref b11), .val (.int ((q3 &&& (15 : Int64)).toInt32)), .val (.long j250), .second, .val (.int g260), .unset] [(.int (bF (0 : Int32) v6 v7 j250 u_0))])) _
    rw [← ev266]
    show Steps p.tables e below (T265.setTop (mkF m 648 #[.val (.long q0), .second, .val (.long q1), .second, .val (.long q2), .second, .val (.long q3), .second, .val (.int p4), .val (.int p5), .val (.int v1), .val (.int v2), .val (.int v4), .val (.int v6), .val (.int v7), .val (.ref b8), .val (.ref b9), .val (.ref b11), .val (.int ((q3 &&& (15 : Int64)).toInt32)), .val (.long j250), .second, .val (.int g260), .unset] [(.int v266)])) _
    refine XS.aload X265.here hx rfl (hb hby at_648) rfl rfl ?_
    show Steps p.tables e below (T265.setTop (mkF m 650 #[.val (.long q0), .second, .val (.long q1), .second, .val (.long q2), .second, .val (.long q3), .second, .val (.int p4), .val (.int p5), .val (.int v1), .val (.int v2), .val (.int v4), .val (.int v6), .val (.int v7), .val (.ref b8), .val (.ref b9), .val (.ref b11), .val (.int ((q3 &&& (15 : Int64)).toInt32)), .val (.long j250), .second, .val (.int g260), .unset] [(.ref b9), (.int v266)])) _
    refine XS.iconst X265.here hx rfl (hb hby at_650) ?_
    show Steps p.tables e below (T265.setTop (mkF m 651 #[.val (.long q0), .second, .val (.long q1), .second, .val (.long q2), .second, .val (.long q3), .second, .val (.int p4), .val (.int p5), .val (.int v1), .val (.int v2), .val (.int v4), .val (.int v6), .val (.int v7), .val (.ref b8), .val (.ref b9), .val (.ref b11), .val (.int ((q3 &&& (15 : Int64)).toInt32)), .val (.long j250), .second, .val (.int g260), .unset] [(.int (1 : Int32)), (.ref b9), (.int v266)])) _
    refine XS.iload X265.here hx rfl (hb hby at_651) rfl ?_
    show Steps p.tables e below (T265.setTop (mkF m 653 #[.val (.long q0), .second, .val (.long q1), .second, .val (.long q2), .second, .val (.long q3), .second, .val (.int p4), .val (.int p5), .val (.int v1), .val (.int v2), .val (.int v4), .val (.int v6), .val (.int v7), .val (.ref b8), .val (.ref b9), .val (.ref b11), .val (.int ((q3 &&& (15 : Int64)).toInt32)), .val (.long j250), .second, .val (.int g260), .unset] [(.int v6), (.int (1 : Int32)), (.ref b9), (.int v266)])) _
    refine XS.iload X265.here hx rfl (hb hby at_653) rfl ?_
    show Steps p.tables e below (T265.setTop (mkF m 655 #[.val (.long q0), .second, .val (.long q1), .second, .val (.long q2), .second, .val (.long q3), .second, .val (.int p4), .val (.int p5), .val (.int v1), .val (.int v2), .val (.int v4), .val (.int v6), .val (.int v7), .val (.ref b8), .val (.ref b9), .val (.ref b11), .val (.int ((q3 &&& (15 : Int64)).toInt32)), .val (.long j250), .second, .val (.int g260), .unset] [(.int v7), (.int v6), (.int (1 : Int32)), (.ref b9), (.int v266)])) _
    refine XS.lload X265.here hx rfl (hb hby at_655) rfl ?_
    exact kk)
  obtain ⟨Lg268, X268, N268⟩ : ∃ L' : List Loc, Stand p l e room_1 s m #[(.long q0), (.long q1), (.long q2), (.long q3), (.int p4), (.int p5)] below meth c T265 L' 3 48 ∧ Fr n0 L' := ⟨_, X265, N265⟩
  (try clear e260); (try clear pre263); (try clear X264); (try clear N264); (try clear X265); (try clear st265); (try clear N265q); (try clear N265)
  obtain ⟨_, _, ⟨T269, L269, k269, n269⟩, -, X269, ⟨Lc269, hQ269, l269, y269, z269⟩, st269⟩ := Jvm.LawKit.callS X268 hx (y := (⟨"com/example/copyleaf/copyleaf/page/PageFirstAtLeastPinLaw", "b", "([JIIIJ)I"⟩ : MethodName)) hown (mvT hZ (hw _ (List.mem_of_getElem? (i := 16) rfl))) (mvT hZ (hw _ (List.mem_of_getElem? (i := 17) rfl))) (mvT hZ (hw _ (List.mem_of_getElem? (i := 5) rfl))) (mvT hZ (hw _ (List.mem_of_getElem? (i := 18) rfl))) (by decide) (backOf (W := 1) (rm4 l Z a0 hw [] b9 (1 : Int32) v6 v7 j250 k9 [(.long u_0), (.long u_1), (.long u_2), (.long u_3), (.long u_4), (.long u_5), (.long u_6), (.long u_7), (.long u_8), (.long u_9), (.long u_10), (.long u_11), (.long u_12), (.long u_13), (.long u_14), (.long u_15)] u_1 T248.heap n0 Zz262 Wu248 ⟨by decide, by decide⟩ rfl) hZ (hw _ (List.mem_of_getElem? (i := 18) rfl)) (hw _ (List.mem_of_getElem? (i := 5) rfl)) (by decide) (by decide)) (g := (mkF m 657 #[.val (.long q0), .second, .val (.long q1), .second, .val (.long q2), .second, .val (.long q3), .second, .val (.int p4), .val (.int p5), .val (.int v1), .val (.int v2), .val (.int v4), .val (.int v6), .val (.int v7), .val (.ref b8), .val (.ref b9), .val (.ref b11), .val (.int ((q3 &&& (15 : Int64)).toInt32)), .val (.long j250), .second, .val (.int g260), .unset] [(.long j250), (.int v7), (.int v6), (.int (1 : Int32)), (.ref b9), (.int v266)])) rfl (by rw [hml]; rfl) (argsL := [(.ref b9), (.int (1 : Int32)), (.int v6), (.int v7), (.long j250)]) (rest := [(.int v266)]) (lenOf pd__28_5bJIIIJ_29I rfl) rfl (by show 2 * 0 + _ ≤ _; exact Nat.le_of_eq rfl) (hb hby at_657) (fun _ _ => ⟨rfl, e265, (by decide : 3 + 0 ≤ _), (by decide : 48 + 0 ≤ _)⟩)
  dsimp only [Pt.U, Pt.locs, Pt.cells, Pt.slots] at X269 l269 y269 z269 st269 hQ269
  subst l269 y269 z269
  obtain ⟨rfl, N269q, e269⟩ := hQ269
  have N269 := Fr.app N268 N269q
  obtain ⟨v270, ev270⟩ : ∃ z : Int32, z = (bF (1 : Int32) v6 v7 j250 u_1) := ⟨_, rfl⟩
  have pre271 : ∀ t, Steps p.tables e below (T269.setTop (mkF m 670 #[.val (.long q0), .second, .val (.long q1), .second, .val (.long q2), .second, .val (.long q3), .second, .val (.int p4), .val (.int p5), .val (.int v1), .val (.int v2), .val (.int v4), .val (.int v6), .val (.int v7), .val (.ref b8), .val (.ref b9), .val (.ref b11), .val (.int ((q3 &&& (15 : Int64)).toInt32)), .val (.long j250), .second, .val (.int g260), .unset] [(.long j250), (.int v7), (.int v6), (.int (2 : Int32)), (.ref b9), (.int (v266 + v270))])) t → Steps p.tables e below (s₁.setTop (entryFrame m #[(.long q0), (.long q1), (.long q2), (.long q3), (.int p4), (.int p5)] maxLocals)) t := fun t kk => pre267 t (by
    show Steps p.tables e below (T265.setTop (mkF m 657 #[.val (.long q0), .second, .val (.long q1), .second, .val (.long q2), .second, .val (.long q3), .second, .val (.int p4), .val (.int p5), .val (.int v1), .val (.int v2), .val (.int v4), .val (.int v6), .val (.int v7), .val (.ref b8), .val (.ref b9), .val (.ref b11), .val (.int ((q3 &&& (15 : Int64)).toInt32)), .val (.long j250), .second, .val (.int g260), .unset] [(.long j250), (.int v7), (.int v6), (.int (1 : Int32)), (.ref b9), (.int v266)])) _
    refine st269 _ ?_
    show Steps p.tables e below (T269.setTop (mkF m 660 #[.val (.long q0), .second, .val (.long q1), .second, .val (.long q2), .second, .val (.long q3), .second, .val (.int p4), .val (.int p5), .val (.int v1), .val (.int v2), .val (.int v4), .val (.int v6), .val (.int v7), .val (.ref b8), .val (.ref b9), .val (.ref b11), .val (.int ((q3 &&& (15 : Int64)).toInt32)), .val (.long j250), .second, .val (.int g260), .unset] [(.int (bF (1 : Int32) v6 v7 j250 u_1)), (.int v266)])) _
    rw [← ev270]
    show Steps p.tables e below (T269.setTop (mkF m 660 #[.val (.long q0), .second, .val (.long q1), .second, .val (.long q2), .second, .val (.long q3), .second, .val (.int p4), .val (.int p5), .val (.int v1), .val (.int v2), .val (.int v4), .val (.int v6), .val (.int v7), .val (.ref b8), .val (.ref b9), .val (.ref b11), .val (.int ((q3 &&& (15 : Int64)).toInt32)), .val (.long j250), .second, .val (.int g260), .unset] [(.int v270), (.int v266)])) _
    refine XS.iadd X269.here hx rfl (hb hby at_660) rfl ?_
    show Steps p.tables e below (T269.setTop (mkF m 661 #[.val (.long q0), .second, .val (.long q1), .second, .val (.long q2), .second, .val (.long q3), .second, .val (.int p4), .val (.int p5), .val (.int v1), .val (.int v2), .val (.int v4), .val (.int v6), .val (.int v7), .val (.ref b8), .val (.ref b9), .val (.ref b11), .val (.int ((q3 &&& (15 : Int64)).toInt32)), .val (.long j250), .second, .val (.int g260), .unset] [(.int (v266 + v270))])) _
    refine XS.aload X269.here hx rfl (hb hby at_661) rfl rfl ?_
    show Steps p.tables e below (T269.setTop (mkF m 663 #[.val (.long q0), .second, .val (.long q1), .second, .val (.long q2), .second, .val (.long q3), .second, .val (.int p4), .val (.int p5), .val (.int v1), .val (.int v2), .val (.int v4), .val (.int v6), .val (.int v7), .val (.ref b8), .val (.ref b9), .val (.ref b11), .val (.int ((q3 &&& (15 : Int64)).toInt32)), .val (.long j250), .second, .val (.int g260), .unset] [(.ref b9), (.int (v266 + v270))])) _
    refine XS.iconst X269.here hx rfl (hb hby at_663) ?_
    show Steps p.tables e below (T269.setTop (mkF m 664 #[.val (.long q0), .second, .val (.long q1), .second, .val (.long q2), .second, .val (.long q3), .second, .val (.int p4), .val (.int p5), .val (.int v1), .val (.int v2), .val (.int v4), .val (.int v6), .val (.int v7), .val (.ref b8), .val (.ref b9), .val (.ref b11), .val (.int ((q3 &&& (15 : Int64)).toInt32)), .val (.long j250), .second, .val (.int g260), .unset] [(.int (2 : Int32)), (.ref b9), (.int (v266 + v270))])) _
    refine XS.iload X269.here hx rfl (hb hby at_664) rfl ?_
    show Steps p.tables e below (T269.setTop (mkF m 666 #[.val (.long q0), .second, .val (.long q1), .second, .val (.long q2), .second, .val (.long q3), .second, .val (.int p4), .val (.int p5), .val (.int v1), .val (.int v2), .val (.int v4), .val (.int v6), .val (.int v7), .val (.ref b8), .val (.ref b9), .val (.ref b11), .val (.int ((q3 &&& (15 : Int64)).toInt32)), .val (.long j250), .second, .val (.int g260), .unset] [(.int v6), (.int (2 : Int32)), (.ref b9), (.int (v266 + v270))])) _
    refine XS.iload X269.here hx rfl (hb hby at_666) rfl ?_
    show Steps p.tables e below (T269.setTop (mkF m 668 #[.val (.long q0), .second, .val (.long q1), .second, .val (.long q2), .second, .val (.long q3), .second, .val (.int p4), .val (.int p5), .val (.int v1), .val (.int v2), .val (.int v4), .val (.int v6), .val (.int v7), .val (.ref b8), .val (.ref b9), .val (.ref b11), .val (.int ((q3 &&& (15 : Int64)).toInt32)), .val (.long j250), .second, .val (.int g260), .unset] [(.int v7), (.int v6), (.int (2 : Int32)), (.ref b9), (.int (v266 + v270))])) _
    refine XS.lload X269.here hx rfl (hb hby at_668) rfl ?_
    exact kk)
  obtain ⟨Lg272, X272, N272⟩ : ∃ L' : List Loc, Stand p l e room_1 s m #[(.long q0), (.long q1), (.long q2), (.long q3), (.int p4), (.int p5)] below meth c T269 L' 3 48 ∧ Fr n0 L' := ⟨_, X269, N269⟩
  (try clear e265); (try clear pre267); (try clear X268); (try clear N268); (try clear X269); (try clear st269); (try clear N269q); (try clear N269)
  obtain ⟨_, _, ⟨T273, L273, k273, n273⟩, -, X273, ⟨Lc273, hQ273, l273, y273, z273⟩, st273⟩ := Jvm.LawKit.callS X272 hx (y := (⟨"com/example/copyleaf/copyleaf/page/PageFirstAtLeastPinLaw", "b", "([JIIIJ)I"⟩ : MethodName)) hown (mvT hZ (hw _ (List.mem_of_getElem? (i := 16) rfl))) (mvT hZ (hw _ (List.mem_of_getElem? (i := 17) rfl))) (mvT hZ (hw _ (List.mem_of_getElem? (i := 5) rfl))) (mvT hZ (hw _ (List.mem_of_getElem? (i := 18) rfl))) (by decide) (backOf (W := 1) (rm4 l Z a0 hw [] b9 (2 : Int32) v6 v7 j250 k9 [(.long u_0), (.long u_1), (.long u_2), (.long u_3), (.long u_4), (.long u_5), (.long u_6), (.long u_7), (.long u_8), (.long u_9), (.long u_10), (.long u_11), (.long u_12), (.long u_13), (.long u_14), (.long u_15)] u_2 T248.heap n0 Zz262 Wu248 ⟨by decide, by decide⟩ rfl) hZ (hw _ (List.mem_of_getElem? (i := 18) rfl)) (hw _ (List.mem_of_getElem? (i := 5) rfl)) (by decide) (by decide)) (g := (mkF m 670 #[.val (.long q0), .second, .val (.long q1), .second, .val (.long q2), .second, .val (.long q3), .second, .val (.int p4), .val (.int p5), .val (.int v1), .val (.int v2), .val (.int v4), .val (.int v6), .val (.int v7), .val (.ref b8), .val (.ref b9), .val (.ref b11), .val (.int ((q3 &&& (15 : Int64)).toInt32)), .val (.long j250), .second, .val (.int g260), .unset] [(.long j250), (.int v7), (.int v6), (.int (2 : Int32)), (.ref b9), (.int (v266 + v270))])) rfl (by rw [hml]; rfl) (argsL := [(.ref b9), (.int (2 : Int32)), (.int v6), (.int v7), (.long j250)]) (rest := [(.int (v266 + v270))]) (lenOf pd__28_5bJIIIJ_29I rfl) rfl (by show 2 * 0 + _ ≤ _; exact Nat.le_of_eq rfl) (hb hby at_670) (fun _ _ => ⟨rfl, e269, (by decide : 3 + 0 ≤ _), (by decide : 48 + 0 ≤ _)⟩)
  dsimp only [Pt.U, Pt.locs, Pt.cells, Pt.slots] at X273 l273 y273 z273 st273 hQ273
  subst l273 y273 z273
  obtain ⟨rfl, N273q, e273⟩ := hQ273
  have N273 := Fr.app N272 N273q
  obtain ⟨v274, ev274⟩ : ∃ z : Int32, z = (bF (2 : Int32) v6 v7 j250 u_2) := ⟨_, rfl⟩
  have pre275 : ∀ t, Steps p.tables e below (T273.setTop (mkF m 683 #[.val (.long q0), .second, .val (.long q1), .second, .val (.long q2), .second, .val (.long q3), .second, .val (.int p4), .val (.int p5), .val (.int v1), .val (.int v2), .val (.int v4), .val (.int v6), .val (.int v7), .val (.ref b8), .val (.ref b9), .val (.ref b11), .val (.int ((q3 &&& (15 : Int64)).toInt32)), .val (.long j250), .second, .val (.int g260), .unset] [(.long j250), (.int v7), (.int v6), (.int (3 : Int32)), (.ref b9), (.int ((v266 + v270) + v274))])) t → Steps p.tables e below (s₁.setTop (entryFrame m #[(.long q0), (.long q1), (.long q2), (.long q3), (.int p4), (.int p5)] maxLocals)) t := fun t kk => pre271 t (by
    show Steps p.tables e below (T269.setTop (mkF m 670 #[.val (.long q0), .second, .val (.long q1), .second, .val (.long q2), .second, .val (.long q3), .second, .val (.int p4), .val (.int p5), .val (.int v1), .val (.int v2), .val (.int v4), .val (.int v6), .val (.int v7), .val (.ref b8), .val (.ref b9), .val (.ref b11), .val (.int ((q3 &&& (15 : Int64)).toInt32)), .val (.long j250), .second, .val (.int g260), .unset] [(.long j250), (.int v7), (.int v6), (.int (2 : Int32)), (.ref b9), (.int (v266 + v270))])) _
    refine st273 _ ?_
    show Steps p.tables e below (T273.setTop (mkF m 673 #[.val (.long q0), .second, .val (.long q1), .second, .val (.long q2), .second, .val (.long q3), .second, .val (.int p4), .val (.int p5), .val (.int v1), .val (.int v2), .val (.int v4), .val (.int v6), .val (.int v7), .val (.ref b8), .val (.ref b9), .val (.ref b11), .val (.int ((q3 &&& (15 : Int64)).toInt32)), .val (.long j250), .second, .val (.int g260), .unset] [(.int (bF (2 : Int32) v6 v7 j250 u_2)), (.int (v266 + v270))])) _
    rw [← ev274]
    show Steps p.tables e below (T273.setTop (mkF m 673 #[.val (.long q0), .second, .val (.long q1), .second, .val (.long q2), .second, .val (.long q3), .second, .val (.int p4), .val (.int p5), .val (.int v1), .val (.int v2), .val (.int v4), .val (.int v6), .val (.int v7), .val (.ref b8), .val (.ref b9), .val (.ref b11), .val (.int ((q3 &&& (15 : Int64)).toInt32)), .val (.long j250), .second, .val (.int g260), .unset] [(.int v274), (.int (v266 + v270))])) _
    refine XS.iadd X273.here hx rfl (hb hby at_673) rfl ?_
    show Steps p.tables e below (T273.setTop (mkF m 674 #[.val (.long q0), .second, .val (.long q1), .second, .val (.long q2), .second, .val (.long q3), .second, .val (.int p4), .val (.int p5), .val (.int v1), .val (.int v2), .val (.int v4), .val (.int v6), .val (.int v7), .val (.ref b8), .val (.ref b9), .val (.ref b11), .val (.int ((q3 &&& (15 : Int64)).toInt32)), .val (.long j250), .second, .val (.int g260), .unset] [(.int ((v266 + v270) + v274))])) _
    refine XS.aload X273.here hx rfl (hb hby at_674) rfl rfl ?_
    show Steps p.tables e below (T273.setTop (mkF m 676 #[.val (.long q0), .second, .val (.long q1), .second, .val (.long q2), .second, .val (.long q3), .second, .val (.int p4), .val (.int p5), .val (.int v1), .val (.int v2), .val (.int v4), .val (.int v6), .val (.int v7), .val (.ref b8), .val (.ref b9), .val (.ref b11), .val (.int ((q3 &&& (15 : Int64)).toInt32)), .val (.long j250), .second, .val (.int g260), .unset] [(.ref b9), (.int ((v266 + v270) + v274))])) _
    refine XS.iconst X273.here hx rfl (hb hby at_676) ?_
    show Steps p.tables e below (T273.setTop (mkF m 677 #[.val (.long q0), .second, .val (.long q1), .second, .val (.long q2), .second, .val (.long q3), .second, .val (.int p4), .val (.int p5), .val (.int v1), .val (.int v2), .val (.int v4), .val (.int v6), .val (.int v7), .val (.ref b8), .val (.ref b9), .val (.ref b11), .val (.int ((q3 &&& (15 : Int64)).toInt32)), .val (.long j250), .second, .val (.int g260), .unset] [(.int (3 : Int32)), (.ref b9), (.int ((v266 + v270) + v274))])) _
    refine XS.iload X273.here hx rfl (hb hby at_677) rfl ?_
    show Steps p.tables e below (T273.setTop (mkF m 679 #[.val (.long q0), .second, .val (.long q1), .second, .val (.long q2), .second, .val (.long q3), .second, .val (.int p4), .val (.int p5), .val (.int v1), .val (.int v2), .val (.int v4), .val (.int v6), .val (.int v7), .val (.ref b8), .val (.ref b9), .val (.ref b11), .val (.int ((q3 &&& (15 : Int64)).toInt32)), .val (.long j250), .second, .val (.int g260), .unset] [(.int v6), (.int (3 : Int32)), (.ref b9), (.int ((v266 + v270) + v274))])) _
    refine XS.iload X273.here hx rfl (hb hby at_679) rfl ?_
    show Steps p.tables e below (T273.setTop (mkF m 681 #[.val (.long q0), .second, .val (.long q1), .second, .val (.long q2), .second, .val (.long q3), .second, .val (.int p4), .val (.int p5), .val (.int v1), .val (.int v2), .val (.int v4), .val (.int v6), .val (.int v7), .val (.ref b8), .val (.ref b9), .val (.ref b11), .val (.int ((q3 &&& (15 : Int64)).toInt32)), .val (.long j250), .second, .val (.int g260), .unset] [(.int v7), (.int v6), (.int (3 : Int32)), (.ref b9), (.int ((v266 + v270) + v274))])) _
    refine XS.lload X273.here hx rfl (hb hby at_681) rfl ?_
    exact kk)
  obtain ⟨Lg276, X276, N276⟩ : ∃ L' : List Loc, Stand p l e room_1 s m #[(.long q0), (.long q1), (.long q2), (.long q3), (.int p4), (.int p5)] below meth c T273 L' 3 48 ∧ Fr n0 L' := ⟨_, X273, N273⟩
  (try clear e269); (try clear pre271); (try clear X272); (try clear N272); (try clear X273); (try clear st273); (try clear N273q); (try clear N273)
  obtain ⟨_, _, ⟨T277, L277, k277, n277⟩, -, X277, ⟨Lc277, hQ277, l277, y277, z277⟩, st277⟩ := Jvm.LawKit.callS X276 hx (y := (⟨"com/example/copyleaf/copyleaf/page/PageFirstAtLeastPinLaw", "b", "([JIIIJ)I"⟩ : MethodName)) hown (mvT hZ (hw _ (List.mem_of_getElem? (i := 16) rfl))) (mvT hZ (hw _ (List.mem_of_getElem? (i := 17) rfl))) (mvT hZ (hw _ (List.mem_of_getElem? (i := 5) rfl))) (mvT hZ (hw _ (List.mem_of_getElem? (i := 18) rfl))) (by decide) (backOf (W := 1) (rm4 l Z a0 hw [] b9 (3 : Int32) v6 v7 j250 k9 [(.long u_0), (.long u_1), (.long u_2), (.long u_3), (.long u_4), (.long u_5), (.long u_6), (.long u_7), (.long u_8), (.long u_9), (.long u_10), (.long u_11), (.long u_12), (.long u_13), (.long u_14), (.long u_15)] u_3 T248.heap n0 Zz262 Wu248 ⟨by decide, by decide⟩ rfl) hZ (hw _ (List.mem_of_getElem? (i := 18) rfl)) (hw _ (List.mem_of_getElem? (i := 5) rfl)) (by decide) (by decide)) (g := (mkF m 683 #[.val (.long q0), .second, .val (.long q1), .second, .val (.long q2), .second, .val (.long q3), .second, .val (.int p4), .val (.int p5), .val (.int v1), .val (.int v2), .val (.int v4), .val (.int v6), .val (.int v7), .val (.ref b8), .val (.ref b9), .val (.ref b11), .val (.int ((q3 &&& (15 : Int64)).toInt32)), .val (.long j250), .second, .val (.int g260), .unset] [(.long j250), (.int v7), (.int v6), (.int (3 : Int32)), (.ref b9), (.int ((v266 + v270) + v274))])) rfl (by rw [hml]; rfl) (argsL := [(.ref b9), (.int (3 : Int32)), (.int v6), (.int v7), (.long j250)]) (rest := [(.int ((v266 + v270) + v274))]) (lenOf pd__28_5bJIIIJ_29I rfl) rfl (by show 2 * 0 + _ ≤ _; exact Nat.le_of_eq rfl) (hb hby at_683) (fun _ _ => ⟨rfl, e273, (by decide : 3 + 0 ≤ _), (by decide : 48 + 0 ≤ _)⟩)
  dsimp only [Pt.U, Pt.locs, Pt.cells, Pt.slots] at X277 l277 y277 z277 st277 hQ277
  subst l277 y277 z277
  obtain ⟨rfl, N277q, e277⟩ := hQ277
  have N277 := Fr.app N276 N277q
  obtain ⟨v278, ev278⟩ : ∃ z : Int32, z = (bF (3 : Int32) v6 v7 j250 u_3) := ⟨_, rfl⟩
  have pre279 : ∀ t, Steps p.tables e below (T277.setTop (mkF m 696 #[.val (.long q0), .second, .val (.long q1), .second, .val (.long q2), .second, .val (.long q3), .second, .val (.int p4), .val (.int p5), .val (.int v1), .val (.int v2), .val (.int v4), .val (.int v6), .val (.int v7), .val (.ref b8), .val (.ref b9), .val (.ref b11), .val (.int ((q3 &&& (15 : Int64)).toInt32)), .val (.long j250), .second, .val (.int g260), .unset] [(.long j250), (.int v7), (.int v6), (.int (4 : Int32)), (.ref b9), (.int (((v266 + v270) + v274) + v278))])) t → Steps p.tables e below (s₁.setTop (entryFrame m #[(.long q0), (.long q1), (.long q2), (.long q3), (.int p4), (.int p5)] maxLocals)) t := fun t kk => pre275 t (by
    show Steps p.tables e below (T273.setTop (mkF m 683 #[.val (.long q0), .second, .val (.long q1), .second, .val (.long q2), .second, .val (.long q3), .second, .val (.int p4), .val (.int p5), .val (.int v1), .val (.int v2), .val (.int v4), .val (.int v6), .val (.int v7), .val (.ref b8), .val (.ref b9), .val (.ref b11), .val (.int ((q3 &&& (15 : Int64)).toInt32)), .val (.long j250), .second, .val (.int g260), .unset] [(.long j250), (.int v7), (.int v6), (.int (3 : Int32)), (.ref b9), (.int ((v266 + v270) + v274))])) _
    refine st277 _ ?_
    show Steps p.tables e below (T277.setTop (mkF m 686 #[.val (.long q0), .second, .val (.long q1), .second, .val (.long q2), .second, .val (.long q3), .second, .val (.int p4), .val (.int p5), .val (.int v1), .val (.int v2), .val (.int v4), .val (.int v6), .val (.int v7), .val (.ref b8), .val (.ref b9), .val (.ref b11), .val (.int ((q3 &&& (15 : Int64)).toInt32)), .val (.long j250), .second, .val (.int g260), .unset] [(.int (bF (3 : Int32) v6 v7 j250 u_3)), (.int ((v266 + v270) + v274))])) _
    rw [← ev278]
    show Steps p.tables e below (T277.setTop (mkF m 686 #[.val (.long q0), .second, .val (.long q1), .second, .val (.long q2), .second, .val (.long q3), .second, .val (.int p4), .val (.int p5), .val (.int v1), .val (.int v2), .val (.int v4), .val (.int v6), .val (.int v7), .val (.ref b8), .val (.ref b9), .val (.ref b11), .val (.int ((q3 &&& (15 : Int64)).toInt32)), .val (.long j250), .second, .val (.int g260), .unset] [(.int v278), (.int ((v266 + v270) + v274))])) _
    refine XS.iadd X277.here hx rfl (hb hby at_686) rfl ?_
    show Steps p.tables e below (T277.setTop (mkF m 687 #[.val (.long q0), .second, .val (.long q1), .second, .val (.long q2), .second, .val (.long q3), .second, .val (.int p4), .val (.int p5), .val (.int v1), .val (.int v2), .val (.int v4), .val (.int v6), .val (.int v7), .val (.ref b8), .val (.ref b9), .val (.ref b11), .val (.int ((q3 &&& (15 : Int64)).toInt32)), .val (.long j250), .second, .val (.int g260), .unset] [(.int (((v266 + v270) + v274) + v278))])) _
    refine XS.aload X277.here hx rfl (hb hby at_687) rfl rfl ?_
    show Steps p.tables e below (T277.setTop (mkF m 689 #[.val (.long q0), .second, .val (.long q1), .second, .val (.long q2), .second, .val (.long q3), .second, .val (.int p4), .val (.int p5), .val (.int v1), .val (.int v2), .val (.int v4), .val (.int v6), .val (.int v7), .val (.ref b8), .val (.ref b9), .val (.ref b11), .val (.int ((q3 &&& (15 : Int64)).toInt32)), .val (.long j250), .second, .val (.int g260), .unset] [(.ref b9), (.int (((v266 + v270) + v274) + v278))])) _
    refine XS.iconst X277.here hx rfl (hb hby at_689) ?_
    show Steps p.tables e below (T277.setTop (mkF m 690 #[.val (.long q0), .second, .val (.long q1), .second, .val (.long q2), .second, .val (.long q3), .second, .val (.int p4), .val (.int p5), .val (.int v1), .val (.int v2), .val (.int v4), .val (.int v6), .val (.int v7), .val (.ref b8), .val (.ref b9), .val (.ref b11), .val (.int ((q3 &&& (15 : Int64)).toInt32)), .val (.long j250), .second, .val (.int g260), .unset] [(.int (4 : Int32)), (.ref b9), (.int (((v266 + v270) + v274) + v278))])) _
    refine XS.iload X277.here hx rfl (hb hby at_690) rfl ?_
    show Steps p.tables e below (T277.setTop (mkF m 692 #[.val (.long q0), .second, .val (.long q1), .second, .val (.long q2), .second, .val (.long q3), .second, .val (.int p4), .val (.int p5), .val (.int v1), .val (.int v2), .val (.int v4), .val (.int v6), .val (.int v7), .val (.ref b8), .val (.ref b9), .val (.ref b11), .val (.int ((q3 &&& (15 : Int64)).toInt32)), .val (.long j250), .second, .val (.int g260), .unset] [(.int v6), (.int (4 : Int32)), (.ref b9), (.int (((v266 + v270) + v274) + v278))])) _
    refine XS.iload X277.here hx rfl (hb hby at_692) rfl ?_
    show Steps p.tables e below (T277.setTop (mkF m 694 #[.val (.long q0), .second, .val (.long q1), .second, .val (.long q2), .second, .val (.long q3), .second, .val (.int p4), .val (.int p5), .val (.int v1), .val (.int v2), .val (.int v4), .val (.int v6), .val (.int v7), .val (.ref b8), .val (.ref b9), .val (.ref b11), .val (.int ((q3 &&& (15 : Int64)).toInt32)), .val (.long j250), .second, .val (.int g260), .unset] [(.int v7), (.int v6), (.int (4 : Int32)), (.ref b9), (.int (((v266 + v270) + v274) + v278))])) _
    refine XS.lload X277.here hx rfl (hb hby at_694) rfl ?_
    exact kk)
  obtain ⟨Lg280, X280, N280⟩ : ∃ L' : List Loc, Stand p l e room_1 s m #[(.long q0), (.long q1), (.long q2), (.long q3), (.int p4), (.int p5)] below meth c T277 L' 3 48 ∧ Fr n0 L' := ⟨_, X277, N277⟩
  (try clear e273); (try clear pre275); (try clear X276); (try clear N276); (try clear X277); (try clear st277); (try clear N277q); (try clear N277)
  obtain ⟨_, _, ⟨T281, L281, k281, n281⟩, -, X281, ⟨Lc281, hQ281, l281, y281, z281⟩, st281⟩ := Jvm.LawKit.callS X280 hx (y := (⟨"com/example/copyleaf/copyleaf/page/PageFirstAtLeastPinLaw", "b", "([JIIIJ)I"⟩ : MethodName)) hown (mvT hZ (hw _ (List.mem_of_getElem? (i := 16) rfl))) (mvT hZ (hw _ (List.mem_of_getElem? (i := 17) rfl))) (mvT hZ (hw _ (List.mem_of_getElem? (i := 5) rfl))) (mvT hZ (hw _ (List.mem_of_getElem? (i := 18) rfl))) (by decide) (backOf (W := 1) (rm4 l Z a0 hw [] b9 (4 : Int32) v6 v7 j250 k9 [(.long u_0), (.long u_1), (.long u_2), (.long u_3), (.long u_4), (.long u_5), (.long u_6), (.long u_7), (.long u_8), (.long u_9), (.long u_10), (.long u_11), (.long u_12), (.long u_13), (.long u_14), (.long u_15)] u_4 T248.heap n0 Zz262 Wu248 ⟨by decide, by decide⟩ rfl) hZ (hw _ (List.mem_of_getElem? (i := 18) rfl)) (hw _ (List.mem_of_getElem? (i := 5) rfl)) (by decide) (by decide)) (g := (mkF m 696 #[.val (.long q0), .second, .val (.long q1), .second, .val (.long q2), .second, .val (.long q3), .second, .val (.int p4), .val (.int p5), .val (.int v1), .val (.int v2), .val (.int v4), .val (.int v6), .val (.int v7), .val (.ref b8), .val (.ref b9), .val (.ref b11), .val (.int ((q3 &&& (15 : Int64)).toInt32)), .val (.long j250), .second, .val (.int g260), .unset] [(.long j250), (.int v7), (.int v6), (.int (4 : Int32)), (.ref b9), (.int (((v266 + v270) + v274) + v278))])) rfl (by rw [hml]; rfl) (argsL := [(.ref b9), (.int (4 : Int32)), (.int v6), (.int v7), (.long j250)]) (rest := [(.int (((v266 + v270) + v274) + v278))]) (lenOf pd__28_5bJIIIJ_29I rfl) rfl (by show 2 * 0 + _ ≤ _; exact Nat.le_of_eq rfl) (hb hby at_696) (fun _ _ => ⟨rfl, e277, (by decide : 3 + 0 ≤ _), (by decide : 48 + 0 ≤ _)⟩)
  dsimp only [Pt.U, Pt.locs, Pt.cells, Pt.slots] at X281 l281 y281 z281 st281 hQ281
  subst l281 y281 z281
  obtain ⟨rfl, N281q, e281⟩ := hQ281
  have N281 := Fr.app N280 N281q
  obtain ⟨v282, ev282⟩ : ∃ z : Int32, z = (bF (4 : Int32) v6 v7 j250 u_4) := ⟨_, rfl⟩
  have pre283 : ∀ t, Steps p.tables e below (T281.setTop (mkF m 709 #[.val (.long q0), .second, .val (.long q1), .second, .val (.long q2), .second, .val (.long q3), .second, .val (.int p4), .val (.int p5), .val (.int v1), .val (.int v2), .val (.int v4), .val (.int v6), .val (.int v7), .val (.ref b8), .val (.ref b9), .val (.ref b11), .val (.int ((q3 &&& (15 : Int64)).toInt32)), .val (.long j250), .second, .val (.int g260), .unset] [(.long j250), (.int v7), (.int v6), (.int (5 : Int32)), (.ref b9), (.int ((((v266 + v270) + v274) + v278) + v282))])) t → Steps p.tables e below (s₁.setTop (entryFrame m #[(.long q0), (.long q1), (.long q2), (.long q3), (.int p4), (.int p5)] maxLocals)) t := fun t kk => pre279 t (by
    show Steps p.tables e below (T277.setTop (mkF m 696 #[.val (.long q0), .second, .val (.long q1), .second, .val (.long q2), .second, .val (.long q3), .second, .val (.int p4), .val (.int p5), .val (.int v1), .val (.int v2), .val (.int v4), .val (.int v6), .val (.int v7), .val (.ref b8), .val (.ref b9), .val (.ref b11), .val (.int ((q3 &&& (15 : Int64)).toInt32)), .val (.long j250), .second, .val (.int g260), .unset] [(.long j250), (.int v7), (.int v6), (.int (4 : Int32)), (.ref b9), (.int (((v266 + v270) + v274) + v278))])) _
    refine st281 _ ?_
    show Steps p.tables e below (T281.setTop (mkF m 699 #[.val (.long q0), .second, .val (.long q1), .second, .val (.long q2), .second, .val (.long q3), .second, .val (.int p4), .val (.int p5), .val (.int v1), .val (.int v2), .val (.int v4), .val (.int v6), .val (.int v7), .val (.ref b8), .val (.ref b9), .val (.ref b11), .val (.int ((q3 &&& (15 : Int64)).toInt32)), .val (.long j250), .second, .val (.int g260), .unset] [(.int (bF (4 : Int32) v6 v7 j250 u_4)), (.int (((v266 + v270) + v274) + v278))])) _
    rw [← ev282]
    show Steps p.tables e below (T281.setTop (mkF m 699 #[.val (.long q0), .second, .val (.long q1), .second, .val (.long q2), .second, .val (.long q3), .second, .val (.int p4), .val (.int p5), .val (.int v1), .val (.int v2), .val (.int v4), .val (.int v6), .val (.int v7), .val (.ref b8), .val (.ref b9), .val (.ref b11), .val (.int ((q3 &&& (15 : Int64)).toInt32)), .val (.long j250), .second, .val (.int g260), .unset] [(.int v282), (.int (((v266 + v270) + v274) + v278))])) _
    refine XS.iadd X281.here hx rfl (hb hby at_699) rfl ?_
    show Steps p.tables e below (T281.setTop (mkF m 700 #[.val (.long q0), .second, .val (.long q1), .second, .val (.long q2), .second, .val (.long q3), .second, .val (.int p4), .val (.int p5), .val (.int v1), .val (.int v2), .val (.int v4), .val (.int v6), .val (.int v7), .val (.ref b8), .val (.ref b9), .val (.ref b11), .val (.int ((q3 &&& (15 : Int64)).toInt32)), .val (.long j250), .second, .val (.int g260), .unset] [(.int ((((v266 + v270) + v274) + v278) + v282))])) _
    refine XS.aload X281.here hx rfl (hb hby at_700) rfl rfl ?_
    show Steps p.tables e below (T281.setTop (mkF m 702 #[.val (.long q0), .second, .val (.long q1), .second, .val (.long q2), .second, .val (.long q3), .second, .val (.int p4), .val (.int p5), .val (.int v1), .val (.int v2), .val (.int v4), .val (.int v6), .val (.int v7), .val (.ref b8), .val (.ref b9), .val (.ref b11), .val (.int ((q3 &&& (15 : Int64)).toInt32)), .val (.long j250), .second, .val (.int g260), .unset] [(.ref b9), (.int ((((v266 + v270) + v274) + v278) + v282))])) _
    refine XS.iconst X281.here hx rfl (hb hby at_702) ?_
    show Steps p.tables e below (T281.setTop (mkF m 703 #[.val (.long q0), .second, .val (.long q1), .second, .val (.long q2), .second, .val (.long q3), .second, .val (.int p4), .val (.int p5), .val (.int v1), .val (.int v2), .val (.int v4), .val (.int v6), .val (.int v7), .val (.ref b8), .val (.ref b9), .val (.ref b11), .val (.int ((q3 &&& (15 : Int64)).toInt32)), .val (.long j250), .second, .val (.int g260), .unset] [(.int (5 : Int32)), (.ref b9), (.int ((((v266 + v270) + v274) + v278) + v282))])) _
    refine XS.iload X281.here hx rfl (hb hby at_703) rfl ?_
    show Steps p.tables e below (T281.setTop (mkF m 705 #[.val (.long q0), .second, .val (.long q1), .second, .val (.long q2), .second, .val (.long q3), .second, .val (.int p4), .val (.int p5), .val (.int v1), .val (.int v2), .val (.int v4), .val (.int v6), .val (.int v7), .val (.ref b8), .val (.ref b9), .val (.ref b11), .val (.int ((q3 &&& (15 : Int64)).toInt32)), .val (.long j250), .second, .val (.int g260), .unset] [(.int v6), (.int (5 : Int32)), (.ref b9), (.int ((((v266 + v270) + v274) + v278) + v282))])) _
    refine XS.iload X281.here hx rfl (hb hby at_705) rfl ?_
    show Steps p.tables e below (T281.setTop (mkF m 707 #[.val (.long q0), .second, .val (.long q1), .second, .val (.long q2), .second, .val (.long q3), .second, .val (.int p4), .val (.int p5), .val (.int v1), .val (.int v2), .val (.int v4), .val (.int v6), .val (.int v7), .val (.ref b8), .val (.ref b9), .val (.ref b11), .val (.int ((q3 &&& (15 : Int64)).toInt32)), .val (.long j250), .second, .val (.int g260), .unset] [(.int v7), (.int v6), (.int (5 : Int32)), (.ref b9), (.int ((((v266 + v270) + v274) + v278) + v282))])) _
    refine XS.lload X281.here hx rfl (hb hby at_707) rfl ?_
    exact kk)
  obtain ⟨Lg284, X284, N284⟩ : ∃ L' : List Loc, Stand p l e room_1 s m #[(.long q0), (.long q1), (.long q2), (.long q3), (.int p4), (.int p5)] below meth c T281 L' 3 48 ∧ Fr n0 L' := ⟨_, X281, N281⟩
  (try clear e277); (try clear pre279); (try clear X280); (try clear N280); (try clear X281); (try clear st281); (try clear N281q); (try clear N281)
  obtain ⟨_, _, ⟨T285, L285, k285, n285⟩, -, X285, ⟨Lc285, hQ285, l285, y285, z285⟩, st285⟩ := Jvm.LawKit.callS X284 hx (y := (⟨"com/example/copyleaf/copyleaf/page/PageFirstAtLeastPinLaw", "b", "([JIIIJ)I"⟩ : MethodName)) hown (mvT hZ (hw _ (List.mem_of_getElem? (i := 16) rfl))) (mvT hZ (hw _ (List.mem_of_getElem? (i := 17) rfl))) (mvT hZ (hw _ (List.mem_of_getElem? (i := 5) rfl))) (mvT hZ (hw _ (List.mem_of_getElem? (i := 18) rfl))) (by decide) (backOf (W := 1) (rm4 l Z a0 hw [] b9 (5 : Int32) v6 v7 j250 k9 [(.long u_0), (.long u_1), (.long u_2), (.long u_3), (.long u_4), (.long u_5), (.long u_6), (.long u_7), (.long u_8), (.long u_9), (.long u_10), (.long u_11), (.long u_12), (.long u_13), (.long u_14), (.long u_15)] u_5 T248.heap n0 Zz262 Wu248 ⟨by decide, by decide⟩ rfl) hZ (hw _ (List.mem_of_getElem? (i := 18) rfl)) (hw _ (List.mem_of_getElem? (i := 5) rfl)) (by decide) (by decide)) (g := (mkF m 709 #[.val (.long q0), .second, .val (.long q1), .second, .val (.long q2), .second, .val (.long q3), .second, .val (.int p4), .val (.int p5), .val (.int v1), .val (.int v2), .val (.int v4), .val (.int v6), .val (.int v7), .val (.ref b8), .val (.ref b9), .val (.ref b11), .val (.int ((q3 &&& (15 : Int64)).toInt32)), .val (.long j250), .second, .val (.int g260), .unset] [(.long j250), (.int v7), (.int v6), (.int (5 : Int32)), (.ref b9), (.int ((((v266 + v270) + v274) + v278) + v282))])) rfl (by rw [hml]; rfl) (argsL := [(.ref b9), (.int (5 : Int32)), (.int v6), (.int v7), (.long j250)]) (rest := [(.int ((((v266 + v270) + v274) + v278) + v282))]) (lenOf pd__28_5bJIIIJ_29I rfl) rfl (by show 2 * 0 + _ ≤ _; exact Nat.le_of_eq rfl) (hb hby at_709) (fun _ _ => ⟨rfl, e281, (by decide : 3 + 0 ≤ _), (by decide : 48 + 0 ≤ _)⟩)
  dsimp only [Pt.U, Pt.locs, Pt.cells, Pt.slots] at X285 l285 y285 z285 st285 hQ285
  subst l285 y285 z285
  obtain ⟨rfl, N285q, e285⟩ := hQ285
  have N285 := Fr.app N284 N285q
  obtain ⟨v286, ev286⟩ : ∃ z : Int32, z = (bF (5 : Int32) v6 v7 j250 u_5) := ⟨_, rfl⟩
  have pre287 : ∀ t, Steps p.tables e below (T285.setTop (mkF m 723 #[.val (.long q0), .second, .val (.long q1), .second, .val (.long q2), .second, .val (.long q3), .second, .val (.int p4), .val (.int p5), .val (.int v1), .val (.int v2), .val (.int v4), .val (.int v6), .val (.int v7), .val (.ref b8), .val (.ref b9), .val (.ref b11), .val (.int ((q3 &&& (15 : Int64)).toInt32)), .val (.long j250), .second, .val (.int g260), .unset] [(.long j250), (.int v7), (.int v6), (.int (6 : Int32)), (.ref b9), (.int (((((v266 + v270) + v274) + v278) + v282) + v286))])) t → Steps p.tables e below (s₁.setTop (entryFrame m #[(.long q0), (.long q1), (.long q2), (.long q3), (.int p4), (.int p5)] maxLocals)) t := fun t kk => pre283 t (by
    show Steps p.tables e below (T281.setTop (mkF m 709 #[.val (.long q0), .second, .val (.long q1), .second, .val (.long q2), .second, .val (.long q3), .second, .val (.int p4), .val (.int p5), .val (.int v1), .val (.int v2), .val (.int v4), .val (.int v6), .val (.int v7), .val (.ref b8), .val (.ref b9), .val (.ref b11), .val (.int ((q3 &&& (15 : Int64)).toInt32)), .val (.long j250), .second, .val (.int g260), .unset] [(.long j250), (.int v7), (.int v6), (.int (5 : Int32)), (.ref b9), (.int ((((v266 + v270) + v274) + v278) + v282))])) _
    refine st285 _ ?_
    show Steps p.tables e below (T285.setTop (mkF m 712 #[.val (.long q0), .second, .val (.long q1), .second, .val (.long q2), .second, .val (.long q3), .second, .val (.int p4), .val (.int p5), .val (.int v1), .val (.int v2), .val (.int v4), .val (.int v6), .val (.int v7), .val (.ref b8), .val (.ref b9), .val (.ref b11), .val (.int ((q3 &&& (15 : Int64)).toInt32)), .val (.long j250), .second, .val (.int g260), .unset] [(.int (bF (5 : Int32) v6 v7 j250 u_5)), (.int ((((v266 + v270) + v274) + v278) + v282))])) _
    rw [← ev286]
    show Steps p.tables e below (T285.setTop (mkF m 712 #[.val (.long q0), .second, .val (.long q1), .second, .val (.long q2), .second, .val (.long q3), .second, .val (.int p4), .val (.int p5), .val (.int v1), .val (.int v2), .val (.int v4), .val (.int v6), .val (.int v7), .val (.ref b8), .val (.ref b9), .val (.ref b11), .val (.int ((q3 &&& (15 : Int64)).toInt32)), .val (.long j250), .second, .val (.int g260), .unset] [(.int v286), (.int ((((v266 + v270) + v274) + v278) + v282))])) _
    refine XS.iadd X285.here hx rfl (hb hby at_712) rfl ?_
    show Steps p.tables e below (T285.setTop (mkF m 713 #[.val (.long q0), .second, .val (.long q1), .second, .val (.long q2), .second, .val (.long q3), .second, .val (.int p4), .val (.int p5), .val (.int v1), .val (.int v2), .val (.int v4), .val (.int v6), .val (.int v7), .val (.ref b8), .val (.ref b9), .val (.ref b11), .val (.int ((q3 &&& (15 : Int64)).toInt32)), .val (.long j250), .second, .val (.int g260), .unset] [(.int (((((v266 + v270) + v274) + v278) + v282) + v286))])) _
    refine XS.aload X285.here hx rfl (hb hby at_713) rfl rfl ?_
    show Steps p.tables e below (T285.setTop (mkF m 715 #[.val (.long q0), .second, .val (.long q1), .second, .val (.long q2), .second, .val (.long q3), .second, .val (.int p4), .val (.int p5), .val (.int v1), .val (.int v2), .val (.int v4), .val (.int v6), .val (.int v7), .val (.ref b8), .val (.ref b9), .val (.ref b11), .val (.int ((q3 &&& (15 : Int64)).toInt32)), .val (.long j250), .second, .val (.int g260), .unset] [(.ref b9), (.int (((((v266 + v270) + v274) + v278) + v282) + v286))])) _
    refine XS.bipush X285.here hx rfl (hb hby at_715) ?_
    show Steps p.tables e below (T285.setTop (mkF m 717 #[.val (.long q0), .second, .val (.long q1), .second, .val (.long q2), .second, .val (.long q3), .second, .val (.int p4), .val (.int p5), .val (.int v1), .val (.int v2), .val (.int v4), .val (.int v6), .val (.int v7), .val (.ref b8), .val (.ref b9), .val (.ref b11), .val (.int ((q3 &&& (15 : Int64)).toInt32)), .val (.long j250), .second, .val (.int g260), .unset] [(.int (6 : Int32)), (.ref b9), (.int (((((v266 + v270) + v274) + v278) + v282) + v286))])) _
    refine XS.iload X285.here hx rfl (hb hby at_717) rfl ?_
    show Steps p.tables e below (T285.setTop (mkF m 719 #[.val (.long q0), .second, .val (.long q1), .second, .val (.long q2), .second, .val (.long q3), .second, .val (.int p4), .val (.int p5), .val (.int v1), .val (.int v2), .val (.int v4), .val (.int v6), .val (.int v7), .val (.ref b8), .val (.ref b9), .val (.ref b11), .val (.int ((q3 &&& (15 : Int64)).toInt32)), .val (.long j250), .second, .val (.int g260), .unset] [(.int v6), (.int (6 : Int32)), (.ref b9), (.int (((((v266 + v270) + v274) + v278) + v282) + v286))])) _
    refine XS.iload X285.here hx rfl (hb hby at_719) rfl ?_
    show Steps p.tables e below (T285.setTop (mkF m 721 #[.val (.long q0), .second, .val (.long q1), .second, .val (.long q2), .second, .val (.long q3), .second, .val (.int p4), .val (.int p5), .val (.int v1), .val (.int v2), .val (.int v4), .val (.int v6), .val (.int v7), .val (.ref b8), .val (.ref b9), .val (.ref b11), .val (.int ((q3 &&& (15 : Int64)).toInt32)), .val (.long j250), .second, .val (.int g260), .unset] [(.int v7), (.int v6), (.int (6 : Int32)), (.ref b9), (.int (((((v266 + v270) + v274) + v278) + v282) + v286))])) _
    refine XS.lload X285.here hx rfl (hb hby at_721) rfl ?_
    exact kk)
  obtain ⟨Lg288, X288, N288⟩ : ∃ L' : List Loc, Stand p l e room_1 s m #[(.long q0), (.long q1), (.long q2), (.long q3), (.int p4), (.int p5)] below meth c T285 L' 3 48 ∧ Fr n0 L' := ⟨_, X285, N285⟩
  (try clear e281); (try clear pre283); (try clear X284); (try clear N284); (try clear X285); (try clear st285); (try clear N285q); (try clear N285)
  obtain ⟨_, _, ⟨T289, L289, k289, n289⟩, -, X289, ⟨Lc289, hQ289, l289, y289, z289⟩, st289⟩ := Jvm.LawKit.callS X288 hx (y := (⟨"com/example/copyleaf/copyleaf/page/PageFirstAtLeastPinLaw", "b", "([JIIIJ)I"⟩ : MethodName)) hown (mvT hZ (hw _ (List.mem_of_getElem? (i := 16) rfl))) (mvT hZ (hw _ (List.mem_of_getElem? (i := 17) rfl))) (mvT hZ (hw _ (List.mem_of_getElem? (i := 5) rfl))) (mvT hZ (hw _ (List.mem_of_getElem? (i := 18) rfl))) (by decide) (backOf (W := 1) (rm4 l Z a0 hw [] b9 (6 : Int32) v6 v7 j250 k9 [(.long u_0), (.long u_1), (.long u_2), (.long u_3), (.long u_4), (.long u_5), (.long u_6), (.long u_7), (.long u_8), (.long u_9), (.long u_10), (.long u_11), (.long u_12), (.long u_13), (.long u_14), (.long u_15)] u_6 T248.heap n0 Zz262 Wu248 ⟨by decide, by decide⟩ rfl) hZ (hw _ (List.mem_of_getElem? (i := 18) rfl)) (hw _ (List.mem_of_getElem? (i := 5) rfl)) (by decide) (by decide)) (g := (mkF m 723 #[.val (.long q0), .second, .val (.long q1), .second, .val (.long q2), .second, .val (.long q3), .second, .val (.int p4), .val (.int p5), .val (.int v1), .val (.int v2), .val (.int v4), .val (.int v6), .val (.int v7), .val (.ref b8), .val (.ref b9), .val (.ref b11), .val (.int ((q3 &&& (15 : Int64)).toInt32)), .val (.long j250), .second, .val (.int g260), .unset] [(.long j250), (.int v7), (.int v6), (.int (6 : Int32)), (.ref b9), (.int (((((v266 + v270) + v274) + v278) + v282) + v286))])) rfl (by rw [hml]; rfl) (argsL := [(.ref b9), (.int (6 : Int32)), (.int v6), (.int v7), (.long j250)]) (rest := [(.int (((((v266 + v270) + v274) + v278) + v282) + v286))]) (lenOf pd__28_5bJIIIJ_29I rfl) rfl (by show 2 * 0 + _ ≤ _; exact Nat.le_of_eq rfl) (hb hby at_723) (fun _ _ => ⟨rfl, e285, (by decide : 3 + 0 ≤ _), (by decide : 48 + 0 ≤ _)⟩)
  dsimp only [Pt.U, Pt.locs, Pt.cells, Pt.slots] at X289 l289 y289 z289 st289 hQ289
  subst l289 y289 z289
  obtain ⟨rfl, N289q, e289⟩ := hQ289
  have N289 := Fr.app N288 N289q
  obtain ⟨v290, ev290⟩ : ∃ z : Int32, z = (bF (6 : Int32) v6 v7 j250 u_6) := ⟨_, rfl⟩
  have pre291 : ∀ t, Steps p.tables e below (T289.setTop (mkF m 737 #[.val (.long q0), .second, .val (.long q1), .second, .val (.long q2), .second, .val (.long q3), .second, .val (.int p4), .val (.int p5), .val (.int v1), .val (.int v2), .val (.int v4), .val (.int v6), .val (.int v7), .val (.ref b8), .val (.ref b9), .val (.ref b11), .val (.int ((q3 &&& (15 : Int64)).toInt32)), .val (.long j250), .second, .val (.int g260), .unset] [(.long j250), (.int v7), (.int v6), (.int (7 : Int32)), (.ref b9), (.int ((((((v266 + v270) + v274) + v278) + v282) + v286) + v290))])) t → Steps p.tables e below (s₁.setTop (entryFrame m #[(.long q0), (.long q1), (.long q2), (.long q3), (.int p4), (.int p5)] maxLocals)) t := fun t kk => pre287 t (by
    show Steps p.tables e below (T285.setTop (mkF m 723 #[.val (.long q0), .second, .val (.long q1), .second, .val (.long q2), .second, .val (.long q3), .second, .val (.int p4), .val (.int p5), .val (.int v1), .val (.int v2), .val (.int v4), .val (.int v6), .val (.int v7), .val (.ref b8), .val (.ref b9), .val (.ref b11), .val (.int ((q3 &&& (15 : Int64)).toInt32)), .val (.long j250), .second, .val (.int g260), .unset] [(.long j250), (.int v7), (.int v6), (.int (6 : Int32)), (.ref b9), (.int (((((v266 + v270) + v274) + v278) + v282) + v286))])) _
    refine st289 _ ?_
    show Steps p.tables e below (T289.setTop (mkF m 726 #[.val (.long q0), .second, .val (.long q1), .second, .val (.long q2), .second, .val (.long q3), .second, .val (.int p4), .val (.int p5), .val (.int v1), .val (.int v2), .val (.int v4), .val (.int v6), .val (.int v7), .val (.ref b8), .val (.ref b9), .val (.ref b11), .val (.int ((q3 &&& (15 : Int64)).toInt32)), .val (.long j250), .second, .val (.int g260), .unset] [(.int (bF (6 : Int32) v6 v7 j250 u_6)), (.int (((((v266 + v270) + v274) + v278) + v282) + v286))])) _
    rw [← ev290]
    show Steps p.tables e below (T289.setTop (mkF m 726 #[.val (.long q0), .second, .val (.long q1), .second, .val (.long q2), .second, .val (.long q3), .second, .val (.int p4), .val (.int p5), .val (.int v1), .val (.int v2), .val (.int v4), .val (.int v6), .val (.int v7), .val (.ref b8), .val (.ref b9), .val (.ref b11), .val (.int ((q3 &&& (15 : Int64)).toInt32)), .val (.long j250), .second, .val (.int g260), .unset] [(.int v290), (.int (((((v266 + v270) + v274) + v278) + v282) + v286))])) _
    refine XS.iadd X289.here hx rfl (hb hby at_726) rfl ?_
    show Steps p.tables e below (T289.setTop (mkF m 727 #[.val (.long q0), .second, .val (.long q1), .second, .val (.long q2), .second, .val (.long q3), .second, .val (.int p4), .val (.int p5), .val (.int v1), .val (.int v2), .val (.int v4), .val (.int v6), .val (.int v7), .val (.ref b8), .val (.ref b9), .val (.ref b11), .val (.int ((q3 &&& (15 : Int64)).toInt32)), .val (.long j250), .second, .val (.int g260), .unset] [(.int ((((((v266 + v270) + v274) + v278) + v282) + v286) + v290))])) _
    refine XS.aload X289.here hx rfl (hb hby at_727) rfl rfl ?_
    show Steps p.tables e below (T289.setTop (mkF m 729 #[.val (.long q0), .second, .val (.long q1), .second, .val (.long q2), .second, .val (.long q3), .second, .val (.int p4), .val (.int p5), .val (.int v1), .val (.int v2), .val (.int v4), .val (.int v6), .val (.int v7), .val (.ref b8), .val (.ref b9), .val (.ref b11), .val (.int ((q3 &&& (15 : Int64)).toInt32)), .val (.long j250), .second, .val (.int g260), .unset] [(.ref b9), (.int ((((((v266 + v270) + v274) + v278) + v282) + v286) + v290))])) _
    refine XS.bipush X289.here hx rfl (hb hby at_729) ?_
    show Steps p.tables e below (T289.setTop (mkF m 731 #[.val (.long q0), .second, .val (.long q1), .second, .val (.long q2), .second, .val (.long q3), .second, .val (.int p4), .val (.int p5), .val (.int v1), .val (.int v2), .val (.int v4), .val (.int v6), .val (.int v7), .val (.ref b8), .val (.ref b9), .val (.ref b11), .val (.int ((q3 &&& (15 : Int64)).toInt32)), .val (.long j250), .second, .val (.int g260), .unset] [(.int (7 : Int32)), (.ref b9), (.int ((((((v266 + v270) + v274) + v278) + v282) + v286) + v290))])) _
    refine XS.iload X289.here hx rfl (hb hby at_731) rfl ?_
    show Steps p.tables e below (T289.setTop (mkF m 733 #[.val (.long q0), .second, .val (.long q1), .second, .val (.long q2), .second, .val (.long q3), .second, .val (.int p4), .val (.int p5), .val (.int v1), .val (.int v2), .val (.int v4), .val (.int v6), .val (.int v7), .val (.ref b8), .val (.ref b9), .val (.ref b11), .val (.int ((q3 &&& (15 : Int64)).toInt32)), .val (.long j250), .second, .val (.int g260), .unset] [(.int v6), (.int (7 : Int32)), (.ref b9), (.int ((((((v266 + v270) + v274) + v278) + v282) + v286) + v290))])) _
    refine XS.iload X289.here hx rfl (hb hby at_733) rfl ?_
    show Steps p.tables e below (T289.setTop (mkF m 735 #[.val (.long q0), .second, .val (.long q1), .second, .val (.long q2), .second, .val (.long q3), .second, .val (.int p4), .val (.int p5), .val (.int v1), .val (.int v2), .val (.int v4), .val (.int v6), .val (.int v7), .val (.ref b8), .val (.ref b9), .val (.ref b11), .val (.int ((q3 &&& (15 : Int64)).toInt32)), .val (.long j250), .second, .val (.int g260), .unset] [(.int v7), (.int v6), (.int (7 : Int32)), (.ref b9), (.int ((((((v266 + v270) + v274) + v278) + v282) + v286) + v290))])) _
    refine XS.lload X289.here hx rfl (hb hby at_735) rfl ?_
    exact kk)
  obtain ⟨Lg292, X292, N292⟩ : ∃ L' : List Loc, Stand p l e room_1 s m #[(.long q0), (.long q1), (.long q2), (.long q3), (.int p4), (.int p5)] below meth c T289 L' 3 48 ∧ Fr n0 L' := ⟨_, X289, N289⟩
  (try clear e285); (try clear pre287); (try clear X288); (try clear N288); (try clear X289); (try clear st289); (try clear N289q); (try clear N289)
  obtain ⟨_, _, ⟨T293, L293, k293, n293⟩, -, X293, ⟨Lc293, hQ293, l293, y293, z293⟩, st293⟩ := Jvm.LawKit.callS X292 hx (y := (⟨"com/example/copyleaf/copyleaf/page/PageFirstAtLeastPinLaw", "b", "([JIIIJ)I"⟩ : MethodName)) hown (mvT hZ (hw _ (List.mem_of_getElem? (i := 16) rfl))) (mvT hZ (hw _ (List.mem_of_getElem? (i := 17) rfl))) (mvT hZ (hw _ (List.mem_of_getElem? (i := 5) rfl))) (mvT hZ (hw _ (List.mem_of_getElem? (i := 18) rfl))) (by decide) (backOf (W := 1) (rm4 l Z a0 hw [] b9 (7 : Int32) v6 v7 j250 k9 [(.long u_0), (.long u_1), (.long u_2), (.long u_3), (.long u_4), (.long u_5), (.long u_6), (.long u_7), (.long u_8), (.long u_9), (.long u_10), (.long u_11), (.long u_12), (.long u_13), (.long u_14), (.long u_15)] u_7 T248.heap n0 Zz262 Wu248 ⟨by decide, by decide⟩ rfl) hZ (hw _ (List.mem_of_getElem? (i := 18) rfl)) (hw _ (List.mem_of_getElem? (i := 5) rfl)) (by decide) (by decide)) (g := (mkF m 737 #[.val (.long q0), .second, .val (.long q1), .second, .val (.long q2), .second, .val (.long q3), .second, .val (.int p4), .val (.int p5), .val (.int v1), .val (.int v2), .val (.int v4), .val (.int v6), .val (.int v7), .val (.ref b8), .val (.ref b9), .val (.ref b11), .val (.int ((q3 &&& (15 : Int64)).toInt32)), .val (.long j250), .second, .val (.int g260), .unset] [(.long j250), (.int v7), (.int v6), (.int (7 : Int32)), (.ref b9), (.int ((((((v266 + v270) + v274) + v278) + v282) + v286) + v290))])) rfl (by rw [hml]; rfl) (argsL := [(.ref b9), (.int (7 : Int32)), (.int v6), (.int v7), (.long j250)]) (rest := [(.int ((((((v266 + v270) + v274) + v278) + v282) + v286) + v290))]) (lenOf pd__28_5bJIIIJ_29I rfl) rfl (by show 2 * 0 + _ ≤ _; exact Nat.le_of_eq rfl) (hb hby at_737) (fun _ _ => ⟨rfl, e289, (by decide : 3 + 0 ≤ _), (by decide : 48 + 0 ≤ _)⟩)
  dsimp only [Pt.U, Pt.locs, Pt.cells, Pt.slots] at X293 l293 y293 z293 st293 hQ293
  subst l293 y293 z293
  obtain ⟨rfl, N293q, e293⟩ := hQ293
  have N293 := Fr.app N292 N293q
  obtain ⟨v294, ev294⟩ : ∃ z : Int32, z = (bF (7 : Int32) v6 v7 j250 u_7) := ⟨_, rfl⟩
  have pre295 : ∀ t, Steps p.tables e below (T293.setTop (mkF m 751 #[.val (.long q0), .second, .val (.long q1), .second, .val (.long q2), .second, .val (.long q3), .second, .val (.int p4), .val (.int p5), .val (.int v1), .val (.int v2), .val (.int v4), .val (.int v6), .val (.int v7), .val (.ref b8), .val (.ref b9), .val (.ref b11), .val (.int ((q3 &&& (15 : Int64)).toInt32)), .val (.long j250), .second, .val (.int g260), .unset] [(.long j250), (.int v7), (.int v6), (.int (8 : Int32)), (.ref b9), (.int (((((((v266 + v270) + v274) + v278) + v282) + v286) + v290) + v294))])) t → Steps p.tables e below (s₁.setTop (entryFrame m #[(.long q0), (.long q1), (.long q2), (.long q3), (.int p4), (.int p5)] maxLocals)) t := fun t kk => pre291 t (by
    show Steps p.tables e below (T289.setTop (mkF m 737 #[.val (.long q0), .second, .val (.long q1), .second, .val (.long q2), .second, .val (.long q3), .second, .val (.int p4), .val (.int p5), .val (.int v1), .val (.int v2), .val (.int v4), .val (.int v6), .val (.int v7), .val (.ref b8), .val (.ref b9), .val (.ref b11), .val (.int ((q3 &&& (15 : Int64)).toInt32)), .val (.long j250), .second, .val (.int g260), .unset] [(.long j250), (.int v7), (.int v6), (.int (7 : Int32)), (.ref b9), (.int ((((((v266 + v270) + v274) + v278) + v282) + v286) + v290))])) _
    refine st293 _ ?_
    show Steps p.tables e below (T293.setTop (mkF m 740 #[.val (.long q0), .second, .val (.long q1), .second, .val (.long q2), .second, .val (.long q3), .second, .val (.int p4), .val (.int p5), .val (.int v1), .val (.int v2), .val (.int v4), .val (.int v6), .val (.int v7), .val (.ref b8), .val (.ref b9), .val (.ref b11), .val (.int ((q3 &&& (15 : Int64)).toInt32)), .val (.long j250), .second, .val (.int g260), .unset] [(.int (bF (7 : Int32) v6 v7 j250 u_7)), (.int ((((((v266 + v270) + v274) + v278) + v282) + v286) + v290))])) _
    rw [← ev294]
    show Steps p.tables e below (T293.setTop (mkF m 740 #[.val (.long q0), .second, .val (.long q1), .second, .val (.long q2), .second, .val (.long q3), .second, .val (.int p4), .val (.int p5), .val (.int v1), .val (.int v2), .val (.int v4), .val (.int v6), .val (.int v7), .val (.ref b8), .val (.ref b9), .val (.ref b11), .val (.int ((q3 &&& (15 : Int64)).toInt32)), .val (.long j250), .second, .val (.int g260), .unset] [(.int v294), (.int ((((((v266 + v270) + v274) + v278) + v282) + v286) + v290))])) _
    refine XS.iadd X293.here hx rfl (hb hby at_740) rfl ?_
    show Steps p.tables e below (T293.setTop (mkF m 741 #[.val (.long q0), .second, .val (.long q1), .second, .val (.long q2), .second, .val (.long q3), .second, .val (.int p4), .val (.int p5), .val (.int v1), .val (.int v2), .val (.int v4), .val (.int v6), .val (.int v7), .val (.ref b8), .val (.ref b9), .val (.ref b11), .val (.int ((q3 &&& (15 : Int64)).toInt32)), .val (.long j250), .second, .val (.int g260), .unset] [(.int (((((((v266 + v270) + v274) + v278) + v282) + v286) + v290) + v294))])) _
    refine XS.aload X293.here hx rfl (hb hby at_741) rfl rfl ?_
    show Steps p.tables e below (T293.setTop (mkF m 743 #[.val (.long q0), .second, .val (.long q1), .second, .val (.long q2), .second, .val (.long q3), .second, .val (.int p4), .val (.int p5), .val (.int v1), .val (.int v2), .val (.int v4), .val (.int v6), .val (.int v7), .val (.ref b8), .val (.ref b9), .val (.ref b11), .val (.int ((q3 &&& (15 : Int64)).toInt32)), .val (.long j250), .second, .val (.int g260), .unset] [(.ref b9), (.int (((((((v266 + v270) + v274) + v278) + v282) + v286) + v290) + v294))])) _
    refine XS.bipush X293.here hx rfl (hb hby at_743) ?_
    show Steps p.tables e below (T293.setTop (mkF m 745 #[.val (.long q0), .second, .val (.long q1), .second, .val (.long q2), .second, .val (.long q3), .second, .val (.int p4), .val (.int p5), .val (.int v1), .val (.int v2), .val (.int v4), .val (.int v6), .val (.int v7), .val (.ref b8), .val (.ref b9), .val (.ref b11), .val (.int ((q3 &&& (15 : Int64)).toInt32)), .val (.long j250), .second, .val (.int g260), .unset] [(.int (8 : Int32)), (.ref b9), (.int (((((((v266 + v270) + v274) + v278) + v282) + v286) + v290) + v294))])) _
    refine XS.iload X293.here hx rfl (hb hby at_745) rfl ?_
    show Steps p.tables e below (T293.setTop (mkF m 747 #[.val (.long q0), .second, .val (.long q1), .second, .val (.long q2), .second, .val (.long q3), .second, .val (.int p4), .val (.int p5), .val (.int v1), .val (.int v2), .val (.int v4), .val (.int v6), .val (.int v7), .val (.ref b8), .val (.ref b9), .val (.ref b11), .val (.int ((q3 &&& (15 : Int64)).toInt32)), .val (.long j250), .second, .val (.int g260), .unset] [(.int v6), (.int (8 : Int32)), (.ref b9), (.int (((((((v266 + v270) + v274) + v278) + v282) + v286) + v290) + v294))])) _
    refine XS.iload X293.here hx rfl (hb hby at_747) rfl ?_
    show Steps p.tables e below (T293.setTop (mkF m 749 #[.val (.long q0), .second, .val (.long q1), .second, .val (.long q2), .second, .val (.long q3), .second, .val (.int p4), .val (.int p5), .val (.int v1), .val (.int v2), .val (.int v4), .val (.int v6), .val (.int v7), .val (.ref b8), .val (.ref b9), .val (.ref b11), .val (.int ((q3 &&& (15 : Int64)).toInt32)), .val (.long j250), .second, .val (.int g260), .unset] [(.int v7), (.int v6), (.int (8 : Int32)), (.ref b9), (.int (((((((v266 + v270) + v274) + v278) + v282) + v286) + v290) + v294))])) _
    refine XS.lload X293.here hx rfl (hb hby at_749) rfl ?_
    exact kk)
  obtain ⟨Lg296, X296, N296⟩ : ∃ L' : List Loc, Stand p l e room_1 s m #[(.long q0), (.long q1), (.long q2), (.long q3), (.int p4), (.int p5)] below meth c T293 L' 3 48 ∧ Fr n0 L' := ⟨_, X293, N293⟩
  (try clear e289); (try clear pre291); (try clear X292); (try clear N292); (try clear X293); (try clear st293); (try clear N293q); (try clear N293)
  obtain ⟨_, _, ⟨T297, L297, k297, n297⟩, -, X297, ⟨Lc297, hQ297, l297, y297, z297⟩, st297⟩ := Jvm.LawKit.callS X296 hx (y := (⟨"com/example/copyleaf/copyleaf/page/PageFirstAtLeastPinLaw", "b", "([JIIIJ)I"⟩ : MethodName)) hown (mvT hZ (hw _ (List.mem_of_getElem? (i := 16) rfl))) (mvT hZ (hw _ (List.mem_of_getElem? (i := 17) rfl))) (mvT hZ (hw _ (List.mem_of_getElem? (i := 5) rfl))) (mvT hZ (hw _ (List.mem_of_getElem? (i := 18) rfl))) (by decide) (backOf (W := 1) (rm4 l Z a0 hw [] b9 (8 : Int32) v6 v7 j250 k9 [(.long u_0), (.long u_1), (.long u_2), (.long u_3), (.long u_4), (.long u_5), (.long u_6), (.long u_7), (.long u_8), (.long u_9), (.long u_10), (.long u_11), (.long u_12), (.long u_13), (.long u_14), (.long u_15)] u_8 T248.heap n0 Zz262 Wu248 ⟨by decide, by decide⟩ rfl) hZ (hw _ (List.mem_of_getElem? (i := 18) rfl)) (hw _ (List.mem_of_getElem? (i := 5) rfl)) (by decide) (by decide)) (g := (mkF m 751 #[.val (.long q0), .second, .val (.long q1), .second, .val (.long q2), .second, .val (.long q3), .second, .val (.int p4), .val (.int p5), .val (.int v1), .val (.int v2), .val (.int v4), .val (.int v6), .val (.int v7), .val (.ref b8), .val (.ref b9), .val (.ref b11), .val (.int ((q3 &&& (15 : Int64)).toInt32)), .val (.long j250), .second, .val (.int g260), .unset] [(.long j250), (.int v7), (.int v6), (.int (8 : Int32)), (.ref b9), (.int (((((((v266 + v270) + v274) + v278) + v282) + v286) + v290) + v294))])) rfl (by rw [hml]; rfl) (argsL := [(.ref b9), (.int (8 : Int32)), (.int v6), (.int v7), (.long j250)]) (rest := [(.int (((((((v266 + v270) + v274) + v278) + v282) + v286) + v290) + v294))]) (lenOf pd__28_5bJIIIJ_29I rfl) rfl (by show 2 * 0 + _ ≤ _; exact Nat.le_of_eq rfl) (hb hby at_751) (fun _ _ => ⟨rfl, e293, (by decide : 3 + 0 ≤ _), (by decide : 48 + 0 ≤ _)⟩)
  dsimp only [Pt.U, Pt.locs, Pt.cells, Pt.slots] at X297 l297 y297 z297 st297 hQ297
  subst l297 y297 z297
  obtain ⟨rfl, N297q, e297⟩ := hQ297
  have N297 := Fr.app N296 N297q
  obtain ⟨v298, ev298⟩ : ∃ z : Int32, z = (bF (8 : Int32) v6 v7 j250 u_8) := ⟨_, rfl⟩
  have pre299 : ∀ t, Steps p.tables e below (T297.setTop (mkF m 765 #[.val (.long q0), .second, .val (.long q1), .second, .val (.long q2), .second, .val (.long q3), .second, .val (.int p4), .val (.int p5), .val (.int v1), .val (.int v2), .val (.int v4), .val (.int v6), .val (.int v7), .val (.ref b8), .val (.ref b9), .val (.ref b11), .val (.int ((q3 &&& (15 : Int64)).toInt32)), .val (.long j250), .second, .val (.int g260), .unset] [(.long j250), (.int v7), (.int v6), (.int (9 : Int32)), (.ref b9), (.int ((((((((v266 + v270) + v274) + v278) + v282) + v286) + v290) + v294) + v298))])) t → Steps p.tables e below (s₁.setTop (entryFrame m #[(.long q0), (.long q1), (.long q2), (.long q3), (.int p4), (.int p5)] maxLocals)) t := fun t kk => pre295 t (by
    show Steps p.tables e below (T293.setTop (mkF m 751 #[.val (.long q0), .second, .val (.long q1), .second, .val (.long q2), .second, .val (.long q3), .second, .val (.int p4), .val (.int p5), .val (.int v1), .val (.int v2), .val (.int v4), .val (.int v6), .val (.int v7), .val (.ref b8), .val (.ref b9), .val (.ref b11), .val (.int ((q3 &&& (15 : Int64)).toInt32)), .val (.long j250), .second, .val (.int g260), .unset] [(.long j250), (.int v7), (.int v6), (.int (8 : Int32)), (.ref b9), (.int (((((((v266 + v270) + v274) + v278) + v282) + v286) + v290) + v294))])) _
    refine st297 _ ?_
    show Steps p.tables e below (T297.setTop (mkF m 754 #[.val (.long q0), .second, .val (.long q1), .second, .val (.long q2), .second, .val (.long q3), .second, .val (.int p4), .val (.int p5), .val (.int v1), .val (.int v2), .val (.int v4), .val (.int v6), .val (.int v7), .val (.ref b8), .val (.ref b9), .val (.ref b11), .val (.int ((q3 &&& (15 : Int64)).toInt32)), .val (.long j250), .second, .val (.int g260), .unset] [(.int (bF (8 : Int32) v6 v7 j250 u_8)), (.int (((((((v266 + v270) + v274) + v278) + v282) + v286) + v290) + v294))])) _
    rw [← ev298]
    show Steps p.tables e below (T297.setTop (mkF m 754 #[.val (.long q0), .second, .val (.long q1), .second, .val (.long q2), .second, .val (.long q3), .second, .val (.int p4), .val (.int p5), .val (.int v1), .val (.int v2), .val (.int v4), .val (.int v6), .val (.int v7), .val (.ref b8), .val (.ref b9), .val (.ref b11), .val (.int ((q3 &&& (15 : Int64)).toInt32)), .val (.long j250), .second, .val (.int g260), .unset] [(.int v298), (.int (((((((v266 + v270) + v274) + v278) + v282) + v286) + v290) + v294))])) _
    refine XS.iadd X297.here hx rfl (hb hby at_754) rfl ?_
    show Steps p.tables e below (T297.setTop (mkF m 755 #[.val (.long q0), .second, .val (.long q1), .second, .val (.long q2), .second, .val (.long q3), .second, .val (.int p4), .val (.int p5), .val (.int v1), .val (.int v2), .val (.int v4), .val (.int v6), .val (.int v7), .val (.ref b8), .val (.ref b9), .val (.ref b11), .val (.int ((q3 &&& (15 : Int64)).toInt32)), .val (.long j250), .second, .val (.int g260), .unset] [(.int ((((((((v266 + v270) + v274) + v278) + v282) + v286) + v290) + v294) + v298))])) _
    refine XS.aload X297.here hx rfl (hb hby at_755) rfl rfl ?_
    show Steps p.tables e below (T297.setTop (mkF m 757 #[.val (.long q0), .second, .val (.long q1), .second, .val (.long q2), .second, .val (.long q3), .second, .val (.int p4), .val (.int p5), .val (.int v1), .val (.int v2), .val (.int v4), .val (.int v6), .val (.int v7), .val (.ref b8), .val (.ref b9), .val (.ref b11), .val (.int ((q3 &&& (15 : Int64)).toInt32)), .val (.long j250), .second, .val (.int g260), .unset] [(.ref b9), (.int ((((((((v266 + v270) + v274) + v278) + v282) + v286) + v290) + v294) + v298))])) _
    refine XS.bipush X297.here hx rfl (hb hby at_757) ?_
    show Steps p.tables e below (T297.setTop (mkF m 759 #[.val (.long q0), .second, .val (.long q1), .second, .val (.long q2), .second, .val (.long q3), .second, .val (.int p4), .val (.int p5), .val (.int v1), .val (.int v2), .val (.int v4), .val (.int v6), .val (.int v7), .val (.ref b8), .val (.ref b9), .val (.ref b11), .val (.int ((q3 &&& (15 : Int64)).toInt32)), .val (.long j250), .second, .val (.int g260), .unset] [(.int (9 : Int32)), (.ref b9), (.int ((((((((v266 + v270) + v274) + v278) + v282) + v286) + v290) + v294) + v298))])) _
    refine XS.iload X297.here hx rfl (hb hby at_759) rfl ?_
    show Steps p.tables e below (T297.setTop (mkF m 761 #[.val (.long q0), .second, .val (.long q1), .second, .val (.long q2), .second, .val (.long q3), .second, .val (.int p4), .val (.int p5), .val (.int v1), .val (.int v2), .val (.int v4), .val (.int v6), .val (.int v7), .val (.ref b8), .val (.ref b9), .val (.ref b11), .val (.int ((q3 &&& (15 : Int64)).toInt32)), .val (.long j250), .second, .val (.int g260), .unset] [(.int v6), (.int (9 : Int32)), (.ref b9), (.int ((((((((v266 + v270) + v274) + v278) + v282) + v286) + v290) + v294) + v298))])) _
    refine XS.iload X297.here hx rfl (hb hby at_761) rfl ?_
    show Steps p.tables e below (T297.setTop (mkF m 763 #[.val (.long q0), .second, .val (.long q1), .second, .val (.long q2), .second, .val (.long q3), .second, .val (.int p4), .val (.int p5), .val (.int v1), .val (.int v2), .val (.int v4), .val (.int v6), .val (.int v7), .val (.ref b8), .val (.ref b9), .val (.ref b11), .val (.int ((q3 &&& (15 : Int64)).toInt32)), .val (.long j250), .second, .val (.int g260), .unset] [(.int v7), (.int v6), (.int (9 : Int32)), (.ref b9), (.int ((((((((v266 + v270) + v274) + v278) + v282) + v286) + v290) + v294) + v298))])) _
    refine XS.lload X297.here hx rfl (hb hby at_763) rfl ?_
    exact kk)
  obtain ⟨Lg300, X300, N300⟩ : ∃ L' : List Loc, Stand p l e room_1 s m #[(.long q0), (.long q1), (.long q2), (.long q3), (.int p4), (.int p5)] below meth c T297 L' 3 48 ∧ Fr n0 L' := ⟨_, X297, N297⟩
  (try clear e293); (try clear pre295); (try clear X296); (try clear N296); (try clear X297); (try clear st297); (try clear N297q); (try clear N297)
  obtain ⟨_, _, ⟨T301, L301, k301, n301⟩, -, X301, ⟨Lc301, hQ301, l301, y301, z301⟩, st301⟩ := Jvm.LawKit.callS X300 hx (y := (⟨"com/example/copyleaf/copyleaf/page/PageFirstAtLeastPinLaw", "b", "([JIIIJ)I"⟩ : MethodName)) hown (mvT hZ (hw _ (List.mem_of_getElem? (i := 16) rfl))) (mvT hZ (hw _ (List.mem_of_getElem? (i := 17) rfl))) (mvT hZ (hw _ (List.mem_of_getElem? (i := 5) rfl))) (mvT hZ (hw _ (List.mem_of_getElem? (i := 18) rfl))) (by decide) (backOf (W := 1) (rm4 l Z a0 hw [] b9 (9 : Int32) v6 v7 j250 k9 [(.long u_0), (.long u_1), (.long u_2), (.long u_3), (.long u_4), (.long u_5), (.long u_6), (.long u_7), (.long u_8), (.long u_9), (.long u_10), (.long u_11), (.long u_12), (.long u_13), (.long u_14), (.long u_15)] u_9 T248.heap n0 Zz262 Wu248 ⟨by decide, by decide⟩ rfl) hZ (hw _ (List.mem_of_getElem? (i := 18) rfl)) (hw _ (List.mem_of_getElem? (i := 5) rfl)) (by decide) (by decide)) (g := (mkF m 765 #[.val (.long q0), .second, .val (.long q1), .second, .val (.long q2), .second, .val (.long q3), .second, .val (.int p4), .val (.int p5), .val (.int v1), .val (.int v2), .val (.int v4), .val (.int v6), .val (.int v7), .val (.ref b8), .val (.ref b9), .val (.ref b11), .val (.int ((q3 &&& (15 : Int64)).toInt32)), .val (.long j250), .second, .val (.int g260), .unset] [(.long j250), (.int v7), (.int v6), (.int (9 : Int32)), (.ref b9), (.int ((((((((v266 + v270) + v274) + v278) + v282) + v286) + v290) + v294) + v298))])) rfl (by rw [hml]; rfl) (argsL := [(.ref b9), (.int (9 : Int32)), (.int v6), (.int v7), (.long j250)]) (rest := [(.int ((((((((v266 + v270) + v274) + v278) + v282) + v286) + v290) + v294) + v298))]) (lenOf pd__28_5bJIIIJ_29I rfl) rfl (by show 2 * 0 + _ ≤ _; exact Nat.le_of_eq rfl) (hb hby at_765) (fun _ _ => ⟨rfl, e297, (by decide : 3 + 0 ≤ _), (by decide : 48 + 0 ≤ _)⟩)
  dsimp only [Pt.U, Pt.locs, Pt.cells, Pt.slots] at X301 l301 y301 z301 st301 hQ301
  subst l301 y301 z301
  obtain ⟨rfl, N301q, e301⟩ := hQ301
  have N301 := Fr.app N300 N301q
  obtain ⟨v302, ev302⟩ : ∃ z : Int32, z = (bF (9 : Int32) v6 v7 j250 u_9) := ⟨_, rfl⟩
  have pre303 : ∀ t, Steps p.tables e below (T301.setTop (mkF m 779 #[.val (.long q0), .second, .val (.long q1), .second, .val (.long q2), .second, .val (.long q3), .second, .val (.int p4), .val (.int p5), .val (.int v1), .val (.int v2), .val (.int v4), .val (.int v6), .val (.int v7), .val (.ref b8), .val (.ref b9), .val (.ref b11), .val (.int ((q3 &&& (15 : Int64)).toInt32)), .val (.long j250), .second, .val (.int g260), .unset] [(.long j250), (.int v7), (.int v6), (.int (10 : Int32)), (.ref b9), (.int (((((((((v266 + v270) + v274) + v278) + v282) + v286) + v290) + v294) + v298) + v302))])) t → Steps p.tables e below (s₁.setTop (entryFrame m #[(.long q0), (.long q1), (.long q2), (.long q3), (.int p4), (.int p5)] maxLocals)) t := fun t kk => pre299 t (by
    show Steps p.tables e below (T297.setTop (mkF m 765 #[.val (.long q0), .second, .val (.long q1), .second, .val (.long q2), .second, .val (.long q3), .second, .val (.int p4), .val (.int p5), .val (.int v1), .val (.int v2), .val (.int v4), .val (.int v6), .val (.int v7), .val (.ref b8), .val (.ref b9), .val (.ref b11), .val (.int ((q3 &&& (15 : Int64)).toInt32)), .val (.long j250), .second, .val (.int g260), .unset] [(.long j250), (.int v7), (.int v6), (.int (9 : Int32)), (.ref b9), (.int ((((((((v266 + v270) + v274) + v278) + v282) + v286) + v290) + v294) + v298))])) _
    refine st301 _ ?_
    show Steps p.tables e below (T301.setTop (mkF m 768 #[.val (.long q0), .second, .val (.long q1), .second, .val (.long q2), .second, .val (.long q3), .second, .val (.int p4), .val (.int p5), .val (.int v1), .val (.int v2), .val (.int v4), .val (.int v6), .val (.int v7), .val (.ref b8), .val (.ref b9), .val (.ref b11), .val (.int ((q3 &&& (15 : Int64)).toInt32)), .val (.long j250), .second, .val (.int g260), .unset] [(.int (bF (9 : Int32) v6 v7 j250 u_9)), (.int ((((((((v266 + v270) + v274) + v278) + v282) + v286) + v290) + v294) + v298))])) _
    rw [← ev302]
    show Steps p.tables e below (T301.setTop (mkF m 768 #[.val (.long q0), .second, .val (.long q1), .second, .val (.long q2), .second, .val (.long q3), .second, .val (.int p4), .val (.int p5), .val (.int v1), .val (.int v2), .val (.int v4), .val (.int v6), .val (.int v7), .val (.ref b8), .val (.ref b9), .val (.ref b11), .val (.int ((q3 &&& (15 : Int64)).toInt32)), .val (.long j250), .second, .val (.int g260), .unset] [(.int v302), (.int ((((((((v266 + v270) + v274) + v278) + v282) + v286) + v290) + v294) + v298))])) _
    refine XS.iadd X301.here hx rfl (hb hby at_768) rfl ?_
    show Steps p.tables e below (T301.setTop (mkF m 769 #[.val (.long q0), .second, .val (.long q1), .second, .val (.long q2), .second, .val (.long q3), .second, .val (.int p4), .val (.int p5), .val (.int v1), .val (.int v2), .val (.int v4), .val (.int v6), .val (.int v7), .val (.ref b8), .val (.ref b9), .val (.ref b11), .val (.int ((q3 &&& (15 : Int64)).toInt32)), .val (.long j250), .second, .val (.int g260), .unset] [(.int (((((((((v266 + v270) + v274) + v278) + v282) + v286) + v290) + v294) + v298) + v302))])) _
    refine XS.aload X301.here hx rfl (hb hby at_769) rfl rfl ?_
    show Steps p.tables e below (T301.setTop (mkF m 771 #[.val (.long q0), .second, .val (.long q1), .second, .val (.long q2), .second, .val (.long q3), .second, .val (.int p4), .val (.int p5), .val (.int v1), .val (.int v2), .val (.int v4), .val (.int v6), .val (.int v7), .val (.ref b8), .val (.ref b9), .val (.ref b11), .val (.int ((q3 &&& (15 : Int64)).toInt32)), .val (.long j250), .second, .val (.int g260), .unset] [(.ref b9), (.int (((((((((v266 + v270) + v274) + v278) + v282) + v286) + v290) + v294) + v298) + v302))])) _
    refine XS.bipush X301.here hx rfl (hb hby at_771) ?_
    show Steps p.tables e below (T301.setTop (mkF m 773 #[.val (.long q0), .second, .val (.long q1), .second, .val (.long q2), .second, .val (.long q3), .second, .val (.int p4), .val (.int p5), .val (.int v1), .val (.int v2), .val (.int v4), .val (.int v6), .val (.int v7), .val (.ref b8), .val (.ref b9), .val (.ref b11), .val (.int ((q3 &&& (15 : Int64)).toInt32)), .val (.long j250), .second, .val (.int g260), .unset] [(.int (10 : Int32)), (.ref b9), (.int (((((((((v266 + v270) + v274) + v278) + v282) + v286) + v290) + v294) + v298) + v302))])) _
    refine XS.iload X301.here hx rfl (hb hby at_773) rfl ?_
    show Steps p.tables e below (T301.setTop (mkF m 775 #[.val (.long q0), .second, .val (.long q1), .second, .val (.long q2), .second, .val (.long q3), .second, .val (.int p4), .val (.int p5), .val (.int v1), .val (.int v2), .val (.int v4), .val (.int v6), .val (.int v7), .val (.ref b8), .val (.ref b9), .val (.ref b11), .val (.int ((q3 &&& (15 : Int64)).toInt32)), .val (.long j250), .second, .val (.int g260), .unset] [(.int v6), (.int (10 : Int32)), (.ref b9), (.int (((((((((v266 + v270) + v274) + v278) + v282) + v286) + v290) + v294) + v298) + v302))])) _
    refine XS.iload X301.here hx rfl (hb hby at_775) rfl ?_
    show Steps p.tables e below (T301.setTop (mkF m 777 #[.val (.long q0), .second, .val (.long q1), .second, .val (.long q2), .second, .val (.long q3), .second, .val (.int p4), .val (.int p5), .val (.int v1), .val (.int v2), .val (.int v4), .val (.int v6), .val (.int v7), .val (.ref b8), .val (.ref b9), .val (.ref b11), .val (.int ((q3 &&& (15 : Int64)).toInt32)), .val (.long j250), .second, .val (.int g260), .unset] [(.int v7), (.int v6), (.int (10 : Int32)), (.ref b9), (.int (((((((((v266 + v270) + v274) + v278) + v282) + v286) + v290) + v294) + v298) + v302))])) _
    refine XS.lload X301.here hx rfl (hb hby at_777) rfl ?_
    exact kk)
  obtain ⟨Lg304, X304, N304⟩ : ∃ L' : List Loc, Stand p l e room_1 s m #[(.long q0), (.long q1), (.long q2), (.long q3), (.int p4), (.int p5)] below meth c T301 L' 3 48 ∧ Fr n0 L' := ⟨_, X301, N301⟩
  (try clear e297); (try clear pre299); (try clear X300); (try clear N300); (try clear X301); (try clear st301); (try clear N301q); (try clear N301)
  obtain ⟨_, _, ⟨T305, L305, k305, n305⟩, -, X305, ⟨Lc305, hQ305, l305, y305, z305⟩, st305⟩ := Jvm.LawKit.callS X304 hx (y := (⟨"com/example/copyleaf/copyleaf/page/PageFirstAtLeastPinLaw", "b", "([JIIIJ)I"⟩ : MethodName)) hown (mvT hZ (hw _ (List.mem_of_getElem? (i := 16) rfl))) (mvT hZ (hw _ (List.mem_of_getElem? (i := 17) rfl))) (mvT hZ (hw _ (List.mem_of_getElem? (i := 5) rfl))) (mvT hZ (hw _ (List.mem_of_getElem? (i := 18) rfl))) (by decide) (backOf (W := 1) (rm4 l Z a0 hw [] b9 (10 : Int32) v6 v7 j250 k9 [(.long u_0), (.long u_1), (.long u_2), (.long u_3), (.long u_4), (.long u_5), (.long u_6), (.long u_7), (.long u_8), (.long u_9), (.long u_10), (.long u_11), (.long u_12), (.long u_13), (.long u_14), (.long u_15)] u_10 T248.heap n0 Zz262 Wu248 ⟨by decide, by decide⟩ rfl) hZ (hw _ (List.mem_of_getElem? (i := 18) rfl)) (hw _ (List.mem_of_getElem? (i := 5) rfl)) (by decide) (by decide)) (g := (mkF m 779 #[.val (.long q0), .second, .val (.long q1), .second, .val (.long q2), .second, .val (.long q3), .second, .val (.int p4), .val (.int p5), .val (.int v1), .val (.int v2), .val (.int v4), .val (.int v6), .val (.int v7), .val (.ref b8), .val (.ref b9), .val (.ref b11), .val (.int ((q3 &&& (15 : Int64)).toInt32)), .val (.long j250), .second, .val (.int g260), .unset] [(.long j250), (.int v7), (.int v6), (.int (10 : Int32)), (.ref b9), (.int (((((((((v266 + v270) + v274) + v278) + v282) + v286) + v290) + v294) + v298) + v302))])) rfl (by rw [hml]; rfl) (argsL := [(.ref b9), (.int (10 : Int32)), (.int v6), (.int v7), (.long j250)]) (rest := [(.int (((((((((v266 + v270) + v274) + v278) + v282) + v286) + v290) + v294) + v298) + v302))]) (lenOf pd__28_5bJIIIJ_29I rfl) rfl (by show 2 * 0 + _ ≤ _; exact Nat.le_of_eq rfl) (hb hby at_779) (fun _ _ => ⟨rfl, e301, (by decide : 3 + 0 ≤ _), (by decide : 48 + 0 ≤ _)⟩)
  dsimp only [Pt.U, Pt.locs, Pt.cells, Pt.slots] at X305 l305 y305 z305 st305 hQ305
  subst l305 y305 z305
  obtain ⟨rfl, N305q, e305⟩ := hQ305
  have N305 := Fr.app N304 N305q
  obtain ⟨v306, ev306⟩ : ∃ z : Int32, z = (bF (10 : Int32) v6 v7 j250 u_10) := ⟨_, rfl⟩
  have pre307 : ∀ t, Steps p.tables e below (T305.setTop (mkF m 793 #[.val (.long q0), .second, .val (.long q1), .second, .val (.long q2), .second, .val (.long q3), .second, .val (.int p4), .val (.int p5), .val (.int v1), .val (.int v2), .val (.int v4), .val (.int v6), .val (.int v7), .val (.ref b8), .val (.ref b9), .val (.ref b11), .val (.int ((q3 &&& (15 : Int64)).toInt32)), .val (.long j250), .second, .val (.int g260), .unset] [(.long j250), (.int v7), (.int v6), (.int (11 : Int32)), (.ref b9), (.int ((((((((((v266 + v270) + v274) + v278) + v282) + v286) + v290) + v294) + v298) + v302) + v306))])) t → Steps p.tables e below (s₁.setTop (entryFrame m #[(.long q0), (.long q1), (.long q2), (.long q3), (.int p4), (.int p5)] maxLocals)) t := fun t kk => pre303 t (by
    show Steps p.tables e below (T301.setTop (mkF m 779 #[.val (.long q0), .second, .val (.long q1), .second, .val (.long q2), .second, .val (.long q3), .second, .val (.int p4), .val (.int p5), .val (.int v1), .val (.int v2), .val (.int v4), .val (.int v6), .val (.int v7), .val (.ref b8), .val (.ref b9), .val (.ref b11), .val (.int ((q3 &&& (15 : Int64)).toInt32)), .val (.long j250), .second, .val (.int g260), .unset] [(.long j250), (.int v7), (.int v6), (.int (10 : Int32)), (.ref b9), (.int (((((((((v266 + v270) + v274) + v278) + v282) + v286) + v290) + v294) + v298) + v302))])) _
    refine st305 _ ?_
    show Steps p.tables e below (T305.setTop (mkF m 782 #[.val (.long q0), .second, .val (.long q1), .second, .val (.long q2), .second, .val (.long q3), .second, .val (.int p4), .val (.int p5), .val (.int v1), .val (.int v2), .val (.int v4), .val (.int v6), .val (.int v7), .val (.ref b8), .val (.ref b9), .val (.ref b11), .val (.int ((q3 &&& (15 : Int64)).toInt32)), .val (.long j250), .second, .val (.int g260), .unset] [(.int (bF (10 : Int32) v6 v7 j250 u_10)), (.int (((((((((v266 + v270) + v274) + v278) + v282) + v286) + v290) + v294) + v298) + v302))])) _
    rw [← ev306]
    show Steps p.tables e below (T305.setTop (mkF m 782 #[.val (.long q0), .second, .val (.long q1), .second, .val (.long q2), .second, .val (.long q3), .second, .val (.int p4), .val (.int p5), .val (.int v1), .val (.int v2), .val (.int v4), .val (.int v6), .val (.int v7), .val (.ref b8), .val (.ref b9), .val (.ref b11), .val (.int ((q3 &&& (15 : Int64)).toInt32)), .val (.long j250), .second, .val (.int g260), .unset] [(.int v306), (.int (((((((((v266 + v270) + v274) + v278) + v282) + v286) + v290) + v294) + v298) + v302))])) _
    refine XS.iadd X305.here hx rfl (hb hby at_782) rfl ?_
    show Steps p.tables e below (T305.setTop (mkF m 783 #[.val (.long q0), .second, .val (.long q1), .second, .val (.long q2), .second, .val (.long q3), .second, .val (.int p4), .val (.int p5), .val (.int v1), .val (.int v2), .val (.int v4), .val (.int v6), .val (.int v7), .val (.ref b8), .val (.ref b9), .val (.ref b11), .val (.int ((q3 &&& (15 : Int64)).toInt32)), .val (.long j250), .second, .val (.int g260), .unset] [(.int ((((((((((v266 + v270) + v274) + v278) + v282) + v286) + v290) + v294) + v298) + v302) + v306))])) _
    refine XS.aload X305.here hx rfl (hb hby at_783) rfl rfl ?_
    show Steps p.tables e below (T305.setTop (mkF m 785 #[.val (.long q0), .second, .val (.long q1), .second, .val (.long q2), .second, .val (.long q3), .second, .val (.int p4), .val (.int p5), .val (.int v1), .val (.int v2), .val (.int v4), .val (.int v6), .val (.int v7), .val (.ref b8), .val (.ref b9), .val (.ref b11), .val (.int ((q3 &&& (15 : Int64)).toInt32)), .val (.long j250), .second, .val (.int g260), .unset] [(.ref b9), (.int ((((((((((v266 + v270) + v274) + v278) + v282) + v286) + v290) + v294) + v298) + v302) + v306))])) _
    refine XS.bipush X305.here hx rfl (hb hby at_785) ?_
    show Steps p.tables e below (T305.setTop (mkF m 787 #[.val (.long q0), .second, .val (.long q1), .second, .val (.long q2), .second, .val (.long q3), .second, .val (.int p4), .val (.int p5), .val (.int v1), .val (.int v2), .val (.int v4), .val (.int v6), .val (.int v7), .val (.ref b8), .val (.ref b9), .val (.ref b11), .val (.int ((q3 &&& (15 : Int64)).toInt32)), .val (.long j250), .second, .val (.int g260), .unset] [(.int (11 : Int32)), (.ref b9), (.int ((((((((((v266 + v270) + v274) + v278) + v282) + v286) + v290) + v294) + v298) + v302) + v306))])) _
    refine XS.iload X305.here hx rfl (hb hby at_787) rfl ?_
    show Steps p.tables e below (T305.setTop (mkF m 789 #[.val (.long q0), .second, .val (.long q1), .second, .val (.long q2), .second, .val (.long q3), .second, .val (.int p4), .val (.int p5), .val (.int v1), .val (.int v2), .val (.int v4), .val (.int v6), .val (.int v7), .val (.ref b8), .val (.ref b9), .val (.ref b11), .val (.int ((q3 &&& (15 : Int64)).toInt32)), .val (.long j250), .second, .val (.int g260), .unset] [(.int v6), (.int (11 : Int32)), (.ref b9), (.int ((((((((((v266 + v270) + v274) + v278) + v282) + v286) + v290) + v294) + v298) + v302) + v306))])) _
    refine XS.iload X305.here hx rfl (hb hby at_789) rfl ?_
    show Steps p.tables e below (T305.setTop (mkF m 791 #[.val (.long q0), .second, .val (.long q1), .second, .val (.long q2), .second, .val (.long q3), .second, .val (.int p4), .val (.int p5), .val (.int v1), .val (.int v2), .val (.int v4), .val (.int v6), .val (.int v7), .val (.ref b8), .val (.ref b9), .val (.ref b11), .val (.int ((q3 &&& (15 : Int64)).toInt32)), .val (.long j250), .second, .val (.int g260), .unset] [(.int v7), (.int v6), (.int (11 : Int32)), (.ref b9), (.int ((((((((((v266 + v270) + v274) + v278) + v282) + v286) + v290) + v294) + v298) + v302) + v306))])) _
    refine XS.lload X305.here hx rfl (hb hby at_791) rfl ?_
    exact kk)
  obtain ⟨Lg308, X308, N308⟩ : ∃ L' : List Loc, Stand p l e room_1 s m #[(.long q0), (.long q1), (.long q2), (.long q3), (.int p4), (.int p5)] below meth c T305 L' 3 48 ∧ Fr n0 L' := ⟨_, X305, N305⟩
  (try clear e301); (try clear pre303); (try clear X304); (try clear N304); (try clear X305); (try clear st305); (try clear N305q); (try clear N305)
  obtain ⟨_, _, ⟨T309, L309, k309, n309⟩, -, X309, ⟨Lc309, hQ309, l309, y309, z309⟩, st309⟩ := Jvm.LawKit.callS X308 hx (y := (⟨"com/example/copyleaf/copyleaf/page/PageFirstAtLeastPinLaw", "b", "([JIIIJ)I"⟩ : MethodName)) hown (mvT hZ (hw _ (List.mem_of_getElem? (i := 16) rfl))) (mvT hZ (hw _ (List.mem_of_getElem? (i := 17) rfl))) (mvT hZ (hw _ (List.mem_of_getElem? (i := 5) rfl))) (mvT hZ (hw _ (List.mem_of_getElem? (i := 18) rfl))) (by decide) (backOf (W := 1) (rm4 l Z a0 hw [] b9 (11 : Int32) v6 v7 j250 k9 [(.long u_0), (.long u_1), (.long u_2), (.long u_3), (.long u_4), (.long u_5), (.long u_6), (.long u_7), (.long u_8), (.long u_9), (.long u_10), (.long u_11), (.long u_12), (.long u_13), (.long u_14), (.long u_15)] u_11 T248.heap n0 Zz262 Wu248 ⟨by decide, by decide⟩ rfl) hZ (hw _ (List.mem_of_getElem? (i := 18) rfl)) (hw _ (List.mem_of_getElem? (i := 5) rfl)) (by decide) (by decide)) (g := (mkF m 793 #[.val (.long q0), .second, .val (.long q1), .second, .val (.long q2), .second, .val (.long q3), .second, .val (.int p4), .val (.int p5), .val (.int v1), .val (.int v2), .val (.int v4), .val (.int v6), .val (.int v7), .val (.ref b8), .val (.ref b9), .val (.ref b11), .val (.int ((q3 &&& (15 : Int64)).toInt32)), .val (.long j250), .second, .val (.int g260), .unset] [(.long j250), (.int v7), (.int v6), (.int (11 : Int32)), (.ref b9), (.int ((((((((((v266 + v270) + v274) + v278) + v282) + v286) + v290) + v294) + v298) + v302) + v306))])) rfl (by rw [hml]; rfl) (argsL := [(.ref b9), (.int (11 : Int32)), (.int v6), (.int v7), (.long j250)]) (rest := [(.int ((((((((((v266 + v270) + v274) + v278) + v282) + v286) + v290) + v294) + v298) + v302) + v306))]) (lenOf pd__28_5bJIIIJ_29I rfl) rfl (by show 2 * 0 + _ ≤ _; exact Nat.le_of_eq rfl) (hb hby at_793) (fun _ _ => ⟨rfl, e305, (by decide : 3 + 0 ≤ _), (by decide : 48 + 0 ≤ _)⟩)
  dsimp only [Pt.U, Pt.locs, Pt.cells, Pt.slots] at X309 l309 y309 z309 st309 hQ309
  subst l309 y309 z309
  obtain ⟨rfl, N309q, e309⟩ := hQ309
  have N309 := Fr.app N308 N309q
  obtain ⟨v310, ev310⟩ : ∃ z : Int32, z = (bF (11 : Int32) v6 v7 j250 u_11) := ⟨_, rfl⟩
  have pre311 : ∀ t, Steps p.tables e below (T309.setTop (mkF m 807 #[.val (.long q0), .second, .val (.long q1), .second, .val (.long q2), .second, .val (.long q3), .second, .val (.int p4), .val (.int p5), .val (.int v1), .val (.int v2), .val (.int v4), .val (.int v6), .val (.int v7), .val (.ref b8), .val (.ref b9), .val (.ref b11), .val (.int ((q3 &&& (15 : Int64)).toInt32)), .val (.long j250), .second, .val (.int g260), .unset] [(.long j250), (.int v7), (.int v6), (.int (12 : Int32)), (.ref b9), (.int (((((((((((v266 + v270) + v274) + v278) + v282) + v286) + v290) + v294) + v298) + v302) + v306) + v310))])) t → Steps p.tables e below (s₁.setTop (entryFrame m #[(.long q0), (.long q1), (.long q2), (.long q3), (.int p4), (.int p5)] maxLocals)) t := fun t kk => pre307 t (by
    show Steps p.tables e below (T305.setTop (mkF m 793 #[.val (.long q0), .second, .val (.long q1), .second, .val (.long q2), .second, .val (.long q3), .second, .val (.int p4), .val (.int p5), .val (.int v1), .val (.int v2), .val (.int v4), .val (.int v6), .val (.int v7), .val (.ref b8), .val (.ref b9), .val (.ref b11), .val (.int ((q3 &&& (15 : Int64)).toInt32)), .val (.long j250), .second, .val (.int g260), .unset] [(.long j250), (.int v7), (.int v6), (.int (11 : Int32)), (.ref b9), (.int ((((((((((v266 + v270) + v274) + v278) + v282) + v286) + v290) + v294) + v298) + v302) + v306))])) _
    refine st309 _ ?_
    show Steps p.tables e below (T309.setTop (mkF m 796 #[.val (.long q0), .second, .val (.long q1), .second, .val (.long q2), .second, .val (.long q3), .second, .val (.int p4), .val (.int p5), .val (.int v1), .val (.int v2), .val (.int v4), .val (.int v6), .val (.int v7), .val (.ref b8), .val (.ref b9), .val (.ref b11), .val (.int ((q3 &&& (15 : Int64)).toInt32)), .val (.long j250), .second, .val (.int g260), .unset] [(.int (bF (11 : Int32) v6 v7 j250 u_11)), (.int ((((((((((v266 + v270) + v274) + v278) + v282) + v286) + v290) + v294) + v298) + v302) + v306))])) _
    rw [← ev310]
    show Steps p.tables e below (T309.setTop (mkF m 796 #[.val (.long q0), .second, .val (.long q1), .second, .val (.long q2), .second, .val (.long q3), .second, .val (.int p4), .val (.int p5), .val (.int v1), .val (.int v2), .val (.int v4), .val (.int v6), .val (.int v7), .val (.ref b8), .val (.ref b9), .val (.ref b11), .val (.int ((q3 &&& (15 : Int64)).toInt32)), .val (.long j250), .second, .val (.int g260), .unset] [(.int v310), (.int ((((((((((v266 + v270) + v274) + v278) + v282) + v286) + v290) + v294) + v298) + v302) + v306))])) _
    refine XS.iadd X309.here hx rfl (hb hby at_796) rfl ?_
    show Steps p.tables e below (T309.setTop (mkF m 797 #[.val (.long q0), .second, .val (.long q1), .second, .val (.long q2), .second, .val (.long q3), .second, .val (.int p4), .val (.int p5), .val (.int v1), .val (.int v2), .val (.int v4), .val (.int v6), .val (.int v7), .val (.ref b8), .val (.ref b9), .val (.ref b11), .val (.int ((q3 &&& (15 : Int64)).toInt32)), .val (.long j250), .second, .val (.int g260), .unset] [(.int (((((((((((v266 + v270) + v274) + v278) + v282) + v286) + v290) + v294) + v298) + v302) + v306) + v310))])) _
    refine XS.aload X309.here hx rfl (hb hby at_797) rfl rfl ?_
    show Steps p.tables e below (T309.setTop (mkF m 799 #[.val (.long q0), .second, .val (.long q1), .second, .val (.long q2), .second, .val (.long q3), .second, .val (.int p4), .val (.int p5), .val (.int v1), .val (.int v2), .val (.int v4), .val (.int v6), .val (.int v7), .val (.ref b8), .val (.ref b9), .val (.ref b11), .val (.int ((q3 &&& (15 : Int64)).toInt32)), .val (.long j250), .second, .val (.int g260), .unset] [(.ref b9), (.int (((((((((((v266 + v270) + v274) + v278) + v282) + v286) + v290) + v294) + v298) + v302) + v306) + v310))])) _
    refine XS.bipush X309.here hx rfl (hb hby at_799) ?_
    show Steps p.tables e below (T309.setTop (mkF m 801 #[.val (.long q0), .second, .val (.long q1), .second, .val (.long q2), .second, .val (.long q3), .second, .val (.int p4), .val (.int p5), .val (.int v1), .val (.int v2), .val (.int v4), .val (.int v6), .val (.int v7), .val (.ref b8), .val (.ref b9), .val (.ref b11), .val (.int ((q3 &&& (15 : Int64)).toInt32)), .val (.long j250), .second, .val (.int g260), .unset] [(.int (12 : Int32)), (.ref b9), (.int (((((((((((v266 + v270) + v274) + v278) + v282) + v286) + v290) + v294) + v298) + v302) + v306) + v310))])) _
    refine XS.iload X309.here hx rfl (hb hby at_801) rfl ?_
    show Steps p.tables e below (T309.setTop (mkF m 803 #[.val (.long q0), .second, .val (.long q1), .second, .val (.long q2), .second, .val (.long q3), .second, .val (.int p4), .val (.int p5), .val (.int v1), .val (.int v2), .val (.int v4), .val (.int v6), .val (.int v7), .val (.ref b8), .val (.ref b9), .val (.ref b11), .val (.int ((q3 &&& (15 : Int64)).toInt32)), .val (.long j250), .second, .val (.int g260), .unset] [(.int v6), (.int (12 : Int32)), (.ref b9), (.int (((((((((((v266 + v270) + v274) + v278) + v282) + v286) + v290) + v294) + v298) + v302) + v306) + v310))])) _
    refine XS.iload X309.here hx rfl (hb hby at_803) rfl ?_
    show Steps p.tables e below (T309.setTop (mkF m 805 #[.val (.long q0), .second, .val (.long q1), .second, .val (.long q2), .second, .val (.long q3), .second, .val (.int p4), .val (.int p5), .val (.int v1), .val (.int v2), .val (.int v4), .val (.int v6), .val (.int v7), .val (.ref b8), .val (.ref b9), .val (.ref b11), .val (.int ((q3 &&& (15 : Int64)).toInt32)), .val (.long j250), .second, .val (.int g260), .unset] [(.int v7), (.int v6), (.int (12 : Int32)), (.ref b9), (.int (((((((((((v266 + v270) + v274) + v278) + v282) + v286) + v290) + v294) + v298) + v302) + v306) + v310))])) _
    refine XS.lload X309.here hx rfl (hb hby at_805) rfl ?_
    exact kk)
  obtain ⟨Lg312, X312, N312⟩ : ∃ L' : List Loc, Stand p l e room_1 s m #[(.long q0), (.long q1), (.long q2), (.long q3), (.int p4), (.int p5)] below meth c T309 L' 3 48 ∧ Fr n0 L' := ⟨_, X309, N309⟩
  (try clear e305); (try clear pre307); (try clear X308); (try clear N308); (try clear X309); (try clear st309); (try clear N309q); (try clear N309)
  obtain ⟨_, _, ⟨T313, L313, k313, n313⟩, -, X313, ⟨Lc313, hQ313, l313, y313, z313⟩, st313⟩ := Jvm.LawKit.callS X312 hx (y := (⟨"com/example/copyleaf/copyleaf/page/PageFirstAtLeastPinLaw", "b", "([JIIIJ)I"⟩ : MethodName)) hown (mvT hZ (hw _ (List.mem_of_getElem? (i := 16) rfl))) (mvT hZ (hw _ (List.mem_of_getElem? (i := 17) rfl))) (mvT hZ (hw _ (List.mem_of_getElem? (i := 5) rfl))) (mvT hZ (hw _ (List.mem_of_getElem? (i := 18) rfl))) (by decide) (backOf (W := 1) (rm4 l Z a0 hw [] b9 (12 : Int32) v6 v7 j250 k9 [(.long u_0), (.long u_1), (.long u_2), (.long u_3), (.long u_4), (.long u_5), (.long u_6), (.long u_7), (.long u_8), (.long u_9), (.long u_10), (.long u_11), (.long u_12), (.long u_13), (.long u_14), (.long u_15)] u_12 T248.heap n0 Zz262 Wu248 ⟨by decide, by decide⟩ rfl) hZ (hw _ (List.mem_of_getElem? (i := 18) rfl)) (hw _ (List.mem_of_getElem? (i := 5) rfl)) (by decide) (by decide)) (g := (mkF m 807 #[.val (.long q0), .second, .val (.long q1), .second, .val (.long q2), .second, .val (.long q3), .second, .val (.int p4), .val (.int p5), .val (.int v1), .val (.int v2), .val (.int v4), .val (.int v6), .val (.int v7), .val (.ref b8), .val (.ref b9), .val (.ref b11), .val (.int ((q3 &&& (15 : Int64)).toInt32)), .val (.long j250), .second, .val (.int g260), .unset] [(.long j250), (.int v7), (.int v6), (.int (12 : Int32)), (.ref b9), (.int (((((((((((v266 + v270) + v274) + v278) + v282) + v286) + v290) + v294) + v298) + v302) + v306) + v310))])) rfl (by rw [hml]; rfl) (argsL := [(.ref b9), (.int (12 : Int32)), (.int v6), (.int v7), (.long j250)]) (rest := [(.int (((((((((((v266 + v270) + v274) + v278) + v282) + v286) + v290) + v294) + v298) + v302) + v306) + v310))]) (lenOf pd__28_5bJIIIJ_29I rfl) rfl (by show 2 * 0 + _ ≤ _; exact Nat.le_of_eq rfl) (hb hby at_807) (fun _ _ => ⟨rfl, e309, (by decide : 3 + 0 ≤ _), (by decide : 48 + 0 ≤ _)⟩)
  dsimp only [Pt.U, Pt.locs, Pt.cells, Pt.slots] at X313 l313 y313 z313 st313 hQ313
  subst l313 y313 z313
  obtain ⟨rfl, N313q, e313⟩ := hQ313
  have N313 := Fr.app N312 N313q
  obtain ⟨v314, ev314⟩ : ∃ z : Int32, z = (bF (12 : Int32) v6 v7 j250 u_12) := ⟨_, rfl⟩
  have pre315 : ∀ t, Steps p.tables e below (T313.setTop (mkF m 821 #[.val (.long q0), .second, .val (.long q1), .second, .val (.long q2), .second, .val (.long q3), .second, .val (.int p4), .val (.int p5), .val (.int v1), .val (.int v2), .val (.int v4), .val (.int v6), .val (.int v7), .val (.ref b8), .val (.ref b9), .val (.ref b11), .val (.int ((q3 &&& (15 : Int64)).toInt32)), .val (.long j250), .second, .val (.int g260), .unset] [(.long j250), (.int v7), (.int v6), (.int (13 : Int32)), (.ref b9), (.int ((((((((((((v266 + v270) + v274) + v278) + v282) + v286) + v290) + v294) + v298) + v302) + v306) + v310) + v314))])) t → Steps p.tables e below (s₁.setTop (entryFrame m #[(.long q0), (.long q1), (.long q2), (.long q3), (.int p4), (.int p5)] maxLocals)) t := fun t kk => pre311 t (by
    show Steps p.tables e below (T309.setTop (mkF m 807 #[.val (.long q0), .second, .val (.long q1), .second, .val (.long q2), .second, .val (.long q3), .second, .val (.int p4), .val (.int p5), .val (.int v1), .val (.int v2), .val (.int v4), .val (.int v6), .val (.int v7), .val (.ref b8), .val (.ref b9), .val (.ref b11), .val (.int ((q3 &&& (15 : Int64)).toInt32)), .val (.long j250), .second, .val (.int g260), .unset] [(.long j250), (.int v7), (.int v6), (.int (12 : Int32)), (.ref b9), (.int (((((((((((v266 + v270) + v274) + v278) + v282) + v286) + v290) + v294) + v298) + v302) + v306) + v310))])) _
    refine st313 _ ?_
    show Steps p.tables e below (T313.setTop (mkF m 810 #[.val (.long q0), .second, .val (.long q1), .second, .val (.long q2), .second, .val (.long q3), .second, .val (.int p4), .val (.int p5), .val (.int v1), .val (.int v2), .val (.int v4), .val (.int v6), .val (.int v7), .val (.ref b8), .val (.ref b9), .val (.ref b11), .val (.int ((q3 &&& (15 : Int64)).toInt32)), .val (.long j250), .second, .val (.int g260), .unset] [(.int (bF (12 : Int32) v6 v7 j250 u_12)), (.int (((((((((((v266 + v270) + v274) + v278) + v282) + v286) + v290) + v294) + v298) + v302) + v306) + v310))])) _
    rw [← ev314]
    show Steps p.tables e below (T313.setTop (mkF m 810 #[.val (.long q0), .second, .val (.long q1), .second, .val (.long q2), .second, .val (.long q3), .second, .val (.int p4), .val (.int p5), .val (.int v1), .val (.int v2), .val (.int v4), .val (.int v6), .val (.int v7), .val (.ref b8), .val (.ref b9), .val (.ref b11), .val (.int ((q3 &&& (15 : Int64)).toInt32)), .val (.long j250), .second, .val (.int g260), .unset] [(.int v314), (.int (((((((((((v266 + v270) + v274) + v278) + v282) + v286) + v290) + v294) + v298) + v302) + v306) + v310))])) _
    refine XS.iadd X313.here hx rfl (hb hby at_810) rfl ?_
    show Steps p.tables e below (T313.setTop (mkF m 811 #[.val (.long q0), .second, .val (.long q1), .second, .val (.long q2), .second, .val (.long q3), .second, .val (.int p4), .val (.int p5), .val (.int v1), .val (.int v2), .val (.int v4), .val (.int v6), .val (.int v7), .val (.ref b8), .val (.ref b9), .val (.ref b11), .val (.int ((q3 &&& (15 : Int64)).toInt32)), .val (.long j250), .second, .val (.int g260), .unset] [(.int ((((((((((((v266 + v270) + v274) + v278) + v282) + v286) + v290) + v294) + v298) + v302) + v306) + v310) + v314))])) _
    refine XS.aload X313.here hx rfl (hb hby at_811) rfl rfl ?_
    show Steps p.tables e below (T313.setTop (mkF m 813 #[.val (.long q0), .second, .val (.long q1), .second, .val (.long q2), .second, .val (.long q3), .second, .val (.int p4), .val (.int p5), .val (.int v1), .val (.int v2), .val (.int v4), .val (.int v6), .val (.int v7), .val (.ref b8), .val (.ref b9), .val (.ref b11), .val (.int ((q3 &&& (15 : Int64)).toInt32)), .val (.long j250), .second, .val (.int g260), .unset] [(.ref b9), (.int ((((((((((((v266 + v270) + v274) + v278) + v282) + v286) + v290) + v294) + v298) + v302) + v306) + v310) + v314))])) _
    refine XS.bipush X313.here hx rfl (hb hby at_813) ?_
    show Steps p.tables e below (T313.setTop (mkF m 815 #[.val (.long q0), .second, .val (.long q1), .second, .val (.long q2), .second, .val (.long q3), .second, .val (.int p4), .val (.int p5), .val (.int v1), .val (.int v2), .val (.int v4), .val (.int v6), .val (.int v7), .val (.ref b8), .val (.ref b9), .val (.ref b11), .val (.int ((q3 &&& (15 : Int64)).toInt32)), .val (.long j250), .second, .val (.int g260), .unset] [(.int (13 : Int32)), (.ref b9), (.int ((((((((((((v266 + v270) + v274) + v278) + v282) + v286) + v290) + v294) + v298) + v302) + v306) + v310) + v314))])) _
    refine XS.iload X313.here hx rfl (hb hby at_815) rfl ?_
    show Steps p.tables e below (T313.setTop (mkF m 817 #[.val (.long q0), .second, .val (.long q1), .second, .val (.long q2), .second, .val (.long q3), .second, .val (.int p4), .val (.int p5), .val (.int v1), .val (.int v2), .val (.int v4), .val (.int v6), .val (.int v7), .val (.ref b8), .val (.ref b9), .val (.ref b11), .val (.int ((q3 &&& (15 : Int64)).toInt32)), .val (.long j250), .second, .val (.int g260), .unset] [(.int v6), (.int (13 : Int32)), (.ref b9), (.int ((((((((((((v266 + v270) + v274) + v278) + v282) + v286) + v290) + v294) + v298) + v302) + v306) + v310) + v314))])) _
    refine XS.iload X313.here hx rfl (hb hby at_817) rfl ?_
    show Steps p.tables e below (T313.setTop (mkF m 819 #[.val (.long q0), .second, .val (.long q1), .second, .val (.long q2), .second, .val (.long q3), .second, .val (.int p4), .val (.int p5), .val (.int v1), .val (.int v2), .val (.int v4), .val (.int v6), .val (.int v7), .val (.ref b8), .val (.ref b9), .val (.ref b11), .val (.int ((q3 &&& (15 : Int64)).toInt32)), .val (.long j250), .second, .val (.int g260), .unset] [(.int v7), (.int v6), (.int (13 : Int32)), (.ref b9), (.int ((((((((((((v266 + v270) + v274) + v278) + v282) + v286) + v290) + v294) + v298) + v302) + v306) + v310) + v314))])) _
    refine XS.lload X313.here hx rfl (hb hby at_819) rfl ?_
    exact kk)
  obtain ⟨Lg316, X316, N316⟩ : ∃ L' : List Loc, Stand p l e room_1 s m #[(.long q0), (.long q1), (.long q2), (.long q3), (.int p4), (.int p5)] below meth c T313 L' 3 48 ∧ Fr n0 L' := ⟨_, X313, N313⟩
  (try clear e309); (try clear pre311); (try clear X312); (try clear N312); (try clear X313); (try clear st313); (try clear N313q); (try clear N313)
  obtain ⟨_, _, ⟨T317, L317, k317, n317⟩, -, X317, ⟨Lc317, hQ317, l317, y317, z317⟩, st317⟩ := Jvm.LawKit.callS X316 hx (y := (⟨"com/example/copyleaf/copyleaf/page/PageFirstAtLeastPinLaw", "b", "([JIIIJ)I"⟩ : MethodName)) hown (mvT hZ (hw _ (List.mem_of_getElem? (i := 16) rfl))) (mvT hZ (hw _ (List.mem_of_getElem? (i := 17) rfl))) (mvT hZ (hw _ (List.mem_of_getElem? (i := 5) rfl))) (mvT hZ (hw _ (List.mem_of_getElem? (i := 18) rfl))) (by decide) (backOf (W := 1) (rm4 l Z a0 hw [] b9 (13 : Int32) v6 v7 j250 k9 [(.long u_0), (.long u_1), (.long u_2), (.long u_3), (.long u_4), (.long u_5), (.long u_6), (.long u_7), (.long u_8), (.long u_9), (.long u_10), (.long u_11), (.long u_12), (.long u_13), (.long u_14), (.long u_15)] u_13 T248.heap n0 Zz262 Wu248 ⟨by decide, by decide⟩ rfl) hZ (hw _ (List.mem_of_getElem? (i := 18) rfl)) (hw _ (List.mem_of_getElem? (i := 5) rfl)) (by decide) (by decide)) (g := (mkF m 821 #[.val (.long q0), .second, .val (.long q1), .second, .val (.long q2), .second, .val (.long q3), .second, .val (.int p4), .val (.int p5), .val (.int v1), .val (.int v2), .val (.int v4), .val (.int v6), .val (.int v7), .val (.ref b8), .val (.ref b9), .val (.ref b11), .val (.int ((q3 &&& (15 : Int64)).toInt32)), .val (.long j250), .second, .val (.int g260), .unset] [(.long j250), (.int v7), (.int v6), (.int (13 : Int32)), (.ref b9), (.int ((((((((((((v266 + v270) + v274) + v278) + v282) + v286) + v290) + v294) + v298) + v302) + v306) + v310) + v314))])) rfl (by rw [hml]; rfl) (argsL := [(.ref b9), (.int (13 : Int32)), (.int v6), (.int v7), (.long j250)]) (rest := [(.int ((((((((((((v266 + v270) + v274) + v278) + v282) + v286) + v290) + v294) + v298) + v302) + v306) + v310) + v314))]) (lenOf pd__28_5bJIIIJ_29I rfl) rfl (by show 2 * 0 + _ ≤ _; exact Nat.le_of_eq rfl) (hb hby at_821) (fun _ _ => ⟨rfl, e313, (by decide : 3 + 0 ≤ _), (by decide : 48 + 0 ≤ _)⟩)
  dsimp only [Pt.U, Pt.locs, Pt.cells, Pt.slots] at X317 l317 y317 z317 st317 hQ317
  subst l317 y317 z317
  obtain ⟨rfl, N317q, e317⟩ := hQ317
  have N317 := Fr.app N316 N317q
  obtain ⟨v318, ev318⟩ : ∃ z : Int32, z = (bF (13 : Int32) v6 v7 j250 u_13) := ⟨_, rfl⟩
  have pre319 : ∀ t, Steps p.tables e below (T317.setTop (mkF m 835 #[.val (.long q0), .second, .val (.long q1), .second, .val (.long q2), .second, .val (.long q3), .second, .val (.int p4), .val (.int p5), .val (.int v1), .val (.int v2), .val (.int v4), .val (.int v6), .val (.int v7), .val (.ref b8), .val (.ref b9), .val (.ref b11), .val (.int ((q3 &&& (15 : Int64)).toInt32)), .val (.long j250), .second, .val (.int g260), .unset] [(.long j250), (.int v7), (.int v6), (.int (14 : Int32)), (.ref b9), (.int (((((((((((((v266 + v270) + v274) + v278) + v282) + v286) + v290) + v294) + v298) + v302) + v306) + v310) + v314) + v318))])) t → Steps p.tables e below (s₁.setTop (entryFrame m #[(.long q0), (.long q1), (.long q2), (.long q3), (.int p4), (.int p5)] maxLocals)) t := fun t kk => pre315 t (by
    show Steps p.tables e below (T313.setTop (mkF m 821 #[.val (.long q0), .second, .val (.long q1), .second, .val (.long q2), .second, .val (.long q3), .second, .val (.int p4), .val (.int p5), .val (.int v1), .val (.int v2), .val (.int v4), .val (.int v6), .val (.int v7), .val (.ref b8), .val (.ref b9), .val (.ref b11), .val (.int ((q3 &&& (15 : Int64)).toInt32)), .val (.long j250), .second, .val (.int g260), .unset] [(.long j250), (.int v7), (.int v6), (.int (13 : Int32)), (.ref b9), (.int ((((((((((((v266 + v270) + v274) + v278) + v282) + v286) + v290) + v294) + v298) + v302) + v306) + v310) + v314))])) _
    refine st317 _ ?_
    show Steps p.tables e below (T317.setTop (mkF m 824 #[.val (.long q0), .second, .val (.long q1), .second, .val (.long q2), .second, .val (.long q3), .second, .val (.int p4), .val (.int p5), .val (.int v1), .val (.int v2), .val (.int v4), .val (.int v6), .val (.int v7), .val (.ref b8), .val (.ref b9), .val (.ref b11), .val (.int ((q3 &&& (15 : Int64)).toInt32)), .val (.long j250), .second, .val (.int g260), .unset] [(.int (bF (13 : Int32) v6 v7 j250 u_13)), (.int ((((((((((((v266 + v270) + v274) + v278) + v282) + v286) + v290) + v294) + v298) + v302) + v306) + v310) + v314))])) _
    rw [← ev318]
    show Steps p.tables e below (T317.setTop (mkF m 824 #[.val (.long q0), .second, .val (.long q1), .second, .val (.long q2), .second, .val (.long q3), .second, .val (.int p4), .val (.int p5), .val (.int v1), .val (.int v2), .val (.int v4), .val (.int v6), .val (.int v7), .val (.ref b8), .val (.ref b9), .val (.ref b11), .val (.int ((q3 &&& (15 : Int64)).toInt32)), .val (.long j250), .second, .val (.int g260), .unset] [(.int v318), (.int ((((((((((((v266 + v270) + v274) + v278) + v282) + v286) + v290) + v294) + v298) + v302) + v306) + v310) + v314))])) _
    refine XS.iadd X317.here hx rfl (hb hby at_824) rfl ?_
    show Steps p.tables e below (T317.setTop (mkF m 825 #[.val (.long q0), .second, .val (.long q1), .second, .val (.long q2), .second, .val (.long q3), .second, .val (.int p4), .val (.int p5), .val (.int v1), .val (.int v2), .val (.int v4), .val (.int v6), .val (.int v7), .val (.ref b8), .val (.ref b9), .val (.ref b11), .val (.int ((q3 &&& (15 : Int64)).toInt32)), .val (.long j250), .second, .val (.int g260), .unset] [(.int (((((((((((((v266 + v270) + v274) + v278) + v282) + v286) + v290) + v294) + v298) + v302) + v306) + v310) + v314) + v318))])) _
    refine XS.aload X317.here hx rfl (hb hby at_825) rfl rfl ?_
    show Steps p.tables e below (T317.setTop (mkF m 827 #[.val (.long q0), .second, .val (.long q1), .second, .val (.long q2), .second, .val (.long q3), .second, .val (.int p4), .val (.int p5), .val (.int v1), .val (.int v2), .val (.int v4), .val (.int v6), .val (.int v7), .val (.ref b8), .val (.ref b9), .val (.ref b11), .val (.int ((q3 &&& (15 : Int64)).toInt32)), .val (.long j250), .second, .val (.int g260), .unset] [(.ref b9), (.int (((((((((((((v266 + v270) + v274) + v278) + v282) + v286) + v290) + v294) + v298) + v302) + v306) + v310) + v314) + v318))])) _
    refine XS.bipush X317.here hx rfl (hb hby at_827) ?_
    show Steps p.tables e below (T317.setTop (mkF m 829 #[.val (.long q0), .second, .val (.long q1), .second, .val (.long q2), .second, .val (.long q3), .second, .val (.int p4), .val (.int p5), .val (.int v1), .val (.int v2), .val (.int v4), .val (.int v6), .val (.int v7), .val (.ref b8), .val (.ref b9), .val (.ref b11), .val (.int ((q3 &&& (15 : Int64)).toInt32)), .val (.long j250), .second, .val (.int g260), .unset] [(.int (14 : Int32)), (.ref b9), (.int (((((((((((((v266 + v270) + v274) + v278) + v282) + v286) + v290) + v294) + v298) + v302) + v306) + v310) + v314) + v318))])) _
    refine XS.iload X317.here hx rfl (hb hby at_829) rfl ?_
    show Steps p.tables e below (T317.setTop (mkF m 831 #[.val (.long q0), .second, .val (.long q1), .second, .val (.long q2), .second, .val (.long q3), .second, .val (.int p4), .val (.int p5), .val (.int v1), .val (.int v2), .val (.int v4), .val (.int v6), .val (.int v7), .val (.ref b8), .val (.ref b9), .val (.ref b11), .val (.int ((q3 &&& (15 : Int64)).toInt32)), .val (.long j250), .second, .val (.int g260), .unset] [(.int v6), (.int (14 : Int32)), (.ref b9), (.int (((((((((((((v266 + v270) + v274) + v278) + v282) + v286) + v290) + v294) + v298) + v302) + v306) + v310) + v314) + v318))])) _
    refine XS.iload X317.here hx rfl (hb hby at_831) rfl ?_
    show Steps p.tables e below (T317.setTop (mkF m 833 #[.val (.long q0), .second, .val (.long q1), .second, .val (.long q2), .second, .val (.long q3), .second, .val (.int p4), .val (.int p5), .val (.int v1), .val (.int v2), .val (.int v4), .val (.int v6), .val (.int v7), .val (.ref b8), .val (.ref b9), .val (.ref b11), .val (.int ((q3 &&& (15 : Int64)).toInt32)), .val (.long j250), .second, .val (.int g260), .unset] [(.int v7), (.int v6), (.int (14 : Int32)), (.ref b9), (.int (((((((((((((v266 + v270) + v274) + v278) + v282) + v286) + v290) + v294) + v298) + v302) + v306) + v310) + v314) + v318))])) _
    refine XS.lload X317.here hx rfl (hb hby at_833) rfl ?_
    exact kk)
  obtain ⟨Lg320, X320, N320⟩ : ∃ L' : List Loc, Stand p l e room_1 s m #[(.long q0), (.long q1), (.long q2), (.long q3), (.int p4), (.int p5)] below meth c T317 L' 3 48 ∧ Fr n0 L' := ⟨_, X317, N317⟩
  (try clear e313); (try clear pre315); (try clear X316); (try clear N316); (try clear X317); (try clear st317); (try clear N317q); (try clear N317)
  obtain ⟨_, _, ⟨T321, L321, k321, n321⟩, -, X321, ⟨Lc321, hQ321, l321, y321, z321⟩, st321⟩ := Jvm.LawKit.callS X320 hx (y := (⟨"com/example/copyleaf/copyleaf/page/PageFirstAtLeastPinLaw", "b", "([JIIIJ)I"⟩ : MethodName)) hown (mvT hZ (hw _ (List.mem_of_getElem? (i := 16) rfl))) (mvT hZ (hw _ (List.mem_of_getElem? (i := 17) rfl))) (mvT hZ (hw _ (List.mem_of_getElem? (i := 5) rfl))) (mvT hZ (hw _ (List.mem_of_getElem? (i := 18) rfl))) (by decide) (backOf (W := 1) (rm4 l Z a0 hw [] b9 (14 : Int32) v6 v7 j250 k9 [(.long u_0), (.long u_1), (.long u_2), (.long u_3), (.long u_4), (.long u_5), (.long u_6), (.long u_7), (.long u_8), (.long u_9), (.long u_10), (.long u_11), (.long u_12), (.long u_13), (.long u_14), (.long u_15)] u_14 T248.heap n0 Zz262 Wu248 ⟨by decide, by decide⟩ rfl) hZ (hw _ (List.mem_of_getElem? (i := 18) rfl)) (hw _ (List.mem_of_getElem? (i := 5) rfl)) (by decide) (by decide)) (g := (mkF m 835 #[.val (.long q0), .second, .val (.long q1), .second, .val (.long q2), .second, .val (.long q3), .second, .val (.int p4), .val (.int p5), .val (.int v1), .val (.int v2), .val (.int v4), .val (.int v6), .val (.int v7), .val (.ref b8), .val (.ref b9), .val (.ref b11), .val (.int ((q3 &&& (15 : Int64)).toInt32)), .val (.long j250), .second, .val (.int g260), .unset] [(.long j250), (.int v7), (.int v6), (.int (14 : Int32)), (.ref b9), (.int (((((((((((((v266 + v270) + v274) + v278) + v282) + v286) + v290) + v294) + v298) + v302) + v306) + v310) + v314) + v318))])) rfl (by rw [hml]; rfl) (argsL := [(.ref b9), (.int (14 : Int32)), (.int v6), (.int v7), (.long j250)]) (rest := [(.int (((((((((((((v266 + v270) + v274) + v278) + v282) + v286) + v290) + v294) + v298) + v302) + v306) + v310) + v314) + v318))]) (lenOf pd__28_5bJIIIJ_29I rfl) rfl (by show 2 * 0 + _ ≤ _; exact Nat.le_of_eq rfl) (hb hby at_835) (fun _ _ => ⟨rfl, e317, (by decide : 3 + 0 ≤ _), (by decide : 48 + 0 ≤ _)⟩)
  dsimp only [Pt.U, Pt.locs, Pt.cells, Pt.slots] at X321 l321 y321 z321 st321 hQ321
  subst l321 y321 z321
  obtain ⟨rfl, N321q, e321⟩ := hQ321
  have N321 := Fr.app N320 N321q
  obtain ⟨v322, ev322⟩ : ∃ z : Int32, z = (bF (14 : Int32) v6 v7 j250 u_14) := ⟨_, rfl⟩
  have pre323 : ∀ t, Steps p.tables e below (T321.setTop (mkF m 849 #[.val (.long q0), .second, .val (.long q1), .second, .val (.long q2), .second, .val (.long q3), .second, .val (.int p4), .val (.int p5), .val (.int v1), .val (.int v2), .val (.int v4), .val (.int v6), .val (.int v7), .val (.ref b8), .val (.ref b9), .val (.ref b11), .val (.int ((q3 &&& (15 : Int64)).toInt32)), .val (.long j250), .second, .val (.int g260), .unset] [(.long j250), (.int v7), (.int v6), (.int (15 : Int32)), (.ref b9), (.int ((((((((((((((v266 + v270) + v274) + v278) + v282) + v286) + v290) + v294) + v298) + v302) + v306) + v310) + v314) + v318) + v322))])) t → Steps p.tables e below (s₁.setTop (entryFrame m #[(.long q0), (.long q1), (.long q2), (.long q3), (.int p4), (.int p5)] maxLocals)) t := fun t kk => pre319 t (by
    show Steps p.tables e below (T317.setTop (mkF m 835 #[.val (.long q0), .second, .val (.long q1), .second, .val (.long q2), .second, .val (.long q3), .second, .val (.int p4), .val (.int p5), .val (.int v1), .val (.int v2), .val (.int v4), .val (.int v6), .val (.int v7), .val (.ref b8), .val (.ref b9), .val (.ref b11), .val (.int ((q3 &&& (15 : Int64)).toInt32)), .val (.long j250), .second, .val (.int g260), .unset] [(.long j250), (.int v7), (.int v6), (.int (14 : Int32)), (.ref b9), (.int (((((((((((((v266 + v270) + v274) + v278) + v282) + v286) + v290) + v294) + v298) + v302) + v306) + v310) + v314) + v318))])) _
    refine st321 _ ?_
    show Steps p.tables e below (T321.setTop (mkF m 838 #[.val (.long q0), .second, .val (.long q1), .second, .val (.long q2), .second, .val (.long q3), .second, .val (.int p4), .val (.int p5), .val (.int v1), .val (.int v2), .val (.int v4), .val (.int v6), .val (.int v7), .val (.ref b8), .val (.ref b9), .val (.ref b11), .val (.int ((q3 &&& (15 : Int64)).toInt32)), .val (.long j250), .second, .val (.int g260), .unset] [(.int (bF (14 : Int32) v6 v7 j250 u_14)), (.int (((((((((((((v266 + v270) + v274) + v278) + v282) + v286) + v290) + v294) + v298) + v302) + v306) + v310) + v314) + v318))])) _
    rw [← ev322]
    show Steps p.tables e below (T321.setTop (mkF m 838 #[.val (.long q0), .second, .val (.long q1), .second, .val (.long q2), .second, .val (.long q3), .second, .val (.int p4), .val (.int p5), .val (.int v1), .val (.int v2), .val (.int v4), .val (.int v6), .val (.int v7), .val (.ref b8), .val (.ref b9), .val (.ref b11), .val (.int ((q3 &&& (15 : Int64)).toInt32)), .val (.long j250), .second, .val (.int g260), .unset] [(.int v322), (.int (((((((((((((v266 + v270) + v274) + v278) + v282) + v286) + v290) + v294) + v298) + v302) + v306) + v310) + v314) + v318))])) _
    refine XS.iadd X321.here hx rfl (hb hby at_838) rfl ?_
    show Steps p.tables e below (T321.setTop (mkF m 839 #[.val (.long q0), .second, .val (.long q1), .second, .val (.long q2), .second, .val (.long q3), .second, .val (.int p4), .val (.int p5), .val (.int v1), .val (.int v2), .val (.int v4), .val (.int v6), .val (.int v7), .val (.ref b8), .val (.ref b9), .val (.ref b11), .val (.int ((q3 &&& (15 : Int64)).toInt32)), .val (.long j250), .second, .val (.int g260), .unset] [(.int ((((((((((((((v266 + v270) + v274) + v278) + v282) + v286) + v290) + v294) + v298) + v302) + v306) + v310) + v314) + v318) + v322))])) _
    refine XS.aload X321.here hx rfl (hb hby at_839) rfl rfl ?_
    show Steps p.tables e below (T321.setTop (mkF m 841 #[.val (.long q0), .second, .val (.long q1), .second, .val (.long q2), .second, .val (.long q3), .second, .val (.int p4), .val (.int p5), .val (.int v1), .val (.int v2), .val (.int v4), .val (.int v6), .val (.int v7), .val (.ref b8), .val (.ref b9), .val (.ref b11), .val (.int ((q3 &&& (15 : Int64)).toInt32)), .val (.long j250), .second, .val (.int g260), .unset] [(.ref b9), (.int ((((((((((((((v266 + v270) + v274) + v278) + v282) + v286) + v290) + v294) + v298) + v302) + v306) + v310) + v314) + v318) + v322))])) _
    refine XS.bipush X321.here hx rfl (hb hby at_841) ?_
    show Steps p.tables e below (T321.setTop (mkF m 843 #[.val (.long q0), .second, .val (.long q1), .second, .val (.long q2), .second, .val (.long q3), .second, .val (.int p4), .val (.int p5), .val (.int v1), .val (.int v2), .val (.int v4), .val (.int v6), .val (.int v7), .val (.ref b8), .val (.ref b9), .val (.ref b11), .val (.int ((q3 &&& (15 : Int64)).toInt32)), .val (.long j250), .second, .val (.int g260), .unset] [(.int (15 : Int32)), (.ref b9), (.int ((((((((((((((v266 + v270) + v274) + v278) + v282) + v286) + v290) + v294) + v298) + v302) + v306) + v310) + v314) + v318) + v322))])) _
    refine XS.iload X321.here hx rfl (hb hby at_843) rfl ?_
    show Steps p.tables e below (T321.setTop (mkF m 845 #[.val (.long q0), .second, .val (.long q1), .second, .val (.long q2), .second, .val (.long q3), .second, .val (.int p4), .val (.int p5), .val (.int v1), .val (.int v2), .val (.int v4), .val (.int v6), .val (.int v7), .val (.ref b8), .val (.ref b9), .val (.ref b11), .val (.int ((q3 &&& (15 : Int64)).toInt32)), .val (.long j250), .second, .val (.int g260), .unset] [(.int v6), (.int (15 : Int32)), (.ref b9), (.int ((((((((((((((v266 + v270) + v274) + v278) + v282) + v286) + v290) + v294) + v298) + v302) + v306) + v310) + v314) + v318) + v322))])) _
    refine XS.iload X321.here hx rfl (hb hby at_845) rfl ?_
    show Steps p.tables e below (T321.setTop (mkF m 847 #[.val (.long q0), .second, .val (.long q1), .second, .val (.long q2), .second, .val (.long q3), .second, .val (.int p4), .val (.int p5), .val (.int v1), .val (.int v2), .val (.int v4), .val (.int v6), .val (.int v7), .val (.ref b8), .val (.ref b9), .val (.ref b11), .val (.int ((q3 &&& (15 : Int64)).toInt32)), .val (.long j250), .second, .val (.int g260), .unset] [(.int v7), (.int v6), (.int (15 : Int32)), (.ref b9), (.int ((((((((((((((v266 + v270) + v274) + v278) + v282) + v286) + v290) + v294) + v298) + v302) + v306) + v310) + v314) + v318) + v322))])) _
    refine XS.lload X321.here hx rfl (hb hby at_847) rfl ?_
    exact kk)
  obtain ⟨Lg324, X324, N324⟩ : ∃ L' : List Loc, Stand p l e room_1 s m #[(.long q0), (.long q1), (.long q2), (.long q3), (.int p4), (.int p5)] below meth c T321 L' 3 48 ∧ Fr n0 L' := ⟨_, X321, N321⟩
  (try clear e317); (try clear pre319); (try clear X320); (try clear N320); (try clear X321); (try clear st321); (try clear N321q); (try clear N321)
  obtain ⟨_, _, ⟨T325, L325, k325, n325⟩, -, X325, ⟨Lc325, hQ325, l325, y325, z325⟩, st325⟩ := Jvm.LawKit.callS X324 hx (y := (⟨"com/example/copyleaf/copyleaf/page/PageFirstAtLeastPinLaw", "b", "([JIIIJ)I"⟩ : MethodName)) hown (mvT hZ (hw _ (List.mem_of_getElem? (i := 16) rfl))) (mvT hZ (hw _ (List.mem_of_getElem? (i := 17) rfl))) (mvT hZ (hw _ (List.mem_of_getElem? (i := 5) rfl))) (mvT hZ (hw _ (List.mem_of_getElem? (i := 18) rfl))) (by decide) (backOf (W := 1) (rm4 l Z a0 hw [] b9 (15 : Int32) v6 v7 j250 k9 [(.long u_0), (.long u_1), (.long u_2), (.long u_3), (.long u_4), (.long u_5), (.long u_6), (.long u_7), (.long u_8), (.long u_9), (.long u_10), (.long u_11), (.long u_12), (.long u_13), (.long u_14), (.long u_15)] u_15 T248.heap n0 Zz262 Wu248 ⟨by decide, by decide⟩ rfl) hZ (hw _ (List.mem_of_getElem? (i := 18) rfl)) (hw _ (List.mem_of_getElem? (i := 5) rfl)) (by decide) (by decide)) (g := (mkF m 849 #[.val (.long q0), .second, .val (.long q1), .second, .val (.long q2), .second, .val (.long q3), .second, .val (.int p4), .val (.int p5), .val (.int v1), .val (.int v2), .val (.int v4), .val (.int v6), .val (.int v7), .val (.ref b8), .val (.ref b9), .val (.ref b11), .val (.int ((q3 &&& (15 : Int64)).toInt32)), .val (.long j250), .second, .val (.int g260), .unset] [(.long j250), (.int v7), (.int v6), (.int (15 : Int32)), (.ref b9), (.int ((((((((((((((v266 + v270) + v274) + v278) + v282) + v286) + v290) + v294) + v298) + v302) + v306) + v310) + v314) + v318) + v322))])) rfl (by rw [hml]; rfl) (argsL := [(.ref b9), (.int (15 : Int32)), (.int v6), (.int v7), (.long j250)]) (rest := [(.int ((((((((((((((v266 + v270) + v274) + v278) + v282) + v286) + v290) + v294) + v298) + v302) + v306) + v310) + v314) + v318) + v322))]) (lenOf pd__28_5bJIIIJ_29I rfl) rfl (by show 2 * 0 + _ ≤ _; exact Nat.le_of_eq rfl) (hb hby at_849) (fun _ _ => ⟨rfl, e321, (by decide : 3 + 0 ≤ _), (by decide : 48 + 0 ≤ _)⟩)
  dsimp only [Pt.U, Pt.locs, Pt.cells, Pt.slots] at X325 l325 y325 z325 st325 hQ325
  subst l325 y325 z325
  obtain ⟨rfl, N325q, e325⟩ := hQ325
  have N325 := Fr.app N324 N325q
  obtain ⟨v326, ev326⟩ : ∃ z : Int32, z = (bF (15 : Int32) v6 v7 j250 u_15) := ⟨_, rfl⟩
  obtain ⟨fs, hr, hrun, hended, hW, hsame⟩ := X325.leave (v := some (.int (1 : Int32))) (fun h => by rw [Bd.returns] at h; cases h)
  refine ⟨_, _, pre323 _ ?_, hrun, hended, _, _, rfl, ?_, ⟨_, rfl⟩, hW, hsame.mono (by decide) (by decide)⟩
  · show Steps p.tables e below (T321.setTop (mkF m 849 #[.val (.long q0), .second, .val (.long q1), .second, .val (.long q2), .second, .val (.long q3), .second, .val (.int p4), .val (.int p5), .val (.int v1), .val (.int v2), .val (.int v4), .val (.int v6), .val (.int v7), .val (.ref b8), .val (.ref b9), .val (.ref b11), .val (.int ((q3 &&& (15 : Int64)).toInt32)), .val (.long j250), .second, .val (.int g260), .unset] [(.long j250), (.int v7), (.int v6), (.int (15 : Int32)), (.ref b9), (.int ((((((((((((((v266 + v270) + v274) + v278) + v282) + v286) + v290) + v294) + v298) + v302) + v306) + v310) + v314) + v318) + v322))])) _
    refine st325 _ ?_
    show Steps p.tables e below (T325.setTop (mkF m 852 #[.val (.long q0), .second, .val (.long q1), .second, .val (.long q2), .second, .val (.long q3), .second, .val (.int p4), .val (.int p5), .val (.int v1), .val (.int v2), .val (.int v4), .val (.int v6), .val (.int v7), .val (.ref b8), .val (.ref b9), .val (.ref b11), .val (.int ((q3 &&& (15 : Int64)).toInt32)), .val (.long j250), .second, .val (.int g260), .unset] [(.int (bF (15 : Int32) v6 v7 j250 u_15)), (.int ((((((((((((((v266 + v270) + v274) + v278) + v282) + v286) + v290) + v294) + v298) + v302) + v306) + v310) + v314) + v318) + v322))])) _
    rw [← ev326]
    show Steps p.tables e below (T325.setTop (mkF m 852 #[.val (.long q0), .second, .val (.long q1), .second, .val (.long q2), .second, .val (.long q3), .second, .val (.int p4), .val (.int p5), .val (.int v1), .val (.int v2), .val (.int v4), .val (.int v6), .val (.int v7), .val (.ref b8), .val (.ref b9), .val (.ref b11), .val (.int ((q3 &&& (15 : Int64)).toInt32)), .val (.long j250), .second, .val (.int g260), .unset] [(.int v326), (.int ((((((((((((((v266 + v270) + v274) + v278) + v282) + v286) + v290) + v294) + v298) + v302) + v306) + v310) + v314) + v318) + v322))])) _
    refine XS.iadd X325.here hx rfl (hb hby at_852) rfl ?_
    show Steps p.tables e below (T325.setTop (mkF m 853 #[.val (.long q0), .second, .val (.long q1), .second, .val (.long q2), .second, .val (.long q3), .second, .val (.int p4), .val (.int p5), .val (.int v1), .val (.int v2), .val (.int v4), .val (.int v6), .val (.int v7), .val (.ref b8), .val (.ref b9), .val (.ref b11), .val (.int ((q3 &&& (15 : Int64)).toInt32)), .val (.long j250), .second, .val (.int g260), .unset] [(.int (((((((((((((((v266 + v270) + v274) + v278) + v282) + v286) + v290) + v294) + v298) + v302) + v306) + v310) + v314) + v318) + v322) + v326))])) _
    refine XS.istore X325.here hx rfl (hb hby at_853) rfl (l' := #[.val (.long q0), .second, .val (.long q1), .second, .val (.long q2), .second, .val (.long q3), .second, .val (.int p4), .val (.int p5), .val (.int v1), .val (.int v2), .val (.int v4), .val (.int v6), .val (.int v7), .val (.ref b8), .val (.ref b9), .val (.ref b11), .val (.int ((q3 &&& (15 : Int64)).toInt32)), .val (.long j250), .second, .val (.int g260), .val (.int (((((((((((((((v266 + v270) + v274) + v278) + v282) + v286) + v290) + v294) + v298) + v302) + v306) + v310) + v314) + v318) + v322) + v326))]) rfl ?_
    show Steps p.tables e below (T325.setTop (mkF m 855 #[.val (.long q0), .second, .val (.long q1), .second, .val (.long q2), .second, .val (.long q3), .second, .val (.int p4), .val (.int p5), .val (.int v1), .val (.int v2), .val (.int v4), .val (.int v6), .val (.int v7), .val (.ref b8), .val (.ref b9), .val (.ref b11), .val (.int ((q3 &&& (15 : Int64)).toInt32)), .val (.long j250), .second, .val (.int g260), .val (.int (((((((((((((((v266 + v270) + v274) + v278) + v282) + v286) + v290) + v294) + v298) + v302) + v306) + v310) + v314) + v318) + v322) + v326))] [])) _
    refine XS.iload X325.here hx rfl (hb hby at_855) rfl ?_
    show Steps p.tables e below (T325.setTop (mkF m 857 #[.val (.long q0), .second, .val (.long q1), .second, .val (.long q2), .second, .val (.long q3), .second, .val (.int p4), .val (.int p5), .val (.int v1), .val (.int v2), .val (.int v4), .val (.int v6), .val (.int v7), .val (.ref b8), .val (.ref b9), .val (.ref b11), .val (.int ((q3 &&& (15 : Int64)).toInt32)), .val (.long j250), .second, .val (.int g260), .val (.int (((((((((((((((v266 + v270) + v274) + v278) + v282) + v286) + v290) + v294) + v298) + v302) + v306) + v310) + v314) + v318) + v322) + v326))] [(.int g260)])) _
    refine XS.iload X325.here hx rfl (hb hby at_857) rfl ?_
    show Steps p.tables e below (T325.setTop (mkF m 859 #[.val (.long q0), .second, .val (.long q1), .second, .val (.long q2), .second, .val (.long q3), .second, .val (.int p4), .val (.int p5), .val (.int v1), .val (.int v2), .val (.int v4), .val (.int v6), .val (.int v7), .val (.ref b8), .val (.ref b9), .val (.ref b11), .val (.int ((q3 &&& (15 : Int64)).toInt32)), .val (.long j250), .second, .val (.int g260), .val (.int (((((((((((((((v266 + v270) + v274) + v278) + v282) + v286) + v290) + v294) + v298) + v302) + v306) + v310) + v314) + v318) + v322) + v326))] [(.int v6), (.int g260)])) _
    refine XS.iload X325.here hx rfl (hb hby at_859) rfl ?_
    show Steps p.tables e below (T325.setTop (mkF m 861 #[.val (.long q0), .second, .val (.long q1), .second, .val (.long q2), .second, .val (.long q3), .second, .val (.int p4), .val (.int p5), .val (.int v1), .val (.int v2), .val (.int v4), .val (.int v6), .val (.int v7), .val (.ref b8), .val (.ref b9), .val (.ref b11), .val (.int ((q3 &&& (15 : Int64)).toInt32)), .val (.long j250), .second, .val (.int g260), .val (.int (((((((((((((((v266 + v270) + v274) + v278) + v282) + v286) + v290) + v294) + v298) + v302) + v306) + v310) + v314) + v318) + v322) + v326))] [(.int (((((((((((((((v266 + v270) + v274) + v278) + v282) + v286) + v290) + v294) + v298) + v302) + v306) + v310) + v314) + v318) + v322) + v326)), (.int v6), (.int g260)])) _
    refine XS.iadd X325.here hx rfl (hb hby at_861) rfl ?_
    show Steps p.tables e below (T325.setTop (mkF m 862 #[.val (.long q0), .second, .val (.long q1), .second, .val (.long q2), .second, .val (.long q3), .second, .val (.int p4), .val (.int p5), .val (.int v1), .val (.int v2), .val (.int v4), .val (.int v6), .val (.int v7), .val (.ref b8), .val (.ref b9), .val (.ref b11), .val (.int ((q3 &&& (15 : Int64)).toInt32)), .val (.long j250), .second, .val (.int g260), .val (.int (((((((((((((((v266 + v270) + v274) + v278) + v282) + v286) + v290) + v294) + v298) + v302) + v306) + v310) + v314) + v318) + v322) + v326))] [(.int (v6 + (((((((((((((((v266 + v270) + v274) + v278) + v282) + v286) + v290) + v294) + v298) + v302) + v306) + v310) + v314) + v318) + v322) + v326))), (.int g260)])) _
    refine XS.icmpNo X325.here hx rfl (hb hby at_862) rfl (teq (own_fin hG260 hf0 ht16 ev266 ev270 ev274 ev278 ev282 ev286 ev290 ev294 ev298 ev302 ev306 ev310 ev314 ev318 ev322 ev326)).2 ?_
    show Steps p.tables e below (T325.setTop (mkF m 865 #[.val (.long q0), .second, .val (.long q1), .second, .val (.long q2), .second, .val (.long q3), .second, .val (.int p4), .val (.int p5), .val (.int v1), .val (.int v2), .val (.int v4), .val (.int v6), .val (.int v7), .val (.ref b8), .val (.ref b9), .val (.ref b11), .val (.int ((q3 &&& (15 : Int64)).toInt32)), .val (.long j250), .second, .val (.int g260), .val (.int (((((((((((((((v266 + v270) + v274) + v278) + v282) + v286) + v290) + v294) + v298) + v302) + v306) + v310) + v314) + v318) + v322) + v326))] [])) _
    refine XS.iconst X325.here hx rfl (hb hby at_865) ?_
    show Steps p.tables e below (T325.setTop (mkF m 866 #[.val (.long q0), .second, .val (.long q1), .second, .val (.long q2), .second, .val (.long q3), .second, .val (.int p4), .val (.int p5), .val (.int v1), .val (.int v2), .val (.int v4), .val (.int v6), .val (.int v7), .val (.ref b8), .val (.ref b9), .val (.ref b11), .val (.int ((q3 &&& (15 : Int64)).toInt32)), .val (.long j250), .second, .val (.int g260), .val (.int (((((((((((((((v266 + v270) + v274) + v278) + v282) + v286) + v290) + v294) + v298) + v302) + v306) + v310) + v314) + v318) + v322) + v326))] [(.int (1 : Int32))])) _
    refine XS.goto X325.here hx rfl (pc0 := 866) (pc' := 870) rfl (hb hby at_866) (by decide) (by decide) ?_
    show Steps p.tables e below (T325.setTop (mkF m 870 #[.val (.long q0), .second, .val (.long q1), .second, .val (.long q2), .second, .val (.long q3), .second, .val (.int p4), .val (.int p5), .val (.int v1), .val (.int v2), .val (.int v4), .val (.int v6), .val (.int v7), .val (.ref b8), .val (.ref b9), .val (.ref b11), .val (.int ((q3 &&& (15 : Int64)).toInt32)), .val (.long j250), .second, .val (.int g260), .val (.int (((((((((((((((v266 + v270) + v274) + v278) + v282) + v286) + v290) + v294) + v298) + v302) + v306) + v310) + v314) + v318) + v322) + v326))] [(.int (1 : Int32))])) _
    exact retN X325 hx (t := .boolean) Bd.returns (by simp) (hb hby at_870) hr
  · show Q0 h0 n0 _ T325.heap _
    rw [e325]
    exact ⟨rfl, N325⟩
set_option maxRecDepth 65536 in
set_option maxHeartbeats 40000000 in
theorem comes_1 {Post : Tables → Env → Array Value → State → Outcome → State → Prop} (hpost : ∀ tb e args s v u, (limb_1_1.after args s (.returned v) u = true ∧ limb_1_2.after args s (.returned v) u = true ∧ True) → FrameEnd s (.returned v) u (Jvm.fieldLocs frame_1_writes args s ++ Jvm.arrayLocs frame_1_arrays args s ++ Jvm.staticLocs frame_1_statics s) 16 192 → Post tb e args s (.returned v) u) :
    ArmFor flags0 classFile x code maxLocals ret World_1 tables_1 room_1 Calls_1 rest_1 Pre_1 Post := by
  intro l hfl _ _ p e ha hc hk s m args below hf hA hF happ hP
  obtain ⟨hcalls, hrest, hpre⟩ := hP
  obtain ⟨-, -, -, hnamed, -, -, -, hat⟩ := (Spec.applies_iff hf).mp happ
  obtain ⟨hg, hn⟩ := and_e (Cond.before_iff.mp (show (Jvm.Cond.and given_1 narrow_1).before args s = true from hpre))
  obtain ⟨gg1, gg2⟩ := and_e hg
  obtain ⟨gg3, gg4⟩ := and_e gg2
  obtain ⟨gg5, gg6⟩ := and_e gg4
  obtain ⟨gg7, gg8⟩ := and_e gg6
  obtain ⟨gg9, gg10⟩ := and_e gg8
  obtain ⟨gg11, gg12⟩ := and_e gg10
  obtain ⟨w0, w1, w2, w3, w4, w5, rfl⟩ : ∃ w0 w1 w2 w3 w4 w5 : Value, args = #[w0, w1, w2, w3, w4, w5] := by
    have hs : args.size = 6 := by simpa [Cond.value, given_1] using gg1
    obtain ⟨L⟩ := args
    match L, hs with
    | [w0, w1, w2, w3, w4, w5], _ => exact ⟨w0, w1, w2, w3, w4, w5, rfl⟩
  have hw := fun d (hd : d ∈ tables_1) => atoms_spec (ws := Jvm.Cond.code x code maxLocals ret :: tables_1) hat d (List.mem_cons_of_mem _ hd)
  have hfit : Fit s := fun {y c} hc i hi => by
    obtain ⟨ha, rfl⟩ := Array.getElem?_eq_some_iff.mp hc
    have q := List.all_eq_true.mp ((Array.all_eq_true_iff_forall_mem.mp hF) _ (Array.getElem_mem ha)) i (List.mem_range.mpr hi)
    simpa [Array.getElem?_eq_getElem hi] using q
  obtain ⟨i0, ei0⟩ := isL_v gg3
  obtain rfl : w0 = (.long i0) := Option.some.inj ei0
  obtain ⟨i1, ei1⟩ := isL_v gg5
  obtain rfl : w1 = (.long i1) := Option.some.inj ei1
  obtain ⟨i2, ei2⟩ := isL_v gg7
  obtain rfl : w2 = (.long i2) := Option.some.inj ei2
  obtain ⟨i3, ei3⟩ := isL_v gg9
  obtain rfl : w3 = (.long i3) := Option.some.inj ei3
  obtain ⟨i4, ei4⟩ := is_v gg11
  obtain rfl : w4 = (.int i4) := Option.some.inj ei4
  obtain ⟨i5, ei5⟩ := is_v gg12
  obtain rfl : w5 = (.int i5) := Option.some.inj ei5
  obtain ⟨n, o, h1, h2, h3, _, L, rfl, ⟨rfl, N⟩, hq⟩ := rm0 l s _ hw tables_1 i0 i1 i2 i3 i4 i5  s.heap s.heap.size (Nat.le_refl _)  p e ha hc hk s m _ below hf ((Spec.applies_iff_loose hf).mp happ).1 ⟨rfl, State.Warmed39.refl s, rfl⟩ trivial
  refine ⟨n, _, h1, h2, h3, hpost _ _ _ _ _ _ ⟨Cond.after_iff.mpr rfl, Cond.after_iff.mpr (eq_i res_at (Term.int_eval (1)) rfl), trivial⟩ ⟨hq.1, hq.2.1, (hq.2.2.sift fun y hy => Or.inr (N y hy)).mono (by decide) (by decide)⟩⟩
theorem main_1_1 : Claimed_1_1 := comes_1 fun _ _ _ _ _ _ h hF => ⟨h.1, hF⟩
theorem main_1_2 : Claimed_1_2 := comes_1 fun _ _ _ _ _ _ h hF => ⟨h.2.1, hF⟩
end Jvm.Pilot.@@N@@
namespace Jvm.Pilot.@@N@@
open Jvm Jvm.ClassFile Sem Op Lib Jvm.Free Jvm.Stand Jvm.Pilot.@@N@@.Jvm.D
/-! MADE BY PROGRAM (witnessworld.py) out of the Statement's table words and the real class files: 12 classes; the members and pool entries that the words name. The judged class is class 1, her method 1. -/
namespace start1
open Jvm.ClassFile
def u (s : String) : CpInfo := .utf8 (stringToUtf16 s)
/-- a pool by its gaps: so many unusable entries, then the entry; so many at the end -/
def gap : Nat → List CpInfo → List CpInfo
  | 0, r => r
  | n + 1, r => .unusable :: gap n r
def poolList (es : List (Nat × CpInfo)) (last : Nat) : List CpInfo := es.foldr (fun e r => gap e.1 (e.2 :: r)) (gap last [])
def pool (es : List (Nat × CpInfo)) (last : Nat) : Array CpInfo := ⟨poolList es last⟩
def fileOf (pool : Array CpInfo) (this : Nat) (attrs : Array Attribute := #[]) (ms : Array MethodInfo := #[]) (fl : Nat := 33) (sup : Nat := 0) (ifs : Array Nat := #[]) (fds : Array FieldInfo := #[]) : ClassFile where
  minorVersion := 0
  majorVersion := 65
  constantPool := pool
  accessFlags := fl
  thisClass := this
  superClass := sup
  interfaces := ifs
  fields := fds
  methods := ms
  attributes := attrs
def plain (name : String) (sup : Option ClassId) : Class where
  name := name
  kind := .ordinary
  loader := none
  accessFlags := 33
  super := sup
  interfaces := #[]
  cf := none
  fields := #[]
  methods := #[]
  instanceTypes := #[]
  staticTypes := #[]
  resolved := #[]
  callSites := []
  init := .initialized
  statics := none
  mirror := none

def pool0 : Array CpInfo := pool [(5, u "<init>"), (0, u "()V"), (1, .class_ 10), (1, u "java/lang/Object")] 113

def k0m0 : Method := { name := "<init>", desc := "()V", sig := { parameters := [], returnType := none }, accessFlags := 1, code := none }
/-- java/lang/Object -/
def k0 : Class := { plain "java/lang/Object" none with
  accessFlags := 33
  interfaces := #[]
  cf := some (fileOf pool0 8 #[] #[{ accessFlags := 1, nameIndex := 5, descriptorIndex := 6, attributes := #[] }] 33 0 #[] #[])
  fields := #[]
  methods := #[k0m0]
  instanceTypes := #[]
  staticTypes := #[]
  resolved := Array.replicate 124 none
  statics := none }

def pool1 : Array CpInfo := pool [(2, .class_ 4), (1, u "java/lang/Object"), (0, u "<init>"), (0, u "()V"), (0, .integer 268435455), (2, .long 9223372036854775807), (1, .methodref 13 14), (0, .class_ 15), (0, .nameAndType 16 17), (0, u "com/example/copyleaf/copyleaf/page/PageFirstAtLeastPinLaw"), (0, u "next"), (0, u "(JJII)J"), (0, .methodref 13 19), (0, .nameAndType 20 21), (0, u "fill"), (0, u "([J[J[JIIJ)V"), (0, .long 15), (1, .long 3), (1, .methodref 13 27), (0, .nameAndType 28 29), (0, u "shifted"), (0, u "(JI)J"), (0, .methodref 31 32), (0, .class_ 33), (0, .nameAndType 34 35), (0, u "com/example/copyleaf/copyleaf/page/Page"), (0, u "firstAtLeast"), (0, u "([JIIJI)I"), (0, .methodref 13 37), (0, .nameAndType 38 39), (0, u "b"), (0, u "([JIIIJ)I"), (0, .long 2), (3, u "law"), (0, u "(JJJJII)Z")] 5

def k1m0 : Method := { name := "<init>", desc := "()V", sig := { parameters := [], returnType := none }, accessFlags := 1, code := none }
def k1c1 : Code := { maxStack := 8, maxLocals := 23, code := code, exceptionTable := #[], attributes := #[] }
def k1m1 : Method := { name := "law", desc := "(JJJJII)Z", sig := { parameters := [.long, .long, .long, .long, .int, .int], returnType := some .boolean }, accessFlags := 9, code := some k1c1 }
def k1c2 : Code := { maxStack := 6, maxLocals := 8, code := method_3_code, exceptionTable := #[], attributes := #[] }
def k1m2 : Method := { name := "next", desc := "(JJII)J", sig := { parameters := [.long, .long, .int, .int], returnType := some .long }, accessFlags := 10, code := some k1c2 }
def k1c3 : Code := { maxStack := 10, maxLocals := 9, code := method_4_code, exceptionTable := #[], attributes := #[] }
def k1m3 : Method := { name := "fill", desc := "([J[J[JIIJ)V", sig := { parameters := [(.array .long), (.array .long), (.array .long), .int, .int, .long], returnType := none }, accessFlags := 10, code := some k1c3 }
def k1c4 : Code := { maxStack := 6, maxLocals := 3, code := method_5_code, exceptionTable := #[], attributes := #[] }
def k1m4 : Method := { name := "shifted", desc := "(JI)J", sig := { parameters := [.long, .int], returnType := some .long }, accessFlags := 10, code := some k1c4 }
def k1c5 : Code := { maxStack := 4, maxLocals := 6, code := method_6_code, exceptionTable := #[], attributes := #[] }
def k1m5 : Method := { name := "b", desc := "([JIIIJ)I", sig := { parameters := [(.array .long), .int, .int, .int, .long], returnType := some .int }, accessFlags := 10, code := some k1c5 }
/-- com/example/copyleaf/copyleaf/page/PageFirstAtLeastPinLaw -/
def k1 : Class := { plain "com/example/copyleaf/copyleaf/page/PageFirstAtLeastPinLaw" (some 0) with
  accessFlags := 49
  interfaces := #[]
  cf := some (fileOf pool1 13 #[] #[{ accessFlags := 1, nameIndex := 5, descriptorIndex := 6, attributes := #[] }, { accessFlags := 9, nameIndex := 44, descriptorIndex := 45, attributes := #[] }, { accessFlags := 10, nameIndex := 16, descriptorIndex := 17, attributes := #[] }, { accessFlags := 10, nameIndex := 20, descriptorIndex := 21, attributes := #[] }, { accessFlags := 10, nameIndex := 28, descriptorIndex := 29, attributes := #[] }, { accessFlags := 10, nameIndex := 38, descriptorIndex := 39, attributes := #[] }] 49 2 #[] #[])
  fields := #[]
  methods := #[k1m0, k1m1, k1m2, k1m3, k1m4, k1m5]
  instanceTypes := #[]
  staticTypes := #[]
  resolved := Array.replicate 51 none
  statics := none }

def pool2 : Array CpInfo := pool [(1, .class_ 2), (0, u "com/example/copyleaf/copyleaf/page/SavedPage"), (0, .class_ 4), (0, u "java/lang/Object")] 11

/-- com/example/copyleaf/copyleaf/page/SavedPage -/
def k2 : Class := { plain "com/example/copyleaf/copyleaf/page/SavedPage" (some 0) with
  accessFlags := 1537
  interfaces := #[]
  cf := some (fileOf pool2 1 #[] #[] 1537 3 #[] #[])
  fields := #[]
  methods := #[]
  instanceTypes := #[]
  staticTypes := #[]
  resolved := Array.replicate 16 none
  statics := none }

def pool3 : Array CpInfo := pool [(1, .class_ 2), (0, u "com/example/copyleaf/copyleaf/page/Page"), (1, .class_ 6), (1, u "java/lang/Object"), (0, u "<init>"), (0, u "()V"), (1, .class_ 12), (1, u "com/example/copyleaf/copyleaf/page/Page$Growth"), (1, u "Lcom/example/copyleaf/copyleaf/page/Page$Growth;"), (2, u "growth"), (2, u "afterLast"), (0, u "I"), (2, u "countAfterLast"), (2, u "keyCount"), (2, u "types"), (0, u "Lcom/example/copyleaf/copyleaf/type/MapTypes;"), (2, u "ref"), (0, u "Lcom/example/copyleaf/copyleaf/page/PageRef;"), (2, u "committed"), (0, u "Z"), (6, u "held"), (0, u "Lcom/example/copyleaf/copyleaf/page/HeldPage;"), (14, u "touched"), (14, u "size"), (0, u "J"), (29, .class_ 109), (0, u "com/example/copyleaf/copyleaf/page/SavedPage"), (0, u "MAX_SIZE"), (1, u "MIN_SIZE"), (0, u "OVERHEAD"), (1, u "WAYS"), (29, u "firstAtLeast"), (0, u "([JIIJI)I")] 21

def k3m0 : Method := { name := "<init>", desc := "()V", sig := { parameters := [], returnType := none }, accessFlags := 1, code := none }
def k3c1 : Code := { maxStack := 6, maxLocals := 13, code := prog_67_method_21_code, exceptionTable := #[], attributes := #[] }
def k3m1 : Method := { name := "firstAtLeast", desc := "([JIIJI)I", sig := { parameters := [(.array .long), .int, .int, .long, .int], returnType := some .int }, accessFlags := 8, code := some k3c1 }
/-- com/example/copyleaf/copyleaf/page/Page -/
def k3 : Class := { plain "com/example/copyleaf/copyleaf/page/Page" (some 0) with
  accessFlags := 1057
  interfaces := #[2]
  cf := some (fileOf pool3 1 #[.nestMembers #[10]] #[{ accessFlags := 1, nameIndex := 7, descriptorIndex := 8, attributes := #[] }, { accessFlags := 8, nameIndex := 145, descriptorIndex := 146, attributes := #[] }] 1057 4 #[108] #[{ accessFlags := 24, nameIndex := 110, descriptorIndex := 78, attributes := #[] }, { accessFlags := 24, nameIndex := 112, descriptorIndex := 78, attributes := #[] }, { accessFlags := 24, nameIndex := 113, descriptorIndex := 21, attributes := #[] }, { accessFlags := 26, nameIndex := 115, descriptorIndex := 21, attributes := #[] }, { accessFlags := 0, nameIndex := 30, descriptorIndex := 31, attributes := #[] }, { accessFlags := 0, nameIndex := 27, descriptorIndex := 21, attributes := #[] }, { accessFlags := 0, nameIndex := 17, descriptorIndex := 14, attributes := #[] }, { accessFlags := 2, nameIndex := 20, descriptorIndex := 21, attributes := #[] }, { accessFlags := 2, nameIndex := 24, descriptorIndex := 21, attributes := #[] }, { accessFlags := 0, nameIndex := 77, descriptorIndex := 78, attributes := #[] }, { accessFlags := 2, nameIndex := 34, descriptorIndex := 35, attributes := #[] }, { accessFlags := 2, nameIndex := 38, descriptorIndex := 39, attributes := #[] }, { accessFlags := 2, nameIndex := 46, descriptorIndex := 47, attributes := #[] }, { accessFlags := 2, nameIndex := 62, descriptorIndex := 39, attributes := #[] }])
  fields := #[{ name := "MAX_SIZE", type := .long, accessFlags := 24, slot := 0, constantValue := 0 }, { name := "MIN_SIZE", type := .long, accessFlags := 24, slot := 1, constantValue := 0 }, { name := "OVERHEAD", type := .int, accessFlags := 24, slot := 2, constantValue := 0 }, { name := "WAYS", type := .int, accessFlags := 26, slot := 3, constantValue := 0 }, { name := "types", type := (.object "com/example/copyleaf/copyleaf/type/MapTypes"), accessFlags := 0, slot := 0, constantValue := 0 }, { name := "keyCount", type := .int, accessFlags := 0, slot := 1, constantValue := 0 }, { name := "growth", type := (.object "com/example/copyleaf/copyleaf/page/Page$Growth"), accessFlags := 0, slot := 2, constantValue := 0 }, { name := "afterLast", type := .int, accessFlags := 2, slot := 3, constantValue := 0 }, { name := "countAfterLast", type := .int, accessFlags := 2, slot := 4, constantValue := 0 }, { name := "size", type := .long, accessFlags := 0, slot := 5, constantValue := 0 }, { name := "ref", type := (.object "com/example/copyleaf/copyleaf/page/PageRef"), accessFlags := 2, slot := 6, constantValue := 0 }, { name := "committed", type := .boolean, accessFlags := 2, slot := 7, constantValue := 0 }, { name := "held", type := (.object "com/example/copyleaf/copyleaf/page/HeldPage"), accessFlags := 2, slot := 8, constantValue := 0 }, { name := "touched", type := .boolean, accessFlags := 2, slot := 9, constantValue := 0 }]
  methods := #[k3m0, k3m1]
  instanceTypes := #[(.object "com/example/copyleaf/copyleaf/type/MapTypes"), .int, (.object "com/example/copyleaf/copyleaf/page/Page$Growth"), .int, .int, .long, (.object "com/example/copyleaf/copyleaf/page/PageRef"), .boolean, (.object "com/example/copyleaf/copyleaf/page/HeldPage"), .boolean]
  staticTypes := #[.long, .long, .int, .int]
  resolved := Array.replicate 168 none
  statics := none }

def pool4 : Array CpInfo := pool [(1, u "java/lang/Cloneable"), (0, .class_ 1), (0, u "java/lang/Object"), (0, .class_ 3)] 3

/-- java/lang/Cloneable -/
def k4 : Class := { plain "java/lang/Cloneable" (some 0) with
  accessFlags := 1537
  interfaces := #[]
  cf := some (fileOf pool4 2 #[] #[] 1537 4 #[] #[])
  fields := #[]
  methods := #[]
  instanceTypes := #[]
  staticTypes := #[]
  resolved := Array.replicate 8 none
  statics := none }

def pool5 : Array CpInfo := pool [(1, u "java/io/Serializable"), (0, .class_ 1), (0, u "java/lang/Object"), (0, .class_ 3)] 3

/-- java/io/Serializable -/
def k5 : Class := { plain "java/io/Serializable" (some 0) with
  accessFlags := 1537
  interfaces := #[]
  cf := some (fileOf pool5 2 #[] #[] 1537 4 #[] #[])
  fields := #[]
  methods := #[]
  instanceTypes := #[]
  staticTypes := #[]
  resolved := Array.replicate 8 none
  statics := none }

/-- the primitive byte -/
def k6 : Class := { plain "byte" none with kind := .primitive 'B', accessFlags := 0x411 }
/-- [B -/
def k7 : Class := { plain "[B" (some 0) with kind := .array 6 .byte, interfaces := #[4, 5], accessFlags := 1041 }

/-- the primitive int -/
def k8 : Class := { plain "int" none with kind := .primitive 'I', accessFlags := 0x411 }
/-- [I -/
def k9 : Class := { plain "[I" (some 0) with kind := .array 8 .int, interfaces := #[4, 5], accessFlags := 1041 }

/-- the primitive long -/
def k10 : Class := { plain "long" none with kind := .primitive 'J', accessFlags := 0x411 }
/-- [J -/
def k11 : Class := { plain "[J" (some 0) with kind := .array 10 .long, interfaces := #[4, 5], accessFlags := 1041 }

def heap : Heap := #[]
def classes : Array Class := #[k0, k1, k2, k3, k4, k5, k6, k7, k8, k9, k10, k11]
def interned : List (Array UInt16 × Addr) := []
def slotsUsed : Nat := 0
def theMethod : MethodId := ⟨1, 1⟩
def args0 : Array Value := #[.long 5, .long 6, .long 7, .long 8, .int 1, .int 2]
def aboutOver (below : List Frame) : State where
  vm := { classes := classes, interned := interned.toArray }
  heap := heap
  slotsUsed := slotsUsed
  threads := #[{ frames := .invoking theMethod args0 :: below }]
def below0 : List Frame := [.native { method := ⟨0, 0⟩, args := #[] }]
def about1 : State := aboutOver below0
def p0 : Program := .bare "" "" ""
def e0 : Env := launch0.env 0 0 0
theorem w_frames : about1.frames = Frame.invoking theMethod args0 :: below0 := rfl
set_option maxRecDepth 65536 in
theorem w_args : argsFit about1.vm theMethod args0 = true := by decide +kernel
set_option maxRecDepth 65536 in
theorem w_heap : heapFits about1 = true := by decide +kernel
set_option maxRecDepth 65536 in
theorem w_runnable : about1.curStatus? = some .runnable := by decide +kernel
set_option maxRecDepth 65536 in
theorem w_alone : about1.alone = true := by decide +kernel
set_option maxRecDepth 65536 in
theorem w_named : about1.methodNamed? x = some theMethod := by decide +kernel
set_option maxRecDepth 65536 in
theorem w_hears : about1.hears theMethod below0 = true := by decide +kernel
set_option maxRecDepth 65536 in
theorem w_ripe : about1.ripe theMethod args0 below0 = true := by decide +kernel
theorem w_running : about1.status = .running := rfl
set_option maxRecDepth 65536 in
theorem w_room : about1.hasRoom e0.platform room_1 = true :=
  launch0.hasRoom_least _ room_1 (by decide +kernel) (by decide +kernel) (by decide +kernel) (by decide +kernel) (by decide +kernel) (by decide +kernel)
theorem allAtoms_all (ts : List Jvm.Cond) (a : Array Jvm.Value) (st : Jvm.State) : (allAtoms ts).before a st = ts.all (fun c => c.before a st) := by
  induction ts with
  | nil => rfl
  | cons c t ih =>
    show (Jvm.Cond.and c (allAtoms t)).before a st = _
    rw [Jvm.Cond.before_and, ih, List.all_cons]
def words1 : List Jvm.Cond := Jvm.Cond.code x code maxLocals ret :: tables_1
/-- a 'code' word, met by the world's own term for the bytes: nothing is compared byte by byte -/
theorem code_word {y : MethodName} {bytes : ByteArray} {mx : Nat} {rt : Option FieldType} {a : Array Value} {s : State} {m : MethodId} {meth : Method} {c : Code} (h1 : s.methodNamed? y = some m) (h2 : s.vm.method? m = some meth) (h3 : meth.code = some c) (h4 : c.code = bytes)
    (h5 : (c.maxLocals == mx && c.exceptionTable.isEmpty && decide (c.maxStack ≤ mostOperands) && decide (meth.sig.returnType = rt) && !meth.locks && decide (parseMethodDescriptor y.desc = some meth.sig)) = true) : (Jvm.Cond.code y bytes mx rt).before a s = true := by
  simp only [Bool.and_eq_true, beq_iff_eq, Bool.not_eq_true', decide_eq_true_eq] at h5
  obtain ⟨⟨⟨⟨⟨g1, g2⟩, g3⟩, g4⟩, g5⟩, g6⟩ := h5
  simp [Cond.before, Cond.holds, Cond.value, h1, h2, h3, h4, g1, g2, g3, g4, g5, g6]
def isCode : Jvm.Cond → Bool
  | .code _ _ _ _ => true
  | _ => false
theorem all_split {L : List Jvm.Cond} {P : Jvm.Cond → Bool} (h1 : L.all (fun c => isCode c || P c) = true) (h2 : ∀ c ∈ L.filter isCode, P c = true) : L.all P = true := by
  refine List.all_eq_true.mpr fun c hc => ?_
  have h := List.all_eq_true.mp h1 c hc
  rcases Bool.eq_false_or_eq_true (isCode c) with hi | hi
  · exact h2 c (List.mem_filter.mpr ⟨hc, hi⟩)
  · simpa [hi] using h
set_option maxRecDepth 65536 in
theorem w_c0 : (Jvm.Cond.code x code maxLocals ret).before args0 about1 = true := code_word (m := ⟨1, 1⟩) (meth := k1m1) (c := k1c1) (by decide +kernel) rfl rfl rfl (by decide +kernel)
set_option maxRecDepth 65536 in
theorem w_c1 : (Jvm.Cond.code ({ cls := "com/example/copyleaf/copyleaf/page/PageFirstAtLeastPinLaw", name := "next", desc := "(JJII)J" } : Jvm.MethodName) method_3_code (8 : Nat) (Option.some Jvm.ClassFile.FieldType.long)).before args0 about1 = true := code_word (m := ⟨1, 2⟩) (meth := k1m2) (c := k1c2) (by decide +kernel) rfl rfl rfl (by decide +kernel)
set_option maxRecDepth 65536 in
theorem w_c2 : (Jvm.Cond.code ({ cls := "com/example/copyleaf/copyleaf/page/PageFirstAtLeastPinLaw", name := "fill", desc := "([J[J[JIIJ)V" } : Jvm.MethodName) method_4_code (9 : Nat) (Option.none : Option Jvm.ClassFile.FieldType)).before args0 about1 = true := code_word (m := ⟨1, 3⟩) (meth := k1m3) (c := k1c3) (by decide +kernel) rfl rfl rfl (by decide +kernel)
set_option maxRecDepth 65536 in
theorem w_c3 : (Jvm.Cond.code ({ cls := "com/example/copyleaf/copyleaf/page/Page", name := "firstAtLeast", desc := "([JIIJI)I" } : Jvm.MethodName) prog_67_method_21_code (13 : Nat) (Option.some Jvm.ClassFile.FieldType.int)).before args0 about1 = true := code_word (m := ⟨3, 1⟩) (meth := k3m1) (c := k3c1) (by decide +kernel) rfl rfl rfl (by decide +kernel)
set_option maxRecDepth 65536 in
theorem w_c4 : (Jvm.Cond.code ({ cls := "com/example/copyleaf/copyleaf/page/PageFirstAtLeastPinLaw", name := "b", desc := "([JIIIJ)I" } : Jvm.MethodName) method_6_code (6 : Nat) (Option.some Jvm.ClassFile.FieldType.int)).before args0 about1 = true := code_word (m := ⟨1, 5⟩) (meth := k1m5) (c := k1c5) (by decide +kernel) rfl rfl rfl (by decide +kernel)
set_option maxRecDepth 65536 in
theorem w_c5 : (Jvm.Cond.code ({ cls := "com/example/copyleaf/copyleaf/page/PageFirstAtLeastPinLaw", name := "shifted", desc := "(JI)J" } : Jvm.MethodName) method_5_code (3 : Nat) (Option.some Jvm.ClassFile.FieldType.long)).before args0 about1 = true := code_word (m := ⟨1, 4⟩) (meth := k1m4) (c := k1c4) (by decide +kernel) rfl rfl rfl (by decide +kernel)
def codes1 : List Jvm.Cond := [Jvm.Cond.code x code maxLocals ret, Jvm.Cond.code ({ cls := "com/example/copyleaf/copyleaf/page/PageFirstAtLeastPinLaw", name := "next", desc := "(JJII)J" } : Jvm.MethodName) method_3_code (8 : Nat) (Option.some Jvm.ClassFile.FieldType.long), Jvm.Cond.code ({ cls := "com/example/copyleaf/copyleaf/page/PageFirstAtLeastPinLaw", name := "fill", desc := "([J[J[JIIJ)V" } : Jvm.MethodName) method_4_code (9 : Nat) (Option.none : Option Jvm.ClassFile.FieldType), Jvm.Cond.code ({ cls := "com/example/copyleaf/copyleaf/page/Page", name := "firstAtLeast", desc := "([JIIJI)I" } : Jvm.MethodName) prog_67_method_21_code (13 : Nat) (Option.some Jvm.ClassFile.FieldType.int), Jvm.Cond.code ({ cls := "com/example/copyleaf/copyleaf/page/PageFirstAtLeastPinLaw", name := "b", desc := "([JIIIJ)I" } : Jvm.MethodName) method_6_code (6 : Nat) (Option.some Jvm.ClassFile.FieldType.int), Jvm.Cond.code ({ cls := "com/example/copyleaf/copyleaf/page/PageFirstAtLeastPinLaw", name := "shifted", desc := "(JI)J" } : Jvm.MethodName) method_5_code (3 : Nat) (Option.some Jvm.ClassFile.FieldType.long)]
set_option maxRecDepth 65536 in
theorem codes_eq : words1.filter isCode = codes1 := rfl
theorem w_codes : ∀ c ∈ words1.filter isCode, c.before args0 about1 = true := by
  rw [codes_eq]
  intro c hc
  simp only [codes1, List.mem_cons, List.not_mem_nil, or_false] at hc
  rcases hc with rfl | rfl | rfl | rfl | rfl | rfl
  · exact w_c0
  · exact w_c1
  · exact w_c2
  · exact w_c3
  · exact w_c4
  · exact w_c5
set_option maxRecDepth 65536 in
theorem w_t1 : words1.all (fun c => isCode c || c.before args0 about1) = true := by decide +kernel
theorem w_tables : (allAtoms (Jvm.Cond.code x code maxLocals ret :: tables_1)).before args0 about1 = true := by
  rw [allAtoms_all]
  show words1.all (fun c => c.before args0 about1) = true
  refine all_split ?_ w_codes
  rw [w_t1]
set_option maxRecDepth 65536 in
theorem w_case : (Jvm.Cond.and given_1 narrow_1).before args0 about1 = true := by decide +kernel
theorem w_applies : (headSpec (Jvm.Cond.code x code maxLocals ret :: tables_1) room_1).applies x e0.platform about1 = true :=
  (Spec.applies_iff w_frames).mpr ⟨w_running, w_runnable, w_alone, w_named, w_hears, w_ripe, w_room, w_tables⟩
theorem atStart : AtStart classFile x code maxLocals ret World_1 tables_1 room_1 Calls_1 rest_1 Pre_1 launch0 p0 e0 about1 theMethod args0 below0 :=
  ⟨lists_1, trivial, launch0.admits_env _ _ _, launch0.least_env, fairChoices_fair.cas, fairChoices_fair.clock, w_frames, w_args, w_heap, w_applies, trivial, trivial, w_case⟩
end start1
theorem witness_1 : WitnessClaimed_1 := ⟨start1.p0, start1.e0, start1.about1, start1.theMethod, start1.args0, start1.below0, start1.atStart⟩
end Jvm.Pilot.@@N@@
