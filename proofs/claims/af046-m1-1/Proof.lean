import JvmDerived
import JvmDerived.Pilot.@@N@@Statement
import JvmDerived.Pilot.@@N@@Code
set_option linter.unusedVariables false
set_option linter.unusedSimpArgs false
@@BLOCK:NumsL.lean.txt@@
namespace Jvm.RoadKit
open Sem ClassFile Op Lib Jvm.Stand Jvm.Free Jvm.LawKit
section New
variable {p : Program} {l : Launch} {e : Env} {R : Room} {s : State} {m : MethodId} {args : Array Value} {below : List Frame} {meth : Method} {c : Code} {T : State} {locs : List Loc} {cells slots : Nat}
theorem retI (X : Stand p l e R s m args below meth c T locs cells slots) (hx : p.tables.exec = Jvm.exec) {pc : Nat} {Ls : Array Slot} {z : Int32} {rest : List Value} (hret : meth.sig.returnType = some .int) (hd : decode c.code pc = .ok (.ireturn, 1)) {fs : List Frame}
    (hl : ∀ (f : JFrame) (acts : List Action), f.method = m → f.locked = none → f.entered = [] → (doReturn e (T.setTop f) acts (some (.int z))).1 = T.setFrames fs) : Steps p.tables e below (T.setTop (mkF m pc Ls (.int z :: rest))) (T.setFrames fs) := by
  have hm' : T.vm.method? m = some meth := X.method'
  have hn : narrow .int (.int z) = .int z := rfl
  show Steps p.tables e below (T.setTop { method := m, pc := pc, locals := Ls, stack := _ :: rest, locked := none }) _
  jvm_step X.here [X.here.top, hx, hd, hm', hret, hn]
  first | (intro acts; rw [hl _ acts rfl rfl rfl]) | rw [hl _ _ rfl rfl rfl]
  exact Steps.refl _
theorem retD (X : Stand p l e R s m args below meth c T locs cells slots) (hx : p.tables.exec = Jvm.exec) {pc : Nat} {Ls : Array Slot} {z : UInt64} {rest : List Value} (hret : meth.sig.returnType = some .double) (hd : decode c.code pc = .ok (.dreturn, 1)) {fs : List Frame}
    (hl : ∀ (f : JFrame) (acts : List Action), f.method = m → f.locked = none → f.entered = [] → (doReturn e (T.setTop f) acts (some (.double z))).1 = T.setFrames fs) : Steps p.tables e below (T.setTop (mkF m pc Ls (.double z :: rest))) (T.setFrames fs) := by
  have hm' : T.vm.method? m = some meth := X.method'
  show Steps p.tables e below (T.setTop { method := m, pc := pc, locals := Ls, stack := _ :: rest, locked := none }) _
  jvm_step X.here [X.here.top, hx, hd, hm', hret, narrow]
  first | (intro acts; rw [hl _ acts rfl rfl rfl]) | (refine ⟨meth, hm', ⟨_, hret, rfl⟩, fun acts => ?_⟩; rw [hl _ acts rfl rfl rfl])
  exact Steps.refl _
theorem retA (X : Stand p l e R s m args below meth c T locs cells slots) (hx : p.tables.exec = Jvm.exec) {pc : Nat} {Ls : Array Slot} {v : Value} {rest : List Value} {t : FieldType} (hret : meth.sig.returnType = some t) (ht : t.isReference = true) (hv : v.isRef = true) (hd : decode c.code pc = .ok (.areturn, 1)) {fs : List Frame}
    (hl : ∀ (f : JFrame) (acts : List Action), f.method = m → f.locked = none → f.entered = [] → (doReturn e (T.setTop f) acts (some v)).1 = T.setFrames fs) : Steps p.tables e below (T.setTop (mkF m pc Ls (v :: rest))) (T.setFrames fs) := by
  have hm' : T.vm.method? m = some meth := X.method'
  show Steps p.tables e below (T.setTop { method := m, pc := pc, locals := Ls, stack := _ :: rest, locked := none }) _
  jvm_step X.here [X.here.top, hx, hd, hm', hret, hv, ht]
  first | (intro acts; rw [hl _ acts rfl rfl rfl]) | (refine ⟨meth, hm', ⟨_, hret, rfl⟩, fun acts => ?_⟩; rw [hl _ acts rfl rfl rfl])
  exact Steps.refl _
end New
end Jvm.RoadKit
namespace Jvm.OwnF
open Jvm.FP.Core
/-- x is a finite double, of the value M * 2^(e - 1074), exactly -/
def DV (x : UInt64) (M : Int) (e : Nat) : Prop := ∃ s c q, val64 x = .fin s c q ∧ signed s (c * 2 ^ (q + 1074).toNat) = M * ((2 ^ e : Nat) : Int)
theorem DV.dfin {x : UInt64} {M : Int} {e : Nat} (h : DV x M e) : DFin x := by obtain ⟨s, c, q, h, -⟩ := h; exact ⟨s, c, q, h⟩
theorem DV.fin {x : UInt64} {M : Int} {e : Nat} (h : DV x M e) : Jvm.Free.Fl.Fin64 x := Jvm.Free.Fl.fin64_core.mpr h.dfin
theorem DV.noNaN {x : UInt64} {M : Int} {e : Nat} (h : DV x M e) : Jvm.Free.Fl.NoNaN64 x := h.fin.noNaN
theorem qmax_b64 : b64.qmax = 971 := by decide
theorem zv (s : Bool) (c : Nat) (q : Int) : zval b64 (.fin s c q) = signed s (c * 2 ^ (q + 1074).toNat) := by
  show signed s (inUnits c q b64.qmin) = _
  unfold inUnits
  rw [qmin_b64, Int.sub_neg]
theorem two_pow_int (n : Nat) : (0 : Int) < ((2 ^ n : Nat) : Int) := Int.natCast_pos.mpr (Nat.two_pow_pos n)
/-- powers of two on both sides, cancelled -/
theorem cancel {A B x y : Nat} (h : A * 2 ^ x = B * 2 ^ y) : A * 2 ^ ((x : Int) - (y : Int)).toNat = B * 2 ^ ((y : Int) - (x : Int)).toNat := by
  rcases Nat.le_total x y with hl | hl
  · have e1 : ((x : Int) - (y : Int)).toNat = 0 := by omega
    have e2 : ((y : Int) - (x : Int)).toNat = y - x := by omega
    rw [e1, e2]
    have h2 : 2 ^ y = 2 ^ (y - x) * 2 ^ x := by rw [← Nat.pow_add]; congr 1; omega
    rw [h2, ← Nat.mul_assoc] at h
    rw [Nat.eq_of_mul_eq_mul_right (Nat.two_pow_pos x) h]; simp
  · have e1 : ((x : Int) - (y : Int)).toNat = x - y := by omega
    have e2 : ((y : Int) - (x : Int)).toNat = 0 := by omega
    rw [e1, e2]
    have h2 : 2 ^ x = 2 ^ (x - y) * 2 ^ y := by rw [← Nat.pow_add]; congr 1; omega
    rw [h2, ← Nat.mul_assoc] at h
    rw [Nat.eq_of_mul_eq_mul_right (Nat.two_pow_pos y) h]; simp
/-- a magnitude that the format holds is rounded to itself; k: the places by which it is moved up -/
theorem round_at {s : Bool} {c N e k : Nat} {q : Int} (hN : N * 2 ^ k < 2 ^ 53) (hk : k ≤ e) (he : e ≤ 2045 + k) (h : c * 2 ^ (q - ((e : Int) - 1074)).toNat = N * 2 ^ (((e : Int) - 1074) - q).toNat) :
    ∃ c' q', round b64 (.fin s c q) = .fin s c' q' ∧ c' * 2 ^ (q' + 1074).toNat = N * 2 ^ e := by
  have h1 : round b64 (.fin s c q) = round b64 (.fin s N ((e : Int) - 1074)) :=
    roundRatio_congr (by decide) (by decide) (by rw [Nat.mul_one, Nat.mul_one]; exact h)
  have h2 : round b64 (.fin s N ((e : Int) - 1074)) = round b64 (.fin s (N * 2 ^ k) ((e : Int) - 1074 - k)) := by
    refine roundRatio_congr (by decide) (by decide) ?_
    have e1 : ((e : Int) - 1074 - (e - 1074 - k)).toNat = k := by omega
    have e2 : ((e : Int) - 1074 - k - (e - 1074)).toNat = 0 := by omega
    rw [e1, e2]; simp
  obtain ⟨c', q', hr, hu⟩ := round_exact good_b64 s (c := N * 2 ^ k) (q := (e : Int) - 1074 - k) hN (by rw [qmin_b64]; omega) (by rw [qmax_b64]; omega)
  refine ⟨c', q', by rw [h1, h2, hr], ?_⟩
  unfold inUnits at hu
  rw [qmin_b64, Int.sub_neg, Int.sub_neg, show ((e : Int) - 1074 - k + 1074).toNat = e - k by omega] at hu
  rw [hu, Nat.mul_assoc, ← Nat.pow_add]; congr 2; omega
theorem abs_of {s : Bool} {A : Nat} {M : Int} {e : Nat} (h : signed s A = M * ((2 ^ e : Nat) : Int)) : A = M.natAbs * 2 ^ e := by
  have := congrArg Int.natAbs h
  rwa [natAbs_signed, Int.natAbs_mul, Int.natAbs_natCast] at this
theorem sign_of {s : Bool} {A : Nat} {M : Int} {e : Nat} (h : signed s A = M * ((2 ^ e : Nat) : Int)) : signed s M.natAbs = M := by
  have ha := abs_of h
  rw [ha, signed_mul] at h
  exact Int.eq_of_mul_eq_mul_right (Int.ne_of_gt (two_pow_int e)) h
theorem q_low {x : UInt64} {s : Bool} {c : Nat} {q : Int} (h : val64 x = .fin s c q) : -1074 ≤ q := by
  have := val64_fits x
  rw [h] at this
  have h2 := this.2.1
  rw [qmin_b64] at h2; exact h2
theorem dmul_v {x y : UInt64} {M N : Int} {e f : Nat} (k g : Nat) (hx : DV x M e) (hy : DV y N f) (hg : g + 1074 = e + f) (hb : (M * N).natAbs * 2 ^ k < 2 ^ 53) (hk : k ≤ g) (he : g ≤ 2045 + k) : DV (FP.dmul x y) (M * N) g := by
  obtain ⟨s, c, q, hv, hz⟩ := hx
  obtain ⟨t, d, r, hw, hu⟩ := hy
  have q1 := q_low hv
  have r1 := q_low hw
  have a1 := abs_of hz
  have a2 := abs_of hu
  have hp : c * d * 2 ^ ((q + 1074).toNat + (r + 1074).toNat) = (M * N).natAbs * 2 ^ (e + f) := by
    rw [Nat.pow_add, Nat.pow_add, Int.natAbs_mul]
    calc c * d * (2 ^ (q + 1074).toNat * 2 ^ (r + 1074).toNat) = (c * 2 ^ (q + 1074).toNat) * (d * 2 ^ (r + 1074).toNat) := by ac_rfl
      _ = (M.natAbs * 2 ^ e) * (N.natAbs * 2 ^ f) := by rw [a1, a2]
      _ = M.natAbs * N.natAbs * (2 ^ e * 2 ^ f) := by ac_rfl
  have hc := cancel hp
  have hval : val64 (FP.dmul x y) = round b64 (.fin (s != t) (c * d) (q + r)) := by
    rw [show val64 (FP.dmul x y) = round b64 (exactProduct (val64 x) (val64 y)) from val64_dmul x y, hv, hw]; rfl
  obtain ⟨c', q', hr, hn⟩ := round_at (s := s != t) (c := c * d) (q := q + r) (N := (M * N).natAbs) (e := g) (k := k) hb hk he (by
    have e1 : (q + r - ((g : Int) - 1074)).toNat = (((q + 1074).toNat + (r + 1074).toNat : Nat) - ((e + f : Nat) : Int)).toNat := by congr 1; omega
    have e2 : ((g : Int) - 1074 - (q + r)).toNat = (((e + f : Nat) : Int) - ((q + 1074).toNat + (r + 1074).toNat : Nat)).toNat := by congr 1; omega
    rw [e1, e2]; exact hc)
  refine ⟨s != t, c', q', by rw [hval, hr], ?_⟩
  rw [hn, signed_mul, Int.natAbs_mul, signed_xor, sign_of hz, sign_of hu]
theorem ddiv_v {x y : UInt64} {M : Int} {e f : Nat} (k g : Nat) (hx : DV x M e) (hy : DV y 1 f) (hg : g + f = e + 1074) (hb : M.natAbs * 2 ^ k < 2 ^ 53) (hk : k ≤ g) (he : g ≤ 2045 + k) : DV (FP.ddiv x y) M g := by
  obtain ⟨s, c, q, hv, hz⟩ := hx
  obtain ⟨t, d, r, hw, hu⟩ := hy
  have q1 := q_low hv
  have r1 := q_low hw
  have a1 := abs_of hz
  have a2 := abs_of hu
  have a3 : d * 2 ^ (r + 1074).toNat = 2 ^ f := by rw [a2]; simp
  have hd : d ≠ 0 := by
    intro h0; rw [h0, Nat.zero_mul] at a3; have := Nat.two_pow_pos f; omega
  have hval : val64 (FP.ddiv x y) = roundRatio b64 (s != t) c d (q - r) := by
    rw [show val64 (FP.ddiv x y) = quotient b64 (val64 x) (val64 y) from val64_ddiv x y, hv, hw]
    show (if d = 0 then _ else _) = _
    rw [if_neg hd]
  have hp : c * 2 ^ ((q + 1074).toNat + f) = M.natAbs * d * 2 ^ (e + (r + 1074).toNat) := by
    rw [Nat.pow_add, Nat.pow_add, ← a3]
    calc c * (2 ^ (q + 1074).toNat * (d * 2 ^ (r + 1074).toNat)) = (c * 2 ^ (q + 1074).toNat) * (d * 2 ^ (r + 1074).toNat) := by ac_rfl
      _ = (M.natAbs * 2 ^ e) * (d * 2 ^ (r + 1074).toNat) := by rw [a1]
      _ = M.natAbs * d * (2 ^ e * 2 ^ (r + 1074).toNat) := by ac_rfl
  have hc := cancel hp
  have h1 : roundRatio b64 (s != t) c d (q - r) = round b64 (.fin (s != t) M.natAbs ((g : Int) - 1074)) := by
    refine roundRatio_congr (by omega) (by decide) ?_
    have e1 : (q - r - ((g : Int) - 1074)).toNat = (((q + 1074).toNat + f : Nat) - ((e + (r + 1074).toNat : Nat) : Int)).toNat := by congr 1; omega
    have e2 : ((g : Int) - 1074 - (q - r)).toNat = (((e + (r + 1074).toNat : Nat) : Int) - ((q + 1074).toNat + f : Nat)).toNat := by congr 1; omega
    rw [e1, e2, Nat.mul_one]; exact hc
  obtain ⟨c', q', hr, hn⟩ := round_at (s := s != t) (c := M.natAbs) (q := (g : Int) - 1074) (N := M.natAbs) (e := g) (k := k) hb hk he rfl
  refine ⟨s != t, c', q', by rw [hval, h1, hr], ?_⟩
  have ht : signed t 1 = 1 := sign_of hu
  rw [hn, signed_mul]
  have := signed_xor s t M.natAbs 1
  rw [Nat.mul_one, ht, Int.mul_one, sign_of hz] at this
  rw [this]
theorem dadd_v {x y : UInt64} {M N : Int} {e : Nat} (k : Nat) (hx : DV x M e) (hy : DV y N e) (hb : (M + N).natAbs * 2 ^ k < 2 ^ 53) (hk : k ≤ e) (he : e ≤ 2045 + k) : DV (FP.dadd x y) (M + N) e := by
  obtain ⟨s, c, q, hv, hz⟩ := hx
  obtain ⟨t, d, r, hw, hu⟩ := hy
  have f1 := val64_fits x
  have f2 := val64_fits y
  rw [hv] at f1
  rw [hw] at f2
  obtain ⟨sg, n, e0, hs, hq, hsum⟩ := sum_units f1 f2
  rw [zv, zv, hz, hu, ← Int.add_mul] at hsum
  unfold inUnits at hsum
  rw [qmin_b64] at hq
  rw [qmin_b64, Int.sub_neg] at hsum
  have hval : val64 (FP.dadd x y) = round b64 (.fin sg n e0) := by
    rw [show val64 (FP.dadd x y) = round b64 (exactSum (val64 x) (val64 y)) from val64_dadd x y, hv, hw, hs]
  have hc := cancel (abs_of hsum)
  obtain ⟨c', q', hr, hn⟩ := round_at (s := sg) (c := n) (q := e0) (N := (M + N).natAbs) (e := e) (k := k) hb hk he (by
    have e1 : (e0 - ((e : Int) - 1074)).toNat = (((e0 + 1074).toNat : Int) - (e : Int)).toNat := by congr 1; omega
    have e2 : ((e : Int) - 1074 - e0).toNat = ((e : Int) - ((e0 + 1074).toNat : Int)).toNat := by congr 1; omega
    rw [e1, e2]; exact hc)
  refine ⟨sg, c', q', by rw [hval, hr], ?_⟩
  rw [hn, signed_mul, sign_of hsum]
theorem DV.zval {x : UInt64} {M : Int} {e : Nat} (h : DV x M e) : zval b64 (val64 x) = M * ((2 ^ e : Nat) : Int) := by
  obtain ⟨s, c, q, hv, hz⟩ := h
  rw [hv, zv, hz]
theorem DV.nn {x : UInt64} {M : Int} {e : Nat} (h : DV x M e) : val64 x ≠ .nan := by
  obtain ⟨s, c, q, hv, -⟩ := h
  rw [hv]; exact Datum.noConfusion
theorem dcmp_v {x y : UInt64} {M N : Int} {e f : Nat} (hx : DV x M e) (hy : DV y N f) : FP.dcmp x y = some (compare (M * ((2 ^ e : Nat) : Int)) (N * ((2 ^ f : Nat) : Int))) := by
  rw [← hx.zval, ← hy.zval]
  exact order_zval good_b64 (val64_fits x) (val64_fits y) hx.nn hy.nn
theorem DV.eq {x : UInt64} {M N : Int} {e f : Nat} (h : DV x M e) (q : M * ((2 ^ e : Nat) : Int) = N * ((2 ^ f : Nat) : Int)) : DV x N f := by
  obtain ⟨s, c, q, hv, hz⟩ := h
  exact ⟨s, c, q, hv, by rw [hz]; assumption⟩
theorem DV.of_int {x : UInt64} {i : Int} (h : DInt i x) : DV x i 1074 := by
  unfold DInt at h
  have hf := val64_fits x
  generalize hv : val64 x = d at h hf
  cases d with
  | nan => exact h.elim
  | inf s => exact h.elim
  | fin s c q =>
    have hq : -1074 ≤ q := by have := hf.2.1; rw [qmin_b64] at this; exact this
    refine ⟨s, c, q, hv, ?_⟩
    have h' : signed s (c * 2 ^ q.toNat) = i * ((2 ^ (-q).toNat : Nat) : Int) := h
    rcases Int.le_total 0 q with h0 | h0
    · have e1 : (-q).toNat = 0 := by omega
      have e2 : (q + 1074).toNat = q.toNat + 1074 := by omega
      rw [e1] at h'
      rw [e2, Nat.pow_add, ← Nat.mul_assoc, signed_mul, h']; simp
    · have e1 : q.toNat = 0 := by omega
      rw [e1, Nat.pow_zero, Nat.mul_one] at h'
      rw [signed_mul, h', Int.mul_assoc, ← Int.natCast_mul, ← Nat.pow_add, show (-q).toNat + (q + 1074).toNat = 1074 by omega]
theorem i2d_v (a : Int32) : DV (FP.i2d a) a.toInt 1074 := DV.of_int (i2d_int a)
theorem l2d_v {a : Int64} (h : a.toInt.natAbs ≤ 2 ^ 53) : DV (FP.l2d a) a.toInt 1074 := DV.of_int (l2d_int h)
theorem compare_lt {a b : Int} (h : a < b) : compare a b = .lt := by rw [compare_ite, if_pos h]
theorem compare_eq {a b : Int} (h : a = b) : compare a b = .eq := by rw [compare_ite, if_neg (by omega), if_pos h]
theorem compare_gt {a b : Int} (h : b < a) : compare a b = .gt := by rw [compare_ite, if_neg (by omega), if_neg (by omega)]
/-- what dcmpl and dcmpg push, of two finite doubles -/
theorem cmp_lt {x y : UInt64} {M N : Int} {e f : Nat} (hx : DV x M e) (hy : DV y N f) (o : Jvm.ClassFile.CmpOp) (h : M * ((2 ^ e : Nat) : Int) < N * ((2 ^ f : Nat) : Int)) : Jvm.Op.cmpValue (FP.dcmp x y) o = -1 := by
  rw [dcmp_v hx hy, compare_lt h]; rfl
theorem cmp_eq {x y : UInt64} {M N : Int} {e f : Nat} (hx : DV x M e) (hy : DV y N f) (o : Jvm.ClassFile.CmpOp) (h : M * ((2 ^ e : Nat) : Int) = N * ((2 ^ f : Nat) : Int)) : Jvm.Op.cmpValue (FP.dcmp x y) o = 0 := by
  rw [dcmp_v hx hy, compare_eq h]; rfl
theorem cmp_gt {x y : UInt64} {M N : Int} {e f : Nat} (hx : DV x M e) (hy : DV y N f) (o : Jvm.ClassFile.CmpOp) (h : N * ((2 ^ f : Nat) : Int) < M * ((2 ^ e : Nat) : Int)) : Jvm.Op.cmpValue (FP.dcmp x y) o = 1 := by
  rw [dcmp_v hx hy, compare_gt h]; rfl
theorem cmp_ngt {x y : UInt64} {M N : Int} {e f : Nat} (hx : DV x M e) (hy : DV y N f) (o : Jvm.ClassFile.CmpOp) (h : ¬ N * ((2 ^ f : Nat) : Int) < M * ((2 ^ e : Nat) : Int)) : ¬ 0 < Jvm.Op.cmpValue (FP.dcmp x y) o := by
  rcases Int.lt_trichotomy (M * ((2 ^ e : Nat) : Int)) (N * ((2 ^ f : Nat) : Int)) with q | q | q
  · rw [cmp_lt hx hy o q]; decide
  · rw [cmp_eq hx hy o q]; decide
  · exact absurd q h
theorem cmp_nlt {x y : UInt64} {M N : Int} {e f : Nat} (hx : DV x M e) (hy : DV y N f) (o : Jvm.ClassFile.CmpOp) (h : ¬ M * ((2 ^ e : Nat) : Int) < N * ((2 ^ f : Nat) : Int)) : ¬ Jvm.Op.cmpValue (FP.dcmp x y) o < 0 := by
  rcases Int.lt_trichotomy (M * ((2 ^ e : Nat) : Int)) (N * ((2 ^ f : Nat) : Int)) with q | q | q
  · exact absurd q h
  · rw [cmp_eq hx hy o q]; decide
  · rw [cmp_gt hx hy o q]; decide
/-- rounding keeps the order with a double: a product that is no smaller than c, no greater than c -/
theorem prod_fin {x y : UInt64} {M N : Int} {e f : Nat} (hx : DV x M e) (hy : DV y N f) : ∃ s c q, val64 (FP.dmul x y) = round b64 (.fin s c q) ∧ -2148 ≤ q ∧ signed s (inUnits c q (-2148)) = (M * ((2 ^ e : Nat) : Int)) * (N * ((2 ^ f : Nat) : Int)) := by
  have zx := hx.zval
  have zy := hy.zval
  obtain ⟨s, c, q, hv, -⟩ := hx
  obtain ⟨t, d, r, hw, -⟩ := hy
  have f1 := val64_fits x
  have f2 := val64_fits y
  rw [hv] at f1 zx
  rw [hw] at f2 zy
  obtain ⟨h1, h2, h3⟩ := product_units f1 f2
  rw [qmin_b64] at h2 h3
  refine ⟨s != t, c * d, q + r, ?_, h2, ?_⟩
  · rw [show val64 (FP.dmul x y) = round b64 (exactProduct (val64 x) (val64 y)) from val64_dmul x y, hv, hw, h1]
  · rw [show (-2148 : Int) = 2 * -1074 from rfl, h3, signed_xor]
    unfold zval at zx zy
    rw [← zx, ← zy]; rfl
theorem dmul_ge {x y c : UInt64} {M N K : Int} {e f g : Nat} (hx : DV x M e) (hy : DV y N f) (hc : DV c K g) (h : K * ((2 ^ g : Nat) : Int) * ((2 ^ 1074 : Nat) : Int) ≤ (M * ((2 ^ e : Nat) : Int)) * (N * ((2 ^ f : Nat) : Int))) : zval b64 (val64 c) ≤ zval b64 (val64 (FP.dmul x y)) := by
  obtain ⟨s, d, q, hv, hq, hs⟩ := prod_fin hx hy
  rw [hv]
  refine zval_round_ge good_b64 (e0 := -2148) (val64_fits c) hc.nn (by rw [qmin_b64]; decide) hq ?_
  rw [hs, hc.zval, qmin_b64]; exact h
theorem dmul_le {x y c : UInt64} {M N K : Int} {e f g : Nat} (hx : DV x M e) (hy : DV y N f) (hc : DV c K g) (h : (M * ((2 ^ e : Nat) : Int)) * (N * ((2 ^ f : Nat) : Int)) ≤ K * ((2 ^ g : Nat) : Int) * ((2 ^ 1074 : Nat) : Int)) : zval b64 (val64 (FP.dmul x y)) ≤ zval b64 (val64 c) := by
  obtain ⟨s, d, q, hv, hq, hs⟩ := prod_fin hx hy
  rw [hv]
  refine zval_round_le good_b64 (e0 := -2148) (val64_fits c) hc.nn (by rw [qmin_b64]; decide) hq ?_
  rw [hs, hc.zval, qmin_b64]; exact h
theorem cmp_z {x y : UInt64} (hx : Jvm.Free.Fl.NoNaN64 x) (hy : Jvm.Free.Fl.NoNaN64 y) : FP.dcmp x y = some (compare (zval b64 (val64 x)) (zval b64 (val64 y))) :=
  order_zval good_b64 (val64_fits x) (val64_fits y) (Jvm.Free.Fl.val64_no.mp hx) (Jvm.Free.Fl.val64_no.mp hy)
theorem cmp_zge {x y : UInt64} (hx : Jvm.Free.Fl.NoNaN64 x) (hy : Jvm.Free.Fl.NoNaN64 y) (o : Jvm.ClassFile.CmpOp) (h : zval b64 (val64 y) ≤ zval b64 (val64 x)) : ¬ Jvm.Op.cmpValue (FP.dcmp x y) o < 0 := by
  rw [cmp_z hx hy]
  rcases Int.lt_or_eq_of_le h with q | q
  · rw [compare_gt q]; cases o <;> decide
  · rw [compare_eq q.symm]; cases o <;> decide
theorem cmp_zlt {x y : UInt64} (hx : Jvm.Free.Fl.NoNaN64 x) (hy : Jvm.Free.Fl.NoNaN64 y) (o : Jvm.ClassFile.CmpOp) (h : zval b64 (val64 x) < zval b64 (val64 y)) : Jvm.Op.cmpValue (FP.dcmp x y) o < 0 := by
  rw [cmp_z hx hy, compare_lt h]; cases o <;> decide
theorem inf_mul {y : UInt64} {M : Int} {e : Nat} (hy : DV y M e) (hM : 0 < M) : FP.dmul 9218868437227405312 y = 9218868437227405312 := by
  have hi : val64 9218868437227405312 = .inf false := by decide +kernel
  obtain ⟨t, d, r, hw, hz⟩ := hy
  have hs := sign_of hz
  have ha := abs_of hz
  have ht : t = false := by
    cases t with
    | false => rfl
    | true => simp [signed] at hs; omega
  have hd : d ≠ 0 := by
    intro h0; rw [h0, Nat.zero_mul] at ha
    have h1 := Nat.mul_pos (show 0 < M.natAbs by omega) (Nat.two_pow_pos e)
    omega
  have hv : val64 (FP.dmul 9218868437227405312 y) = .inf false := by
    rw [show val64 (FP.dmul 9218868437227405312 y) = round b64 (exactProduct (val64 9218868437227405312) (val64 y)) from val64_dmul _ _, hi, hw, ht]
    show round b64 (if d = 0 then _ else _) = _
    rw [if_neg hd]; rfl
  exact val64_inj (by rw [hv]; exact Datum.noConfusion) (hv.trans hi.symm)
theorem mul_inf {y : UInt64} {M : Int} {e : Nat} (hy : DV y M e) (hM : 0 < M) : FP.dmul y 9218868437227405312 = 9218868437227405312 := by
  rw [show FP.dmul y 9218868437227405312 = FP.dmul 9218868437227405312 y from dmul_comm _ _]; exact inf_mul hy hM
end Jvm.OwnF
namespace Jvm.Pilot.@@N@@
open Jvm Jvm.ClassFile Sem Op Lib Jvm.Free Jvm.Stand Jvm.LawKit Jvm.RoadKit Bundle Jvm.Pilot.@@N@@.Jvm.D
theorem d3_0 : decode method_3_code 0 = .ok (.lconst 1, 1) := by decide +kernel
theorem d3_1 : decode method_3_code 1 = .ok (.iload_n 0, 1) := by decide +kernel
theorem d3_2 : decode method_3_code 2 = .ok (.lshl, 1) := by decide +kernel
theorem d3_3 : decode method_3_code 3 = .ok (.l2d, 1) := by decide +kernel
theorem d3_4 : decode method_3_code 4 = .ok (.dreturn, 1) := by decide +kernel
theorem d37_0 : decode prog_37_method_2_code 0 = .ok (.iconst 0, 1) := by decide +kernel
theorem d37_1 : decode prog_37_method_2_code 1 = .ok (.istore 4, 2) := by decide +kernel
theorem d37_3 : decode prog_37_method_2_code 3 = .ok (.dload_n 0, 1) := by decide +kernel
theorem d37_4 : decode prog_37_method_2_code 4 = .ok (.dstore 5, 2) := by decide +kernel
theorem d37_6 : decode prog_37_method_2_code 6 = .ok (.dload 5, 2) := by decide +kernel
theorem d37_8 : decode prog_37_method_2_code 8 = .ok (.dload_n 2, 1) := by decide +kernel
theorem d37_9 : decode prog_37_method_2_code 9 = .ok (.dcmp .l, 1) := by decide +kernel
theorem d37_10 : decode prog_37_method_2_code 10 = .ok (.ifCond .le 24, 3) := by decide +kernel
theorem d37_13 : decode prog_37_method_2_code 13 = .ok (.iload 4, 2) := by decide +kernel
theorem d37_15 : decode prog_37_method_2_code 15 = .ok (.bipush 10, 2) := by decide +kernel
theorem d37_17 : decode prog_37_method_2_code 17 = .ok (.if_icmp .ge 17, 3) := by decide +kernel
theorem d37_20 : decode prog_37_method_2_code 20 = .ok (.iinc 4 1, 3) := by decide +kernel
theorem d37_23 : decode prog_37_method_2_code 23 = .ok (.dload 5, 2) := by decide +kernel
theorem d37_25 : decode prog_37_method_2_code 25 = .ok (.ldc2_w 52, 3) := by decide +kernel
theorem d37_28 : decode prog_37_method_2_code 28 = .ok (.ddiv, 1) := by decide +kernel
theorem d37_29 : decode prog_37_method_2_code 29 = .ok (.dstore 5, 2) := by decide +kernel
theorem d37_31 : decode prog_37_method_2_code 31 = .ok (.goto (-25), 3) := by decide +kernel
theorem d37_34 : decode prog_37_method_2_code 34 = .ok (.iload 4, 2) := by decide +kernel
theorem d37_36 : decode prog_37_method_2_code 36 = .ok (.ireturn, 1) := by decide +kernel
theorem pn0 : plainName "com/example/tight_reach/tightreach/StepPartsHalvingsPinLaw" = true := by first | (simp [plainName, overriddenIn]; done) | decide +kernel
theorem pn1 : plainName "com/example/tight_reach/tightreach/StepParts" = true := by first | (simp [plainName, overriddenIn]; done) | decide +kernel
theorem pd0 : parseMethodDescriptor "(I)D" = some ⟨[.int], some .double⟩ := by decide +kernel
theorem pd1 : parseMethodDescriptor "(DD)I" = some ⟨[.double, .double], some .int⟩ := by decide +kernel
open Jvm.OwnF Jvm.FP.Core
theorem own_pow2 (k : Int32) (n : Nat) (hk : k = Int32.ofNat n) (hn : n < 32) : DV (FP.l2d ((1 : Int64) <<< (k &&& 0x3f).toInt64)) 1 (1074 + n) := by
  have h : ∀ n, n < 32 → ((1 : Int64) <<< ((Int32.ofNat n) &&& 0x3f).toInt64).toInt = ((2 ^ n : Nat) : Int) := by decide
  have h1 := h n hn
  rw [← hk] at h1
  have hle : 2 ^ n ≤ 2 ^ 31 := Nat.pow_le_pow_right (by decide) (by omega)
  have h2 : DV (FP.l2d ((1 : Int64) <<< (k &&& 0x3f).toInt64)) ((2 ^ n : Nat) : Int) 1074 := by
    rw [← h1]; exact l2d_v (by rw [h1, Int.natAbs_natCast]; omega)
  refine h2.eq ?_
  rw [Int.one_mul, Nat.pow_add, Nat.mul_comm, Int.natCast_mul]
theorem own_two : DV 4611686018427387904 1 1075 := ⟨false, 2 ^ 52, -51, by decide +kernel, by decide +kernel⟩
theorem own_and31 (i : Int32) : ∃ n, (i &&& (31 : Int32)) = Int32.ofNat n ∧ n < 32 := by
  have e1 : (i &&& 31).toInt = i.toInt % 2 ^ 5 := Jvm.Kit.i32_mask i 31 (k := 5) (by decide) (by decide)
  refine ⟨(i &&& 31).toInt.toNat, ?_, by omega⟩
  rw [← Int32.toInt_inj, Int32.toInt_ofNat_of_lt (by omega)]; omega
theorem own_lt10 {j : Nat} (h : j < 10) : Int32.ofNat j < (10 : Int32) := by
  have q : ∀ j, j < 10 → Int32.ofNat j < (10 : Int32) := by decide
  exact q j h
theorem own_inc {j : Nat} (h : j < 10) : Int32.ofNat j + (1 : Int32) = Int32.ofNat (j + 1) := by
  have q : ∀ j, j < 10 → Int32.ofNat j + (1 : Int32) = Int32.ofNat (j + 1) := by decide
  exact q j h
theorem own_nn {z : Nat} (h : z ≤ 10) : ¬ Int32.ofNat z < 0 := by
  have q : ∀ j, j < 11 → ¬ Int32.ofNat j < 0 := by decide
  exact q z (by omega)
theorem own_n10 {z : Nat} (h : z ≤ 10) : ¬ (10 : Int32) < Int32.ofNat z := by
  have q : ∀ j, j < 11 → ¬ (10 : Int32) < Int32.ofNat j := by decide
  exact q z (by omega)
theorem own_eq10 {z : Nat} (h : z ≤ 10) : Int32.ofNat z = 10 ↔ z = 10 := by
  have q : ∀ j, j < 11 → (Int32.ofNat j = 10 ↔ j = 10) := by decide
  exact q z (by omega)
theorem own_eq0 {z : Nat} (h : z ≤ 10) : Int32.ofNat z = 0 ↔ z = 0 := by
  have q : ∀ j, j < 11 → (Int32.ofNat j = 0 ↔ j = 0) := by decide
  exact q z (by omega)
theorem own_dec {z : Nat} (h : z ≤ 10) (h0 : ¬ z = 0) : Int32.ofNat z - (1 : Int32) = Int32.ofNat (z - 1) := by
  have q : ∀ j, j < 11 → ¬ j = 0 → Int32.ofNat j - (1 : Int32) = Int32.ofNat (j - 1) := by decide
  exact q z (by omega) h0

def Q3 (Z : State) (k : Int32) (n : Nat) (h0 : Heap) (n0 : Nat) (v : Option Value) (h : Heap) (L : List Loc) : Prop := (∃ d : UInt64, v = some (.double d) ∧ DV d 1 (1074 + n)) ∧ Fr n0 L ∧ h = h0
theorem ef3 (m : MethodId) (k : Int32) : entryFrame m #[(.int k)] 1 = mkF m 0 #[.val (.int k)] [] := by first | (simp [entryFrame, mkF, argsToLocals, Value.category, List.replicate]; done) | rfl
set_option maxRecDepth 65536 in
set_option maxHeartbeats 40000000 in
theorem rm3 (l : Launch) (Z : State) (a0 : Array Value) (hw : ∀ d ∈ tables_1, d.before a0 Z = true) (ws : List Jvm.Cond) (k : Int32) (n : Nat) (h0 : Heap) (n0 : Nat) (Z0 : n0 ≤ h0.size) (hk : k = Int32.ofNat n) (hn : n < 32) :
    MetFree l (⟨"com/example/tight_reach/tightreach/StepPartsHalvingsPinLaw", "pow2", "(I)D"⟩ : MethodName) (head1 (Jvm.Cond.code (⟨"com/example/tight_reach/tightreach/StepPartsHalvingsPinLaw", "pow2", "(I)D"⟩ : MethodName) method_3_code 1 (some .double) :: ws) ({ frames := 0, cells := 0, slots := 0, locals := 0 } : Room)) (fun a U => a = #[(.int k)] ∧ Z.Warmed39 U.vm ∧ U.heap = h0) (fun _ _ _ _ _ => True) (fun _ U o U' => ∃ v L, o = .returned v ∧ Q3 Z k n h0 n0 v U'.heap L ∧ FrameEnd U o U' L ({ frames := 0, cells := 0, slots := 0, locals := 0 } : Room).cells ({ frames := 0, cells := 0, slots := 0, locals := 0 } : Room).slots) := by
  refine MetFree.of_bodySF (plainFor_of_name pn0) hisR ?_
  intro p e s m args below meth c s₁ Bd hml0 hP hK
  obtain ⟨rfl, hZ, hh⟩ := hP
  have hx := Bd.exec
  have hby := Bd.bytes
  have hml : c.maxLocals = 1 := hml0
  have hown : s.vm.findClass "com/example/tight_reach/tightreach/StepPartsHalvingsPinLaw" = some m.cls := findClass_of_methodNamed Bd.named
  have hnm := (name_of_methodNamed Bd.named Bd.method).1
  have X0 : Stand p l e ({ frames := 0, cells := 0, slots := 0, locals := 0 } : Room) s m #[(.int k)] below meth c s₁ [] 0 0 := Stand.of_body Bd
  have e0 : s₁.heap = h0 := by rw [← hh, Bd.state]; rfl
  have N0 := Fr.nil n0
  have c0 : Steps p.tables e below (s₁.setTop (entryFrame m #[(.int k)] 1)) (s₁.setTop (mkF m 0 #[.val (.int k)] [])) := castTop (ef3 m k) (Steps.refl _)
  show ∃ s₂ o, Steps p.tables e below (s₁.setTop (entryFrame m #[(.int k)] 1)) s₂ ∧ _ ∧ _ ∧ _
  generalize s₁.setTop (entryFrame m #[(.int k)] 1) = S0 at c0 ⊢
  have c1 : Steps p.tables e below S0 (s₁.setTop (mkF m 4 #[.val (.int k)] [(.double (FP.l2d ((1 : Int64) <<< (k &&& 0x3f).toInt64)))])) := by
    refine c0.trans ?_
    show Steps p.tables e below (s₁.setTop (mkF m 0 #[.val (.int k)] [])) _
    refine XS.lconst X0.here hx rfl (hb hby d3_0) ?_
    show Steps p.tables e below (s₁.setTop (mkF m 1 #[.val (.int k)] [(.long (1 : Int64))])) _
    refine XS.iloadN X0.here hx rfl (hb hby d3_1) rfl ?_
    show Steps p.tables e below (s₁.setTop (mkF m 2 #[.val (.int k)] [(.int k), (.long (1 : Int64))])) _
    refine XS.lshl X0.here hx rfl (hb hby d3_2) rfl ?_
    show Steps p.tables e below (s₁.setTop (mkF m 3 #[.val (.int k)] [(.long ((1 : Int64) <<< (k &&& 0x3f).toInt64))])) _
    refine XS.l2dS X0.here hx rfl (v := (FP.l2d ((1 : Int64) <<< (k &&& 0x3f).toInt64))) (hb hby d3_3) rfl rfl ?_
    exact Steps.refl _
  obtain ⟨fs, hr, hrun, hended, hW, hsame⟩ := X0.leave (v := some (.double (FP.l2d ((1 : Int64) <<< (k &&& 0x3f).toInt64)))) (fun h => by rw [Bd.returns] at h; cases h)
  refine ⟨_, _, c1.trans ?_, hrun, hended, _, _, rfl, ?_, ⟨_, rfl⟩, hW, hsame.mono (by decide) (by decide)⟩
  · show Steps p.tables e below (s₁.setTop (mkF m 4 #[.val (.int k)] [(.double (FP.l2d ((1 : Int64) <<< (k &&& 0x3f).toInt64)))])) _
    exact retD X0 hx Bd.returns (hb hby d3_4) hr
  · show Q3 Z k n h0 n0 _ s₁.heap _
    rw [e0]
    exact ⟨⟨_, rfl, own_pow2 k n hk hn⟩, N0, rfl⟩
def Q37 (Z : State) (x : UInt64) (y : UInt64) (M : Int) (N : Int) (E : Nat) (h0 : Heap) (n0 : Nat) (v : Option Value) (h : Heap) (L : List Loc) : Prop := (∃ z : Nat, z ≤ 10 ∧ v = some (.int (Int32.ofNat z)) ∧ (z = 10 ∨ ¬ (N * ((2 ^ 1074 : Nat) : Int) < M * ((2 ^ (E - z) : Nat) : Int))) ∧ (z = 0 ∨ (N * ((2 ^ 1074 : Nat) : Int) < M * ((2 ^ (E - (z - 1)) : Nat) : Int)))) ∧ Fr n0 L ∧ h = h0
theorem ef37 (m : MethodId) (x : UInt64) (y : UInt64) : entryFrame m #[(.double x), (.double y)] 7 = mkF m 0 #[.val (.double x), .second, .val (.double y), .second, .unset, .unset, .unset] [] := by first | (simp [entryFrame, mkF, argsToLocals, Value.category, List.replicate]; done) | rfl
set_option maxRecDepth 65536 in
set_option maxHeartbeats 40000000 in
theorem rm37 (l : Launch) (Z : State) (a0 : Array Value) (hw : ∀ d ∈ tables_1, d.before a0 Z = true) (ws : List Jvm.Cond) (x : UInt64) (y : UInt64) (M : Int) (N : Int) (E : Nat) (h0 : Heap) (n0 : Nat) (Z0 : n0 ≤ h0.size) (hxv : DV x M E) (hyv : DV y N 1074) (hM : M.natAbs < 2 ^ 53) (hE : 1074 ≤ E) (hE2 : E ≤ 2000) :
    MetFree l (⟨"com/example/tight_reach/tightreach/StepParts", "halvings", "(DD)I"⟩ : MethodName) (head1 (Jvm.Cond.code (⟨"com/example/tight_reach/tightreach/StepParts", "halvings", "(DD)I"⟩ : MethodName) prog_37_method_2_code 7 (some .int) :: ws) ({ frames := 0, cells := 0, slots := 0, locals := 0 } : Room)) (fun a U => a = #[(.double x), (.double y)] ∧ Z.Warmed39 U.vm ∧ U.heap = h0) (fun _ _ _ _ _ => True) (fun _ U o U' => ∃ v L, o = .returned v ∧ Q37 Z x y M N E h0 n0 v U'.heap L ∧ FrameEnd U o U' L ({ frames := 0, cells := 0, slots := 0, locals := 0 } : Room).cells ({ frames := 0, cells := 0, slots := 0, locals := 0 } : Room).slots) := by
  refine MetFree.of_bodySF (plainFor_of_name pn1) hisR ?_
  intro p e s m args below meth c s₁ Bd hml0 hP hK
  obtain ⟨rfl, hZ, hh⟩ := hP
  have hx := Bd.exec
  have hby := Bd.bytes
  have hml : c.maxLocals = 7 := hml0
  have hown : s.vm.findClass "com/example/tight_reach/tightreach/StepParts" = some m.cls := findClass_of_methodNamed Bd.named
  have hnm := (name_of_methodNamed Bd.named Bd.method).1
  have X0 : Stand p l e ({ frames := 0, cells := 0, slots := 0, locals := 0 } : Room) s m #[(.double x), (.double y)] below meth c s₁ [] 0 0 := Stand.of_body Bd
  have e0 : s₁.heap = h0 := by rw [← hh, Bd.state]; rfl
  have N0 := Fr.nil n0
  have c0 : Steps p.tables e below (s₁.setTop (entryFrame m #[(.double x), (.double y)] 7)) (s₁.setTop (mkF m 0 #[.val (.double x), .second, .val (.double y), .second, .unset, .unset, .unset] [])) := castTop (ef37 m x y) (Steps.refl _)
  show ∃ s₂ o, Steps p.tables e below (s₁.setTop (entryFrame m #[(.double x), (.double y)] 7)) s₂ ∧ _ ∧ _ ∧ _
  generalize s₁.setTop (entryFrame m #[(.double x), (.double y)] 7) = S0 at c0 ⊢
  have c1 : Steps p.tables e below S0 (s₁.setTop (mkF m 6 #[.val (.double x), .second, .val (.double y), .second, .val (.int (0 : Int32)), .val (.double x), .second] [])) := by
    refine c0.trans ?_
    show Steps p.tables e below (s₁.setTop (mkF m 0 #[.val (.double x), .second, .val (.double y), .second, .unset, .unset, .unset] [])) _
    refine XS.iconst X0.here hx rfl (hb hby d37_0) ?_
    show Steps p.tables e below (s₁.setTop (mkF m 1 #[.val (.double x), .second, .val (.double y), .second, .unset, .unset, .unset] [(.int (0 : Int32))])) _
    refine XS.istore X0.here hx rfl (hb hby d37_1) rfl (l' := #[.val (.double x), .second, .val (.double y), .second, .val (.int (0 : Int32)), .unset, .unset]) rfl ?_
    show Steps p.tables e below (s₁.setTop (mkF m 3 #[.val (.double x), .second, .val (.double y), .second, .val (.int (0 : Int32)), .unset, .unset] [])) _
    refine XS.dloadN X0.here hx rfl (hb hby d37_3) rfl ?_
    show Steps p.tables e below (s₁.setTop (mkF m 4 #[.val (.double x), .second, .val (.double y), .second, .val (.int (0 : Int32)), .unset, .unset] [(.double x)])) _
    refine XS.dstore X0.here hx rfl (hb hby d37_4) rfl (l' := #[.val (.double x), .second, .val (.double y), .second, .val (.int (0 : Int32)), .val (.double x), .second]) rfl ?_
    exact Steps.refl _
  have loop : ∀ (n j : Nat) (q : UInt64), j + n = 10 → DV q M (E - j) → (j = 0 ∨ (N * ((2 ^ 1074 : Nat) : Int) < M * ((2 ^ (E - (j - 1)) : Nat) : Int))) → ∃ (z : Nat) (q' : UInt64), z ≤ 10 ∧ (z = 10 ∨ ¬ (N * ((2 ^ 1074 : Nat) : Int) < M * ((2 ^ (E - z) : Nat) : Int))) ∧ (z = 0 ∨ (N * ((2 ^ 1074 : Nat) : Int) < M * ((2 ^ (E - (z - 1)) : Nat) : Int))) ∧ Steps p.tables e below (s₁.setTop (mkF m 6 #[.val (.double x), .second, .val (.double y), .second, .val (.int (Int32.ofNat j)), .val (.double q), .second] [])) (s₁.setTop (mkF m 34 #[.val (.double x), .second, .val (.double y), .second, .val (.int (Int32.ofNat z)), .val (.double q'), .second] [])) := by
    intro n
    induction n with
    | zero =>
      intro j q hj hq hG
      obtain rfl : j = 10 := by omega
      by_cases hg : (N * ((2 ^ 1074 : Nat) : Int) < M * ((2 ^ (E - 10) : Nat) : Int))
      · have c2 : Steps p.tables e below (s₁.setTop (mkF m 6 #[.val (.double x), .second, .val (.double y), .second, .val (.int (Int32.ofNat 10)), .val (.double q), .second] [])) (s₁.setTop (mkF m 34 #[.val (.double x), .second, .val (.double y), .second, .val (.int (Int32.ofNat 10)), .val (.double q), .second] [])) := by
          refine (Steps.refl _).trans ?_
          show Steps p.tables e below (s₁.setTop (mkF m 6 #[.val (.double x), .second, .val (.double y), .second, .val (.int (Int32.ofNat 10)), .val (.double q), .second] [])) _
          refine XS.dload X0.here hx rfl (hb hby d37_6) rfl ?_
          show Steps p.tables e below (s₁.setTop (mkF m 8 #[.val (.double x), .second, .val (.double y), .second, .val (.int (Int32.ofNat 10)), .val (.double q), .second] [(.double q)])) _
          refine XS.dloadN X0.here hx rfl (hb hby d37_8) rfl ?_
          show Steps p.tables e below (s₁.setTop (mkF m 9 #[.val (.double x), .second, .val (.double y), .second, .val (.int (Int32.ofNat 10)), .val (.double q), .second] [(.double y), (.double q)])) _
          refine XS.dcmpS X0.here hx rfl (v := (1 : Int32)) (hb hby d37_9) rfl (cmp_gt hq hyv _ hg) ?_
          show Steps p.tables e below (s₁.setTop (mkF m 10 #[.val (.double x), .second, .val (.double y), .second, .val (.int (Int32.ofNat 10)), .val (.double q), .second] [(.int (1 : Int32))])) _
          refine XS.ifNo X0.here hx rfl (hb hby d37_10) rfl ((if0 _ _).trans (tlt (by decide)).2.2.2) ?_
          show Steps p.tables e below (s₁.setTop (mkF m 13 #[.val (.double x), .second, .val (.double y), .second, .val (.int (Int32.ofNat 10)), .val (.double q), .second] [])) _
          refine XS.iload X0.here hx rfl (hb hby d37_13) rfl ?_
          show Steps p.tables e below (s₁.setTop (mkF m 15 #[.val (.double x), .second, .val (.double y), .second, .val (.int (Int32.ofNat 10)), .val (.double q), .second] [(.int (Int32.ofNat 10))])) _
          refine XS.bipush X0.here hx rfl (hb hby d37_15) ?_
          show Steps p.tables e below (s₁.setTop (mkF m 17 #[.val (.double x), .second, .val (.double y), .second, .val (.int (Int32.ofNat 10)), .val (.double q), .second] [(.int (10 : Int32)), (.int (Int32.ofNat 10))])) _
          refine XS.icmpYes X0.here hx rfl (pc0 := 17) (pc' := 34) rfl (hb hby d37_17) rfl (flt (by decide)).2.1 (by decide) (by decide) ?_
          exact Steps.refl _
        exact ⟨10, q, by omega, Or.inl rfl, hG, c2⟩
      · have c3 : Steps p.tables e below (s₁.setTop (mkF m 6 #[.val (.double x), .second, .val (.double y), .second, .val (.int (Int32.ofNat 10)), .val (.double q), .second] [])) (s₁.setTop (mkF m 34 #[.val (.double x), .second, .val (.double y), .second, .val (.int (Int32.ofNat 10)), .val (.double q), .second] [])) := by
          refine (Steps.refl _).trans ?_
          show Steps p.tables e below (s₁.setTop (mkF m 6 #[.val (.double x), .second, .val (.double y), .second, .val (.int (Int32.ofNat 10)), .val (.double q), .second] [])) _
          refine XS.dload X0.here hx rfl (hb hby d37_6) rfl ?_
          show Steps p.tables e below (s₁.setTop (mkF m 8 #[.val (.double x), .second, .val (.double y), .second, .val (.int (Int32.ofNat 10)), .val (.double q), .second] [(.double q)])) _
          refine XS.dloadN X0.here hx rfl (hb hby d37_8) rfl ?_
          show Steps p.tables e below (s₁.setTop (mkF m 9 #[.val (.double x), .second, .val (.double y), .second, .val (.int (Int32.ofNat 10)), .val (.double q), .second] [(.double y), (.double q)])) _
          refine XS.dcmpS X0.here hx rfl (v := (cmpValue (FP.dcmp q y) .l)) (hb hby d37_9) rfl rfl ?_
          show Steps p.tables e below (s₁.setTop (mkF m 10 #[.val (.double x), .second, .val (.double y), .second, .val (.int (Int32.ofNat 10)), .val (.double q), .second] [(.int (cmpValue (FP.dcmp q y) .l))])) _
          refine XS.ifYes X0.here hx rfl (pc0 := 10) (pc' := 34) rfl (hb hby d37_10) rfl ((if0 _ _).trans (flt (cmp_ngt hq hyv _ hg)).2.2.2) (by decide) (by decide) ?_
          exact Steps.refl _
        exact ⟨10, q, by omega, Or.inl rfl, hG, c3⟩
    | succ n ih =>
      intro j q hj hq hG
      by_cases hg : (N * ((2 ^ 1074 : Nat) : Int) < M * ((2 ^ (E - j) : Nat) : Int))
      · have hd : DV (FP.ddiv q 4611686018427387904) M (E - (j + 1)) := ddiv_v 0 (E - (j + 1)) hq own_two (by omega) (by simpa using hM) (by omega) (by omega)
        have c4 : Steps p.tables e below (s₁.setTop (mkF m 6 #[.val (.double x), .second, .val (.double y), .second, .val (.int (Int32.ofNat j)), .val (.double q), .second] [])) (s₁.setTop (mkF m 6 #[.val (.double x), .second, .val (.double y), .second, .val (.int ((Int32.ofNat j) + (1 : Int32))), .val (.double (FP.ddiv q (4611686018427387904 : UInt64))), .second] [])) := by
          refine (Steps.refl _).trans ?_
          show Steps p.tables e below (s₁.setTop (mkF m 6 #[.val (.double x), .second, .val (.double y), .second, .val (.int (Int32.ofNat j)), .val (.double q), .second] [])) _
          refine XS.dload X0.here hx rfl (hb hby d37_6) rfl ?_
          show Steps p.tables e below (s₁.setTop (mkF m 8 #[.val (.double x), .second, .val (.double y), .second, .val (.int (Int32.ofNat j)), .val (.double q), .second] [(.double q)])) _
          refine XS.dloadN X0.here hx rfl (hb hby d37_8) rfl ?_
          show Steps p.tables e below (s₁.setTop (mkF m 9 #[.val (.double x), .second, .val (.double y), .second, .val (.int (Int32.ofNat j)), .val (.double q), .second] [(.double y), (.double q)])) _
          refine XS.dcmpS X0.here hx rfl (v := (1 : Int32)) (hb hby d37_9) rfl (cmp_gt hq hyv _ hg) ?_
          show Steps p.tables e below (s₁.setTop (mkF m 10 #[.val (.double x), .second, .val (.double y), .second, .val (.int (Int32.ofNat j)), .val (.double q), .second] [(.int (1 : Int32))])) _
          refine XS.ifNo X0.here hx rfl (hb hby d37_10) rfl ((if0 _ _).trans (tlt (by decide)).2.2.2) ?_
          show Steps p.tables e below (s₁.setTop (mkF m 13 #[.val (.double x), .second, .val (.double y), .second, .val (.int (Int32.ofNat j)), .val (.double q), .second] [])) _
          refine XS.iload X0.here hx rfl (hb hby d37_13) rfl ?_
          show Steps p.tables e below (s₁.setTop (mkF m 15 #[.val (.double x), .second, .val (.double y), .second, .val (.int (Int32.ofNat j)), .val (.double q), .second] [(.int (Int32.ofNat j))])) _
          refine XS.bipush X0.here hx rfl (hb hby d37_15) ?_
          show Steps p.tables e below (s₁.setTop (mkF m 17 #[.val (.double x), .second, .val (.double y), .second, .val (.int (Int32.ofNat j)), .val (.double q), .second] [(.int (10 : Int32)), (.int (Int32.ofNat j))])) _
          refine XS.icmpNo X0.here hx rfl (hb hby d37_17) rfl (tlt (own_lt10 (by omega))).2.1 ?_
          show Steps p.tables e below (s₁.setTop (mkF m 20 #[.val (.double x), .second, .val (.double y), .second, .val (.int (Int32.ofNat j)), .val (.double q), .second] [])) _
          refine XS.iinc X0.here hx rfl (hb hby d37_20) rfl (l' := #[.val (.double x), .second, .val (.double y), .second, .val (.int ((Int32.ofNat j) + (1 : Int32))), .val (.double q), .second]) rfl ?_
          show Steps p.tables e below (s₁.setTop (mkF m 23 #[.val (.double x), .second, .val (.double y), .second, .val (.int ((Int32.ofNat j) + (1 : Int32))), .val (.double q), .second] [])) _
          refine XS.dload X0.here hx rfl (hb hby d37_23) rfl ?_
          show Steps p.tables e below (s₁.setTop (mkF m 25 #[.val (.double x), .second, .val (.double y), .second, .val (.int ((Int32.ofNat j) + (1 : Int32))), .val (.double q), .second] [(.double q)])) _
          refine X0.ldc2DoubleC hx hown (mvT hZ (hw _ (List.mem_of_getElem? (i := 8) rfl))) (g := (mkF m 25 #[.val (.double x), .second, .val (.double y), .second, .val (.int ((Int32.ofNat j) + (1 : Int32))), .val (.double q), .second] [(.double q)])) rfl (hb hby d37_25) _ ?_
          show Steps p.tables e below (s₁.setTop (mkF m 28 #[.val (.double x), .second, .val (.double y), .second, .val (.int ((Int32.ofNat j) + (1 : Int32))), .val (.double q), .second] [(.double (4611686018427387904 : UInt64)), (.double q)])) _
          refine XS.ddivS X0.here hx rfl (v := (FP.ddiv q (4611686018427387904 : UInt64))) (hb hby d37_28) rfl hd.noNaN rfl ?_
          show Steps p.tables e below (s₁.setTop (mkF m 29 #[.val (.double x), .second, .val (.double y), .second, .val (.int ((Int32.ofNat j) + (1 : Int32))), .val (.double q), .second] [(.double (FP.ddiv q (4611686018427387904 : UInt64)))])) _
          refine XS.dstore X0.here hx rfl (hb hby d37_29) rfl (l' := #[.val (.double x), .second, .val (.double y), .second, .val (.int ((Int32.ofNat j) + (1 : Int32))), .val (.double (FP.ddiv q (4611686018427387904 : UInt64))), .second]) rfl ?_
          show Steps p.tables e below (s₁.setTop (mkF m 31 #[.val (.double x), .second, .val (.double y), .second, .val (.int ((Int32.ofNat j) + (1 : Int32))), .val (.double (FP.ddiv q (4611686018427387904 : UInt64))), .second] [])) _
          refine XS.goto X0.here hx rfl (pc0 := 31) (pc' := 6) rfl (hb hby d37_31) (by decide) (by decide) ?_
          exact Steps.refl _
        rw [own_inc (by omega)] at c4
        obtain ⟨z, q', h1, h2, h3, h4⟩ := ih (j + 1) _ (by omega) hd (Or.inr hg)
        exact ⟨z, q', h1, h2, h3, c4.trans h4⟩
      · have c5 : Steps p.tables e below (s₁.setTop (mkF m 6 #[.val (.double x), .second, .val (.double y), .second, .val (.int (Int32.ofNat j)), .val (.double q), .second] [])) (s₁.setTop (mkF m 34 #[.val (.double x), .second, .val (.double y), .second, .val (.int (Int32.ofNat j)), .val (.double q), .second] [])) := by
          refine (Steps.refl _).trans ?_
          show Steps p.tables e below (s₁.setTop (mkF m 6 #[.val (.double x), .second, .val (.double y), .second, .val (.int (Int32.ofNat j)), .val (.double q), .second] [])) _
          refine XS.dload X0.here hx rfl (hb hby d37_6) rfl ?_
          show Steps p.tables e below (s₁.setTop (mkF m 8 #[.val (.double x), .second, .val (.double y), .second, .val (.int (Int32.ofNat j)), .val (.double q), .second] [(.double q)])) _
          refine XS.dloadN X0.here hx rfl (hb hby d37_8) rfl ?_
          show Steps p.tables e below (s₁.setTop (mkF m 9 #[.val (.double x), .second, .val (.double y), .second, .val (.int (Int32.ofNat j)), .val (.double q), .second] [(.double y), (.double q)])) _
          refine XS.dcmpS X0.here hx rfl (v := (cmpValue (FP.dcmp q y) .l)) (hb hby d37_9) rfl rfl ?_
          show Steps p.tables e below (s₁.setTop (mkF m 10 #[.val (.double x), .second, .val (.double y), .second, .val (.int (Int32.ofNat j)), .val (.double q), .second] [(.int (cmpValue (FP.dcmp q y) .l))])) _
          refine XS.ifYes X0.here hx rfl (pc0 := 10) (pc' := 34) rfl (hb hby d37_10) rfl ((if0 _ _).trans (flt (cmp_ngt hq hyv _ hg)).2.2.2) (by decide) (by decide) ?_
          exact Steps.refl _
        exact ⟨j, q, by omega, Or.inr hg, hG, c5⟩
  obtain ⟨z, q', hz10, hz1, hz2, hst⟩ := loop 10 0 x (by omega) hxv (Or.inl rfl)
  have c6 : Steps p.tables e below S0 (s₁.setTop (mkF m 34 #[.val (.double x), .second, .val (.double y), .second, .val (.int (Int32.ofNat z)), .val (.double q'), .second] [])) := c1.trans hst
  have c7 : Steps p.tables e below S0 (s₁.setTop (mkF m 36 #[.val (.double x), .second, .val (.double y), .second, .val (.int (Int32.ofNat z)), .val (.double q'), .second] [(.int (Int32.ofNat z))])) := by
    refine c6.trans ?_
    show Steps p.tables e below (s₁.setTop (mkF m 34 #[.val (.double x), .second, .val (.double y), .second, .val (.int (Int32.ofNat z)), .val (.double q'), .second] [])) _
    refine XS.iload X0.here hx rfl (hb hby d37_34) rfl ?_
    exact Steps.refl _
  obtain ⟨fs, hr, hrun, hended, hW, hsame⟩ := X0.leave (v := some (.int (Int32.ofNat z))) (fun h => by rw [Bd.returns] at h; cases h)
  refine ⟨_, _, c7.trans ?_, hrun, hended, _, _, rfl, ?_, ⟨_, rfl⟩, hW, hsame.mono (by decide) (by decide)⟩
  · show Steps p.tables e below (s₁.setTop (mkF m 36 #[.val (.double x), .second, .val (.double y), .second, .val (.int (Int32.ofNat z)), .val (.double q'), .second] [(.int (Int32.ofNat z))])) _
    exact retI X0 hx Bd.returns (hb hby d37_36) hr
  · show Q37 Z x y M N E h0 n0 _ s₁.heap _
    rw [e0]
    exact ⟨⟨z, hz10, rfl, hz1, hz2⟩, N0, rfl⟩
def Q0 (Z : State) (i0 : Int32) (i1 : Int32) (i2 : Int32) (h0 : Heap) (n0 : Nat) (v : Option Value) (h : Heap) (L : List Loc) : Prop := v = some (.int 1) ∧ Fr n0 L
theorem ef0 (m : MethodId) (i0 : Int32) (i1 : Int32) (i2 : Int32) : entryFrame m #[(.int i0), (.int i1), (.int i2)] maxLocals = mkF m 0 #[.val (.int i0), .val (.int i1), .val (.int i2), .unset, .unset, .unset, .unset, .unset, .unset, .unset] [] := by first | (simp [entryFrame, mkF, argsToLocals, Value.category, maxLocals]; done) | rfl
set_option maxRecDepth 65536 in
set_option maxHeartbeats 40000000 in
theorem rm0 (l : Launch) (Z : State) (a0 : Array Value) (hw : ∀ d ∈ tables_1, d.before a0 Z = true) (ws : List Jvm.Cond) (i0 : Int32) (i1 : Int32) (i2 : Int32) (h0 : Heap) (n0 : Nat) (Z0 : n0 ≤ h0.size)  :
    MetFree l x (head1 (Jvm.Cond.code x code maxLocals ret :: ws) room_1) (fun a U => a = #[(.int i0), (.int i1), (.int i2)] ∧ Z.Warmed39 U.vm ∧ U.heap = h0) (fun _ _ _ _ _ => True) (fun _ U o U' => ∃ v L, o = .returned v ∧ Q0 Z i0 i1 i2 h0 n0 v U'.heap L ∧ FrameEnd U o U' L 0 0) := by
  refine MetFree.of_bodySF (plainFor_of_name pn0) hisR ?_
  intro p e s m args below meth c s₁ Bd hml0 hP hK
  obtain ⟨rfl, hZ, hh⟩ := hP
  have hx := Bd.exec
  have hby := Bd.bytes
  have hml : c.maxLocals = 10 := hml0
  have hown : s.vm.findClass "com/example/tight_reach/tightreach/StepPartsHalvingsPinLaw" = some m.cls := findClass_of_methodNamed Bd.named
  have hnm := (name_of_methodNamed Bd.named Bd.method).1
  have X0 : Stand p l e room_1 s m #[(.int i0), (.int i1), (.int i2)] below meth c s₁ [] 0 0 := Stand.of_body Bd
  have e0 : s₁.heap = h0 := by rw [← hh, Bd.state]; rfl
  have N0 := Fr.nil n0
  have c0 : Steps p.tables e below (s₁.setTop (entryFrame m #[(.int i0), (.int i1), (.int i2)] maxLocals)) (s₁.setTop (mkF m 0 #[.val (.int i0), .val (.int i1), .val (.int i2), .unset, .unset, .unset, .unset, .unset, .unset, .unset] [])) := castTop (ef0 m i0 i1 i2) (Steps.refl _)
  show ∃ s₂ o, Steps p.tables e below (s₁.setTop (entryFrame m #[(.int i0), (.int i1), (.int i2)] maxLocals)) s₂ ∧ _ ∧ _ ∧ _
  generalize s₁.setTop (entryFrame m #[(.int i0), (.int i1), (.int i2)] maxLocals) = S0 at c0 ⊢
  have c1 : Steps p.tables e below S0 (s₁.setTop (mkF m 6 #[.val (.int i0), .val (.int i1), .val (.int i2), .unset, .unset, .unset, .unset, .unset, .unset, .unset] [(.int (i2 &&& (31 : Int32))), (.double (FP.i2d i0))])) := by
    refine c0.trans ?_
    show Steps p.tables e below (s₁.setTop (mkF m 0 #[.val (.int i0), .val (.int i1), .val (.int i2), .unset, .unset, .unset, .unset, .unset, .unset, .unset] [])) _
    refine XS.iloadN X0.here hx rfl (hb hby at_0) rfl ?_
    show Steps p.tables e below (s₁.setTop (mkF m 1 #[.val (.int i0), .val (.int i1), .val (.int i2), .unset, .unset, .unset, .unset, .unset, .unset, .unset] [(.int i0)])) _
    refine XS.i2dS X0.here hx rfl (v := (FP.i2d i0)) (hb hby at_1) rfl rfl ?_
    show Steps p.tables e below (s₁.setTop (mkF m 2 #[.val (.int i0), .val (.int i1), .val (.int i2), .unset, .unset, .unset, .unset, .unset, .unset, .unset] [(.double (FP.i2d i0))])) _
    refine XS.iloadN X0.here hx rfl (hb hby at_2) rfl ?_
    show Steps p.tables e below (s₁.setTop (mkF m 3 #[.val (.int i0), .val (.int i1), .val (.int i2), .unset, .unset, .unset, .unset, .unset, .unset, .unset] [(.int i2), (.double (FP.i2d i0))])) _
    refine XS.bipush X0.here hx rfl (hb hby at_3) ?_
    show Steps p.tables e below (s₁.setTop (mkF m 5 #[.val (.int i0), .val (.int i1), .val (.int i2), .unset, .unset, .unset, .unset, .unset, .unset, .unset] [(.int (31 : Int32)), (.int i2), (.double (FP.i2d i0))])) _
    refine XS.iand X0.here hx rfl (hb hby at_5) rfl ?_
    exact Steps.refl _
  obtain ⟨K, hK, hK32⟩ := own_and31 i2
  obtain ⟨_, _, ⟨T2, L2, k2, n2⟩, -, X2, ⟨Lc2, hQ2, l2, y2, z2⟩, st2⟩ := Jvm.LawKit.callS X0 hx (y := (⟨"com/example/tight_reach/tightreach/StepPartsHalvingsPinLaw", "pow2", "(I)D"⟩ : MethodName)) hown (mvT hZ (hw _ (List.mem_of_getElem? (i := 0) rfl))) (mvT hZ (hw _ (List.mem_of_getElem? (i := 1) rfl))) (mvT hZ (hw _ (List.mem_of_getElem? (i := 2) rfl))) (mvT hZ (hw _ (List.mem_of_getElem? (i := 3) rfl))) (by decide) (backOf (W := 2) (rm3 l Z a0 hw [] (i2 &&& (31 : Int32)) K h0 n0 Z0 hK hK32) hZ (hw _ (List.mem_of_getElem? (i := 3) rfl)) (hw _ (List.mem_of_getElem? (i := 2) rfl)) (by decide) (by decide)) (g := (mkF m 6 #[.val (.int i0), .val (.int i1), .val (.int i2), .unset, .unset, .unset, .unset, .unset, .unset, .unset] [(.int (i2 &&& (31 : Int32))), (.double (FP.i2d i0))])) rfl (by rw [hml]; rfl) (argsL := [(.int (i2 &&& (31 : Int32)))]) (rest := [(.double (FP.i2d i0))]) (lenOf pd0 rfl) rfl (by show 2 * 0 + _ ≤ _; exact Nat.le_of_eq rfl) (hb hby at_6) (fun _ _ => ⟨rfl, e0, (by decide : 0 + 0 ≤ _), (by decide : 0 + 0 ≤ _)⟩)
  dsimp only [Pt.U, Pt.locs, Pt.cells, Pt.slots] at X2 l2 y2 z2 st2 hQ2
  subst l2 y2 z2
  obtain ⟨⟨d1, rfl, hd1⟩, N1, e1⟩ := hQ2
  have c2 : Steps p.tables e below S0 (T2.setTop (mkF m 9 #[.val (.int i0), .val (.int i1), .val (.int i2), .unset, .unset, .unset, .unset, .unset, .unset, .unset] [(.double d1), (.double (FP.i2d i0))])) := by
    refine c1.trans ?_
    show Steps p.tables e below (s₁.setTop (mkF m 6 #[.val (.int i0), .val (.int i1), .val (.int i2), .unset, .unset, .unset, .unset, .unset, .unset, .unset] [(.int (i2 &&& (31 : Int32))), (.double (FP.i2d i0))])) _
    refine st2 _ ?_
    exact Steps.refl _
  have hM : (i0.toInt).natAbs ≤ 2 ^ 31 := int32_abs i0
  have hnv : DV (FP.dmul (FP.i2d i0) d1) i0.toInt (1074 + K) := by
    have := dmul_v 0 (1074 + K) (i2d_v i0) hd1 (by omega) (by rw [Int.mul_one]; omega) (by omega) (by omega)
    rwa [Int.mul_one] at this
  have hyv : DV (FP.i2d i1) i1.toInt 1074 := i2d_v i1
  have c3 : Steps p.tables e below S0 (T2.setTop (mkF m 18 #[.val (.int i0), .val (.int i1), .val (.int i2), .val (.double (FP.dmul (FP.i2d i0) d1)), .second, .val (.double (FP.i2d i1)), .second, .unset, .unset, .unset] [(.double (FP.i2d i1)), (.double (FP.dmul (FP.i2d i0) d1))])) := by
    refine c2.trans ?_
    show Steps p.tables e below (T2.setTop (mkF m 9 #[.val (.int i0), .val (.int i1), .val (.int i2), .unset, .unset, .unset, .unset, .unset, .unset, .unset] [(.double d1), (.double (FP.i2d i0))])) _
    refine XS.dmulS X2.here hx rfl (v := (FP.dmul (FP.i2d i0) d1)) (hb hby at_9) rfl hnv.noNaN rfl ?_
    show Steps p.tables e below (T2.setTop (mkF m 10 #[.val (.int i0), .val (.int i1), .val (.int i2), .unset, .unset, .unset, .unset, .unset, .unset, .unset] [(.double (FP.dmul (FP.i2d i0) d1))])) _
    refine XS.dstoreN X2.here hx rfl (hb hby at_10) rfl (l' := #[.val (.int i0), .val (.int i1), .val (.int i2), .val (.double (FP.dmul (FP.i2d i0) d1)), .second, .unset, .unset, .unset, .unset, .unset]) rfl ?_
    show Steps p.tables e below (T2.setTop (mkF m 11 #[.val (.int i0), .val (.int i1), .val (.int i2), .val (.double (FP.dmul (FP.i2d i0) d1)), .second, .unset, .unset, .unset, .unset, .unset] [])) _
    refine XS.iloadN X2.here hx rfl (hb hby at_11) rfl ?_
    show Steps p.tables e below (T2.setTop (mkF m 12 #[.val (.int i0), .val (.int i1), .val (.int i2), .val (.double (FP.dmul (FP.i2d i0) d1)), .second, .unset, .unset, .unset, .unset, .unset] [(.int i1)])) _
    refine XS.i2dS X2.here hx rfl (v := (FP.i2d i1)) (hb hby at_12) rfl rfl ?_
    show Steps p.tables e below (T2.setTop (mkF m 13 #[.val (.int i0), .val (.int i1), .val (.int i2), .val (.double (FP.dmul (FP.i2d i0) d1)), .second, .unset, .unset, .unset, .unset, .unset] [(.double (FP.i2d i1))])) _
    refine XS.dstore X2.here hx rfl (hb hby at_13) rfl (l' := #[.val (.int i0), .val (.int i1), .val (.int i2), .val (.double (FP.dmul (FP.i2d i0) d1)), .second, .val (.double (FP.i2d i1)), .second, .unset, .unset, .unset]) rfl ?_
    show Steps p.tables e below (T2.setTop (mkF m 15 #[.val (.int i0), .val (.int i1), .val (.int i2), .val (.double (FP.dmul (FP.i2d i0) d1)), .second, .val (.double (FP.i2d i1)), .second, .unset, .unset, .unset] [])) _
    refine XS.dloadN X2.here hx rfl (hb hby at_15) rfl ?_
    show Steps p.tables e below (T2.setTop (mkF m 16 #[.val (.int i0), .val (.int i1), .val (.int i2), .val (.double (FP.dmul (FP.i2d i0) d1)), .second, .val (.double (FP.i2d i1)), .second, .unset, .unset, .unset] [(.double (FP.dmul (FP.i2d i0) d1))])) _
    refine XS.dload X2.here hx rfl (hb hby at_16) rfl ?_
    exact Steps.refl _
  obtain ⟨_, _, ⟨T4, L4, k4, n4⟩, -, X4, ⟨Lc4, hQ4, l4, y4, z4⟩, st4⟩ := Jvm.LawKit.callS X2 hx (y := (⟨"com/example/tight_reach/tightreach/StepParts", "halvings", "(DD)I"⟩ : MethodName)) hown (mvT hZ (hw _ (List.mem_of_getElem? (i := 4) rfl))) (mvT hZ (hw _ (List.mem_of_getElem? (i := 5) rfl))) (mvT hZ (hw _ (List.mem_of_getElem? (i := 6) rfl))) (mvT hZ (hw _ (List.mem_of_getElem? (i := 7) rfl))) (by decide) (backOf (W := 0) (rm37 l Z a0 hw [] (FP.dmul (FP.i2d i0) d1) (FP.i2d i1) i0.toInt i1.toInt (1074 + K) h0 n0 Z0 hnv hyv (by omega) (by omega) (by omega)) hZ (hw _ (List.mem_of_getElem? (i := 7) rfl)) (hw _ (List.mem_of_getElem? (i := 6) rfl)) (by decide) (by decide)) (g := (mkF m 18 #[.val (.int i0), .val (.int i1), .val (.int i2), .val (.double (FP.dmul (FP.i2d i0) d1)), .second, .val (.double (FP.i2d i1)), .second, .unset, .unset, .unset] [(.double (FP.i2d i1)), (.double (FP.dmul (FP.i2d i0) d1))])) rfl (by rw [hml]; rfl) (argsL := [(.double (FP.dmul (FP.i2d i0) d1)), (.double (FP.i2d i1))]) (rest := []) (lenOf pd1 rfl) rfl (by show 2 * 0 + _ ≤ _; exact Nat.le_of_eq rfl) (hb hby at_18) (fun _ _ => ⟨rfl, e1, (by decide : 0 + 0 ≤ _), (by decide : 0 + 0 ≤ _)⟩)
  dsimp only [Pt.U, Pt.locs, Pt.cells, Pt.slots] at X4 l4 y4 z4 st4 hQ4
  subst l4 y4 z4
  obtain ⟨⟨z, hz10, rfl, hz1, hz2⟩, N2, e2⟩ := hQ4
  have c4 : Steps p.tables e below S0 (T4.setTop (mkF m 21 #[.val (.int i0), .val (.int i1), .val (.int i2), .val (.double (FP.dmul (FP.i2d i0) d1)), .second, .val (.double (FP.i2d i1)), .second, .unset, .unset, .unset] [(.int (Int32.ofNat z))])) := by
    refine c3.trans ?_
    show Steps p.tables e below (T2.setTop (mkF m 18 #[.val (.int i0), .val (.int i1), .val (.int i2), .val (.double (FP.dmul (FP.i2d i0) d1)), .second, .val (.double (FP.i2d i1)), .second, .unset, .unset, .unset] [(.double (FP.i2d i1)), (.double (FP.dmul (FP.i2d i0) d1))])) _
    refine st4 _ ?_
    exact Steps.refl _
  have hE2 := e2
  have c5 : Steps p.tables e below S0 (T4.setTop (mkF m 37 #[.val (.int i0), .val (.int i1), .val (.int i2), .val (.double (FP.dmul (FP.i2d i0) d1)), .second, .val (.double (FP.i2d i1)), .second, .val (.int (Int32.ofNat z)), .unset, .unset] [])) := by
    refine c4.trans ?_
    show Steps p.tables e below (T4.setTop (mkF m 21 #[.val (.int i0), .val (.int i1), .val (.int i2), .val (.double (FP.dmul (FP.i2d i0) d1)), .second, .val (.double (FP.i2d i1)), .second, .unset, .unset, .unset] [(.int (Int32.ofNat z))])) _
    refine XS.istore X4.here hx rfl (hb hby at_21) rfl (l' := #[.val (.int i0), .val (.int i1), .val (.int i2), .val (.double (FP.dmul (FP.i2d i0) d1)), .second, .val (.double (FP.i2d i1)), .second, .val (.int (Int32.ofNat z)), .unset, .unset]) rfl ?_
    show Steps p.tables e below (T4.setTop (mkF m 23 #[.val (.int i0), .val (.int i1), .val (.int i2), .val (.double (FP.dmul (FP.i2d i0) d1)), .second, .val (.double (FP.i2d i1)), .second, .val (.int (Int32.ofNat z)), .unset, .unset] [])) _
    refine XS.iload X4.here hx rfl (hb hby at_23) rfl ?_
    show Steps p.tables e below (T4.setTop (mkF m 25 #[.val (.int i0), .val (.int i1), .val (.int i2), .val (.double (FP.dmul (FP.i2d i0) d1)), .second, .val (.double (FP.i2d i1)), .second, .val (.int (Int32.ofNat z)), .unset, .unset] [(.int (Int32.ofNat z))])) _
    refine XS.ifNo X4.here hx rfl (hb hby at_25) rfl ((if0 _ _).trans (flt (own_nn hz10)).1) ?_
    show Steps p.tables e below (T4.setTop (mkF m 28 #[.val (.int i0), .val (.int i1), .val (.int i2), .val (.double (FP.dmul (FP.i2d i0) d1)), .second, .val (.double (FP.i2d i1)), .second, .val (.int (Int32.ofNat z)), .unset, .unset] [])) _
    refine XS.iload X4.here hx rfl (hb hby at_28) rfl ?_
    show Steps p.tables e below (T4.setTop (mkF m 30 #[.val (.int i0), .val (.int i1), .val (.int i2), .val (.double (FP.dmul (FP.i2d i0) d1)), .second, .val (.double (FP.i2d i1)), .second, .val (.int (Int32.ofNat z)), .unset, .unset] [(.int (Int32.ofNat z))])) _
    refine XS.bipush X4.here hx rfl (hb hby at_30) ?_
    show Steps p.tables e below (T4.setTop (mkF m 32 #[.val (.int i0), .val (.int i1), .val (.int i2), .val (.double (FP.dmul (FP.i2d i0) d1)), .second, .val (.double (FP.i2d i1)), .second, .val (.int (Int32.ofNat z)), .unset, .unset] [(.int (10 : Int32)), (.int (Int32.ofNat z))])) _
    refine XS.icmpYes X4.here hx rfl (pc0 := 32) (pc' := 37) rfl (hb hby at_32) rfl (flt (own_n10 hz10)).2.2.2 (by decide) (by decide) ?_
    exact Steps.refl _
  have hz31 : z < 32 := by omega
  by_cases hz : z = 10
  · have hz0 : ¬ z = 0 := by omega
    have c6 : Steps p.tables e below S0 (T4.setTop (mkF m 69 #[.val (.int i0), .val (.int i1), .val (.int i2), .val (.double (FP.dmul (FP.i2d i0) d1)), .second, .val (.double (FP.i2d i1)), .second, .val (.int (Int32.ofNat z)), .val (.int (1 : Int32)), .unset] [])) := by
      refine c5.trans ?_
      show Steps p.tables e below (T4.setTop (mkF m 37 #[.val (.int i0), .val (.int i1), .val (.int i2), .val (.double (FP.dmul (FP.i2d i0) d1)), .second, .val (.double (FP.i2d i1)), .second, .val (.int (Int32.ofNat z)), .unset, .unset] [])) _
      refine XS.iload X4.here hx rfl (hb hby at_37) rfl ?_
      show Steps p.tables e below (T4.setTop (mkF m 39 #[.val (.int i0), .val (.int i1), .val (.int i2), .val (.double (FP.dmul (FP.i2d i0) d1)), .second, .val (.double (FP.i2d i1)), .second, .val (.int (Int32.ofNat z)), .unset, .unset] [(.int (Int32.ofNat z))])) _
      refine XS.bipush X4.here hx rfl (hb hby at_39) ?_
      show Steps p.tables e below (T4.setTop (mkF m 41 #[.val (.int i0), .val (.int i1), .val (.int i2), .val (.double (FP.dmul (FP.i2d i0) d1)), .second, .val (.double (FP.i2d i1)), .second, .val (.int (Int32.ofNat z)), .unset, .unset] [(.int (10 : Int32)), (.int (Int32.ofNat z))])) _
      refine XS.icmpYes X4.here hx rfl (pc0 := 41) (pc' := 57) rfl (hb hby at_41) rfl (teq ((own_eq10 hz10).mpr hz)).1 (by decide) (by decide) ?_
      show Steps p.tables e below (T4.setTop (mkF m 57 #[.val (.int i0), .val (.int i1), .val (.int i2), .val (.double (FP.dmul (FP.i2d i0) d1)), .second, .val (.double (FP.i2d i1)), .second, .val (.int (Int32.ofNat z)), .unset, .unset] [])) _
      refine XS.iconst X4.here hx rfl (hb hby at_57) ?_
      show Steps p.tables e below (T4.setTop (mkF m 58 #[.val (.int i0), .val (.int i1), .val (.int i2), .val (.double (FP.dmul (FP.i2d i0) d1)), .second, .val (.double (FP.i2d i1)), .second, .val (.int (Int32.ofNat z)), .unset, .unset] [(.int (1 : Int32))])) _
      refine XS.goto X4.here hx rfl (pc0 := 58) (pc' := 62) rfl (hb hby at_58) (by decide) (by decide) ?_
      show Steps p.tables e below (T4.setTop (mkF m 62 #[.val (.int i0), .val (.int i1), .val (.int i2), .val (.double (FP.dmul (FP.i2d i0) d1)), .second, .val (.double (FP.i2d i1)), .second, .val (.int (Int32.ofNat z)), .unset, .unset] [(.int (1 : Int32))])) _
      refine XS.istore X4.here hx rfl (hb hby at_62) rfl (l' := #[.val (.int i0), .val (.int i1), .val (.int i2), .val (.double (FP.dmul (FP.i2d i0) d1)), .second, .val (.double (FP.i2d i1)), .second, .val (.int (Int32.ofNat z)), .val (.int (1 : Int32)), .unset]) rfl ?_
      show Steps p.tables e below (T4.setTop (mkF m 64 #[.val (.int i0), .val (.int i1), .val (.int i2), .val (.double (FP.dmul (FP.i2d i0) d1)), .second, .val (.double (FP.i2d i1)), .second, .val (.int (Int32.ofNat z)), .val (.int (1 : Int32)), .unset] [])) _
      refine XS.iload X4.here hx rfl (hb hby at_64) rfl ?_
      show Steps p.tables e below (T4.setTop (mkF m 66 #[.val (.int i0), .val (.int i1), .val (.int i2), .val (.double (FP.dmul (FP.i2d i0) d1)), .second, .val (.double (FP.i2d i1)), .second, .val (.int (Int32.ofNat z)), .val (.int (1 : Int32)), .unset] [(.int (Int32.ofNat z))])) _
      refine XS.ifNo X4.here hx rfl (hb hby at_66) rfl ((if0 _ _).trans (feq (fun q => hz0 ((own_eq0 hz10).mp q))).1) ?_
      exact Steps.refl _
    have c7 : Steps p.tables e below S0 (T4.setTop (mkF m 76 #[.val (.int i0), .val (.int i1), .val (.int i2), .val (.double (FP.dmul (FP.i2d i0) d1)), .second, .val (.double (FP.i2d i1)), .second, .val (.int (Int32.ofNat z)), .val (.int (1 : Int32)), .unset] [(.int ((Int32.ofNat z) - (1 : Int32))), (.double (FP.dmul (FP.i2d i0) d1)), (.double (FP.i2d i1))])) := by
      refine c6.trans ?_
      show Steps p.tables e below (T4.setTop (mkF m 69 #[.val (.int i0), .val (.int i1), .val (.int i2), .val (.double (FP.dmul (FP.i2d i0) d1)), .second, .val (.double (FP.i2d i1)), .second, .val (.int (Int32.ofNat z)), .val (.int (1 : Int32)), .unset] [])) _
      refine XS.dload X4.here hx rfl (hb hby at_69) rfl ?_
      show Steps p.tables e below (T4.setTop (mkF m 71 #[.val (.int i0), .val (.int i1), .val (.int i2), .val (.double (FP.dmul (FP.i2d i0) d1)), .second, .val (.double (FP.i2d i1)), .second, .val (.int (Int32.ofNat z)), .val (.int (1 : Int32)), .unset] [(.double (FP.i2d i1))])) _
      refine XS.dloadN X4.here hx rfl (hb hby at_71) rfl ?_
      show Steps p.tables e below (T4.setTop (mkF m 72 #[.val (.int i0), .val (.int i1), .val (.int i2), .val (.double (FP.dmul (FP.i2d i0) d1)), .second, .val (.double (FP.i2d i1)), .second, .val (.int (Int32.ofNat z)), .val (.int (1 : Int32)), .unset] [(.double (FP.dmul (FP.i2d i0) d1)), (.double (FP.i2d i1))])) _
      refine XS.iload X4.here hx rfl (hb hby at_72) rfl ?_
      show Steps p.tables e below (T4.setTop (mkF m 74 #[.val (.int i0), .val (.int i1), .val (.int i2), .val (.double (FP.dmul (FP.i2d i0) d1)), .second, .val (.double (FP.i2d i1)), .second, .val (.int (Int32.ofNat z)), .val (.int (1 : Int32)), .unset] [(.int (Int32.ofNat z)), (.double (FP.dmul (FP.i2d i0) d1)), (.double (FP.i2d i1))])) _
      refine XS.iconst X4.here hx rfl (hb hby at_74) ?_
      show Steps p.tables e below (T4.setTop (mkF m 75 #[.val (.int i0), .val (.int i1), .val (.int i2), .val (.double (FP.dmul (FP.i2d i0) d1)), .second, .val (.double (FP.i2d i1)), .second, .val (.int (Int32.ofNat z)), .val (.int (1 : Int32)), .unset] [(.int (1 : Int32)), (.int (Int32.ofNat z)), (.double (FP.dmul (FP.i2d i0) d1)), (.double (FP.i2d i1))])) _
      refine XS.isub X4.here hx rfl (hb hby at_75) rfl ?_
      exact Steps.refl _
    have hG := hz2.resolve_left hz0
    obtain ⟨_, _, ⟨T8, L8, k8, n8⟩, -, X8, ⟨Lc8, hQ8, l8, y8, z8⟩, st8⟩ := Jvm.LawKit.callS X4 hx (y := (⟨"com/example/tight_reach/tightreach/StepPartsHalvingsPinLaw", "pow2", "(I)D"⟩ : MethodName)) hown (mvT hZ (hw _ (List.mem_of_getElem? (i := 0) rfl))) (mvT hZ (hw _ (List.mem_of_getElem? (i := 1) rfl))) (mvT hZ (hw _ (List.mem_of_getElem? (i := 2) rfl))) (mvT hZ (hw _ (List.mem_of_getElem? (i := 3) rfl))) (by decide) (backOf (W := 4) (rm3 l Z a0 hw [] ((Int32.ofNat z) - (1 : Int32)) (z - 1) h0 n0 Z0 (own_dec hz10 hz0) (by omega)) hZ (hw _ (List.mem_of_getElem? (i := 3) rfl)) (hw _ (List.mem_of_getElem? (i := 2) rfl)) (by decide) (by decide)) (g := (mkF m 76 #[.val (.int i0), .val (.int i1), .val (.int i2), .val (.double (FP.dmul (FP.i2d i0) d1)), .second, .val (.double (FP.i2d i1)), .second, .val (.int (Int32.ofNat z)), .val (.int (1 : Int32)), .unset] [(.int ((Int32.ofNat z) - (1 : Int32))), (.double (FP.dmul (FP.i2d i0) d1)), (.double (FP.i2d i1))])) rfl (by rw [hml]; rfl) (argsL := [(.int ((Int32.ofNat z) - (1 : Int32)))]) (rest := [(.double (FP.dmul (FP.i2d i0) d1)), (.double (FP.i2d i1))]) (lenOf pd0 rfl) rfl (by show 2 * 0 + _ ≤ _; exact Nat.le_of_eq rfl) (hb hby at_76) (fun _ _ => ⟨rfl, e2, (by decide : 0 + 0 ≤ _), (by decide : 0 + 0 ≤ _)⟩)
    dsimp only [Pt.U, Pt.locs, Pt.cells, Pt.slots] at X8 l8 y8 z8 st8 hQ8
    subst l8 y8 z8
    obtain ⟨⟨d3, rfl, hd3⟩, N3, e3⟩ := hQ8
    have c8 : Steps p.tables e below S0 (T8.setTop (mkF m 79 #[.val (.int i0), .val (.int i1), .val (.int i2), .val (.double (FP.dmul (FP.i2d i0) d1)), .second, .val (.double (FP.i2d i1)), .second, .val (.int (Int32.ofNat z)), .val (.int (1 : Int32)), .unset] [(.double d3), (.double (FP.dmul (FP.i2d i0) d1)), (.double (FP.i2d i1))])) := by
      refine c7.trans ?_
      show Steps p.tables e below (T4.setTop (mkF m 76 #[.val (.int i0), .val (.int i1), .val (.int i2), .val (.double (FP.dmul (FP.i2d i0) d1)), .second, .val (.double (FP.i2d i1)), .second, .val (.int (Int32.ofNat z)), .val (.int (1 : Int32)), .unset] [(.int ((Int32.ofNat z) - (1 : Int32))), (.double (FP.dmul (FP.i2d i0) d1)), (.double (FP.i2d i1))])) _
      refine st8 _ ?_
      exact Steps.refl _
    have hq3 : DV (FP.ddiv (FP.dmul (FP.i2d i0) d1) d3) i0.toInt (1074 + K - (z - 1)) := ddiv_v 0 _ hnv hd3 (by omega) (by omega) (by omega) (by omega)
    have c9 : Steps p.tables e below S0 (T8.setTop (mkF m 91 #[.val (.int i0), .val (.int i1), .val (.int i2), .val (.double (FP.dmul (FP.i2d i0) d1)), .second, .val (.double (FP.i2d i1)), .second, .val (.int (Int32.ofNat z)), .val (.int (1 : Int32)), .val (.int (1 : Int32))] [])) := by
      refine c8.trans ?_
      show Steps p.tables e below (T8.setTop (mkF m 79 #[.val (.int i0), .val (.int i1), .val (.int i2), .val (.double (FP.dmul (FP.i2d i0) d1)), .second, .val (.double (FP.i2d i1)), .second, .val (.int (Int32.ofNat z)), .val (.int (1 : Int32)), .unset] [(.double d3), (.double (FP.dmul (FP.i2d i0) d1)), (.double (FP.i2d i1))])) _
      refine XS.ddivS X8.here hx rfl (v := (FP.ddiv (FP.dmul (FP.i2d i0) d1) d3)) (hb hby at_79) rfl hq3.noNaN rfl ?_
      show Steps p.tables e below (T8.setTop (mkF m 80 #[.val (.int i0), .val (.int i1), .val (.int i2), .val (.double (FP.dmul (FP.i2d i0) d1)), .second, .val (.double (FP.i2d i1)), .second, .val (.int (Int32.ofNat z)), .val (.int (1 : Int32)), .unset] [(.double (FP.ddiv (FP.dmul (FP.i2d i0) d1) d3)), (.double (FP.i2d i1))])) _
      refine XS.dcmpS X8.here hx rfl (v := (-1 : Int32)) (hb hby at_80) rfl (cmp_lt hyv hq3 _ hG) ?_
      show Steps p.tables e below (T8.setTop (mkF m 81 #[.val (.int i0), .val (.int i1), .val (.int i2), .val (.double (FP.dmul (FP.i2d i0) d1)), .second, .val (.double (FP.i2d i1)), .second, .val (.int (Int32.ofNat z)), .val (.int (1 : Int32)), .unset] [(.int (-1 : Int32))])) _
      refine XS.ifNo X8.here hx rfl (hb hby at_81) rfl ((if0 _ _).trans (tlt (by decide)).2.1) ?_
      show Steps p.tables e below (T8.setTop (mkF m 84 #[.val (.int i0), .val (.int i1), .val (.int i2), .val (.double (FP.dmul (FP.i2d i0) d1)), .second, .val (.double (FP.i2d i1)), .second, .val (.int (Int32.ofNat z)), .val (.int (1 : Int32)), .unset] [])) _
      refine XS.iconst X8.here hx rfl (hb hby at_84) ?_
      show Steps p.tables e below (T8.setTop (mkF m 85 #[.val (.int i0), .val (.int i1), .val (.int i2), .val (.double (FP.dmul (FP.i2d i0) d1)), .second, .val (.double (FP.i2d i1)), .second, .val (.int (Int32.ofNat z)), .val (.int (1 : Int32)), .unset] [(.int (1 : Int32))])) _
      refine XS.goto X8.here hx rfl (pc0 := 85) (pc' := 89) rfl (hb hby at_85) (by decide) (by decide) ?_
      show Steps p.tables e below (T8.setTop (mkF m 89 #[.val (.int i0), .val (.int i1), .val (.int i2), .val (.double (FP.dmul (FP.i2d i0) d1)), .second, .val (.double (FP.i2d i1)), .second, .val (.int (Int32.ofNat z)), .val (.int (1 : Int32)), .unset] [(.int (1 : Int32))])) _
      refine XS.istore X8.here hx rfl (hb hby at_89) rfl (l' := #[.val (.int i0), .val (.int i1), .val (.int i2), .val (.double (FP.dmul (FP.i2d i0) d1)), .second, .val (.double (FP.i2d i1)), .second, .val (.int (Int32.ofNat z)), .val (.int (1 : Int32)), .val (.int (1 : Int32))]) rfl ?_
      exact Steps.refl _
    have c10 : Steps p.tables e below S0 (T8.setTop (mkF m 106 #[.val (.int i0), .val (.int i1), .val (.int i2), .val (.double (FP.dmul (FP.i2d i0) d1)), .second, .val (.double (FP.i2d i1)), .second, .val (.int (Int32.ofNat z)), .val (.int (1 : Int32)), .val (.int (1 : Int32))] [(.int (1 : Int32))])) := by
      refine c9.trans ?_
      show Steps p.tables e below (T8.setTop (mkF m 91 #[.val (.int i0), .val (.int i1), .val (.int i2), .val (.double (FP.dmul (FP.i2d i0) d1)), .second, .val (.double (FP.i2d i1)), .second, .val (.int (Int32.ofNat z)), .val (.int (1 : Int32)), .val (.int (1 : Int32))] [])) _
      refine XS.iload X8.here hx rfl (hb hby at_91) rfl ?_
      show Steps p.tables e below (T8.setTop (mkF m 93 #[.val (.int i0), .val (.int i1), .val (.int i2), .val (.double (FP.dmul (FP.i2d i0) d1)), .second, .val (.double (FP.i2d i1)), .second, .val (.int (Int32.ofNat z)), .val (.int (1 : Int32)), .val (.int (1 : Int32))] [(.int (1 : Int32))])) _
      refine XS.ifNo X8.here hx rfl (hb hby at_93) rfl ((if0 _ _).trans (feq (by decide)).1) ?_
      show Steps p.tables e below (T8.setTop (mkF m 96 #[.val (.int i0), .val (.int i1), .val (.int i2), .val (.double (FP.dmul (FP.i2d i0) d1)), .second, .val (.double (FP.i2d i1)), .second, .val (.int (Int32.ofNat z)), .val (.int (1 : Int32)), .val (.int (1 : Int32))] [])) _
      refine XS.iload X8.here hx rfl (hb hby at_96) rfl ?_
      show Steps p.tables e below (T8.setTop (mkF m 98 #[.val (.int i0), .val (.int i1), .val (.int i2), .val (.double (FP.dmul (FP.i2d i0) d1)), .second, .val (.double (FP.i2d i1)), .second, .val (.int (Int32.ofNat z)), .val (.int (1 : Int32)), .val (.int (1 : Int32))] [(.int (1 : Int32))])) _
      refine XS.ifNo X8.here hx rfl (hb hby at_98) rfl ((if0 _ _).trans (feq (by decide)).1) ?_
      show Steps p.tables e below (T8.setTop (mkF m 101 #[.val (.int i0), .val (.int i1), .val (.int i2), .val (.double (FP.dmul (FP.i2d i0) d1)), .second, .val (.double (FP.i2d i1)), .second, .val (.int (Int32.ofNat z)), .val (.int (1 : Int32)), .val (.int (1 : Int32))] [])) _
      refine XS.iconst X8.here hx rfl (hb hby at_101) ?_
      show Steps p.tables e below (T8.setTop (mkF m 102 #[.val (.int i0), .val (.int i1), .val (.int i2), .val (.double (FP.dmul (FP.i2d i0) d1)), .second, .val (.double (FP.i2d i1)), .second, .val (.int (Int32.ofNat z)), .val (.int (1 : Int32)), .val (.int (1 : Int32))] [(.int (1 : Int32))])) _
      refine XS.goto X8.here hx rfl (pc0 := 102) (pc' := 106) rfl (hb hby at_102) (by decide) (by decide) ?_
      exact Steps.refl _
    obtain ⟨fs, hr, hrun, hended, hW, hsame⟩ := X8.leave (v := some (.int 1)) (fun h => by rw [Bd.returns] at h; cases h)
    refine ⟨_, _, c10.trans ?_, hrun, hended, _, _, rfl, ?_, ⟨_, rfl⟩, hW, hsame.mono (by decide) (by decide)⟩
    · show Steps p.tables e below (T8.setTop (mkF m 106 #[.val (.int i0), .val (.int i1), .val (.int i2), .val (.double (FP.dmul (FP.i2d i0) d1)), .second, .val (.double (FP.i2d i1)), .second, .val (.int (Int32.ofNat z)), .val (.int (1 : Int32)), .val (.int (1 : Int32))] [(.int (1 : Int32))])) _
      exact retN X8 hx (t := .boolean) Bd.returns (by simp) (hb hby at_106) hr
    · show Q0 Z i0 i1 i2 h0 n0 _ T8.heap _
      rw [e3]
      exact ⟨rfl, Fr.app (Fr.app (Fr.app N0 N1) N2) N3⟩
  · have hG0 := hz1.resolve_left hz
    have c11 : Steps p.tables e below S0 (T4.setTop (mkF m 44 #[.val (.int i0), .val (.int i1), .val (.int i2), .val (.double (FP.dmul (FP.i2d i0) d1)), .second, .val (.double (FP.i2d i1)), .second, .val (.int (Int32.ofNat z)), .unset, .unset] [])) := by
      refine c5.trans ?_
      show Steps p.tables e below (T4.setTop (mkF m 37 #[.val (.int i0), .val (.int i1), .val (.int i2), .val (.double (FP.dmul (FP.i2d i0) d1)), .second, .val (.double (FP.i2d i1)), .second, .val (.int (Int32.ofNat z)), .unset, .unset] [])) _
      refine XS.iload X4.here hx rfl (hb hby at_37) rfl ?_
      show Steps p.tables e below (T4.setTop (mkF m 39 #[.val (.int i0), .val (.int i1), .val (.int i2), .val (.double (FP.dmul (FP.i2d i0) d1)), .second, .val (.double (FP.i2d i1)), .second, .val (.int (Int32.ofNat z)), .unset, .unset] [(.int (Int32.ofNat z))])) _
      refine XS.bipush X4.here hx rfl (hb hby at_39) ?_
      show Steps p.tables e below (T4.setTop (mkF m 41 #[.val (.int i0), .val (.int i1), .val (.int i2), .val (.double (FP.dmul (FP.i2d i0) d1)), .second, .val (.double (FP.i2d i1)), .second, .val (.int (Int32.ofNat z)), .unset, .unset] [(.int (10 : Int32)), (.int (Int32.ofNat z))])) _
      refine XS.icmpNo X4.here hx rfl (hb hby at_41) rfl (feq (fun q => hz ((own_eq10 hz10).mp q))).1 ?_
      exact Steps.refl _
    have c12 : Steps p.tables e below S0 (T4.setTop (mkF m 49 #[.val (.int i0), .val (.int i1), .val (.int i2), .val (.double (FP.dmul (FP.i2d i0) d1)), .second, .val (.double (FP.i2d i1)), .second, .val (.int (Int32.ofNat z)), .unset, .unset] [(.int (Int32.ofNat z)), (.double (FP.dmul (FP.i2d i0) d1)), (.double (FP.i2d i1))])) := by
      refine c11.trans ?_
      show Steps p.tables e below (T4.setTop (mkF m 44 #[.val (.int i0), .val (.int i1), .val (.int i2), .val (.double (FP.dmul (FP.i2d i0) d1)), .second, .val (.double (FP.i2d i1)), .second, .val (.int (Int32.ofNat z)), .unset, .unset] [])) _
      refine XS.dload X4.here hx rfl (hb hby at_44) rfl ?_
      show Steps p.tables e below (T4.setTop (mkF m 46 #[.val (.int i0), .val (.int i1), .val (.int i2), .val (.double (FP.dmul (FP.i2d i0) d1)), .second, .val (.double (FP.i2d i1)), .second, .val (.int (Int32.ofNat z)), .unset, .unset] [(.double (FP.i2d i1))])) _
      refine XS.dloadN X4.here hx rfl (hb hby at_46) rfl ?_
      show Steps p.tables e below (T4.setTop (mkF m 47 #[.val (.int i0), .val (.int i1), .val (.int i2), .val (.double (FP.dmul (FP.i2d i0) d1)), .second, .val (.double (FP.i2d i1)), .second, .val (.int (Int32.ofNat z)), .unset, .unset] [(.double (FP.dmul (FP.i2d i0) d1)), (.double (FP.i2d i1))])) _
      refine XS.iload X4.here hx rfl (hb hby at_47) rfl ?_
      exact Steps.refl _
    obtain ⟨_, _, ⟨T13, L13, k13, n13⟩, -, X13, ⟨Lc13, hQ13, l13, y13, z13⟩, st13⟩ := Jvm.LawKit.callS X4 hx (y := (⟨"com/example/tight_reach/tightreach/StepPartsHalvingsPinLaw", "pow2", "(I)D"⟩ : MethodName)) hown (mvT hZ (hw _ (List.mem_of_getElem? (i := 0) rfl))) (mvT hZ (hw _ (List.mem_of_getElem? (i := 1) rfl))) (mvT hZ (hw _ (List.mem_of_getElem? (i := 2) rfl))) (mvT hZ (hw _ (List.mem_of_getElem? (i := 3) rfl))) (by decide) (backOf (W := 4) (rm3 l Z a0 hw [] (Int32.ofNat z) z h0 n0 Z0 rfl hz31) hZ (hw _ (List.mem_of_getElem? (i := 3) rfl)) (hw _ (List.mem_of_getElem? (i := 2) rfl)) (by decide) (by decide)) (g := (mkF m 49 #[.val (.int i0), .val (.int i1), .val (.int i2), .val (.double (FP.dmul (FP.i2d i0) d1)), .second, .val (.double (FP.i2d i1)), .second, .val (.int (Int32.ofNat z)), .unset, .unset] [(.int (Int32.ofNat z)), (.double (FP.dmul (FP.i2d i0) d1)), (.double (FP.i2d i1))])) rfl (by rw [hml]; rfl) (argsL := [(.int (Int32.ofNat z))]) (rest := [(.double (FP.dmul (FP.i2d i0) d1)), (.double (FP.i2d i1))]) (lenOf pd0 rfl) rfl (by show 2 * 0 + _ ≤ _; exact Nat.le_of_eq rfl) (hb hby at_49) (fun _ _ => ⟨rfl, e2, (by decide : 0 + 0 ≤ _), (by decide : 0 + 0 ≤ _)⟩)
    dsimp only [Pt.U, Pt.locs, Pt.cells, Pt.slots] at X13 l13 y13 z13 st13 hQ13
    subst l13 y13 z13
    obtain ⟨⟨d2, rfl, hd2⟩, N4, e4⟩ := hQ13
    have c13 : Steps p.tables e below S0 (T13.setTop (mkF m 52 #[.val (.int i0), .val (.int i1), .val (.int i2), .val (.double (FP.dmul (FP.i2d i0) d1)), .second, .val (.double (FP.i2d i1)), .second, .val (.int (Int32.ofNat z)), .unset, .unset] [(.double d2), (.double (FP.dmul (FP.i2d i0) d1)), (.double (FP.i2d i1))])) := by
      refine c12.trans ?_
      show Steps p.tables e below (T4.setTop (mkF m 49 #[.val (.int i0), .val (.int i1), .val (.int i2), .val (.double (FP.dmul (FP.i2d i0) d1)), .second, .val (.double (FP.i2d i1)), .second, .val (.int (Int32.ofNat z)), .unset, .unset] [(.int (Int32.ofNat z)), (.double (FP.dmul (FP.i2d i0) d1)), (.double (FP.i2d i1))])) _
      refine st13 _ ?_
      exact Steps.refl _
    have hq2 : DV (FP.ddiv (FP.dmul (FP.i2d i0) d1) d2) i0.toInt (1074 + K - z) := ddiv_v 0 _ hnv hd2 (by omega) (by omega) (by omega) (by omega)
    have c14 : Steps p.tables e below S0 (T13.setTop (mkF m 66 #[.val (.int i0), .val (.int i1), .val (.int i2), .val (.double (FP.dmul (FP.i2d i0) d1)), .second, .val (.double (FP.i2d i1)), .second, .val (.int (Int32.ofNat z)), .val (.int (1 : Int32)), .unset] [(.int (Int32.ofNat z))])) := by
      refine c13.trans ?_
      show Steps p.tables e below (T13.setTop (mkF m 52 #[.val (.int i0), .val (.int i1), .val (.int i2), .val (.double (FP.dmul (FP.i2d i0) d1)), .second, .val (.double (FP.i2d i1)), .second, .val (.int (Int32.ofNat z)), .unset, .unset] [(.double d2), (.double (FP.dmul (FP.i2d i0) d1)), (.double (FP.i2d i1))])) _
      refine XS.ddivS X13.here hx rfl (v := (FP.ddiv (FP.dmul (FP.i2d i0) d1) d2)) (hb hby at_52) rfl hq2.noNaN rfl ?_
      show Steps p.tables e below (T13.setTop (mkF m 53 #[.val (.int i0), .val (.int i1), .val (.int i2), .val (.double (FP.dmul (FP.i2d i0) d1)), .second, .val (.double (FP.i2d i1)), .second, .val (.int (Int32.ofNat z)), .unset, .unset] [(.double (FP.ddiv (FP.dmul (FP.i2d i0) d1) d2)), (.double (FP.i2d i1))])) _
      refine XS.dcmpS X13.here hx rfl (v := (cmpValue (FP.dcmp (FP.i2d i1) (FP.ddiv (FP.dmul (FP.i2d i0) d1) d2)) .g)) (hb hby at_53) rfl rfl ?_
      show Steps p.tables e below (T13.setTop (mkF m 54 #[.val (.int i0), .val (.int i1), .val (.int i2), .val (.double (FP.dmul (FP.i2d i0) d1)), .second, .val (.double (FP.i2d i1)), .second, .val (.int (Int32.ofNat z)), .unset, .unset] [(.int (cmpValue (FP.dcmp (FP.i2d i1) (FP.ddiv (FP.dmul (FP.i2d i0) d1) d2)) .g))])) _
      refine XS.ifNo X13.here hx rfl (hb hby at_54) rfl ((if0 _ _).trans (flt (cmp_nlt hyv hq2 _ hG0)).1) ?_
      show Steps p.tables e below (T13.setTop (mkF m 57 #[.val (.int i0), .val (.int i1), .val (.int i2), .val (.double (FP.dmul (FP.i2d i0) d1)), .second, .val (.double (FP.i2d i1)), .second, .val (.int (Int32.ofNat z)), .unset, .unset] [])) _
      refine XS.iconst X13.here hx rfl (hb hby at_57) ?_
      show Steps p.tables e below (T13.setTop (mkF m 58 #[.val (.int i0), .val (.int i1), .val (.int i2), .val (.double (FP.dmul (FP.i2d i0) d1)), .second, .val (.double (FP.i2d i1)), .second, .val (.int (Int32.ofNat z)), .unset, .unset] [(.int (1 : Int32))])) _
      refine XS.goto X13.here hx rfl (pc0 := 58) (pc' := 62) rfl (hb hby at_58) (by decide) (by decide) ?_
      show Steps p.tables e below (T13.setTop (mkF m 62 #[.val (.int i0), .val (.int i1), .val (.int i2), .val (.double (FP.dmul (FP.i2d i0) d1)), .second, .val (.double (FP.i2d i1)), .second, .val (.int (Int32.ofNat z)), .unset, .unset] [(.int (1 : Int32))])) _
      refine XS.istore X13.here hx rfl (hb hby at_62) rfl (l' := #[.val (.int i0), .val (.int i1), .val (.int i2), .val (.double (FP.dmul (FP.i2d i0) d1)), .second, .val (.double (FP.i2d i1)), .second, .val (.int (Int32.ofNat z)), .val (.int (1 : Int32)), .unset]) rfl ?_
      show Steps p.tables e below (T13.setTop (mkF m 64 #[.val (.int i0), .val (.int i1), .val (.int i2), .val (.double (FP.dmul (FP.i2d i0) d1)), .second, .val (.double (FP.i2d i1)), .second, .val (.int (Int32.ofNat z)), .val (.int (1 : Int32)), .unset] [])) _
      refine XS.iload X13.here hx rfl (hb hby at_64) rfl ?_
      exact Steps.refl _
    by_cases hz0 : z = 0
    · have c15 : Steps p.tables e below S0 (T13.setTop (mkF m 84 #[.val (.int i0), .val (.int i1), .val (.int i2), .val (.double (FP.dmul (FP.i2d i0) d1)), .second, .val (.double (FP.i2d i1)), .second, .val (.int (Int32.ofNat z)), .val (.int (1 : Int32)), .unset] [])) := by
        refine c14.trans ?_
        show Steps p.tables e below (T13.setTop (mkF m 66 #[.val (.int i0), .val (.int i1), .val (.int i2), .val (.double (FP.dmul (FP.i2d i0) d1)), .second, .val (.double (FP.i2d i1)), .second, .val (.int (Int32.ofNat z)), .val (.int (1 : Int32)), .unset] [(.int (Int32.ofNat z))])) _
        refine XS.ifYes X13.here hx rfl (pc0 := 66) (pc' := 84) rfl (hb hby at_66) rfl ((if0 _ _).trans (teq ((own_eq0 hz10).mpr hz0)).1) (by decide) (by decide) ?_
        exact Steps.refl _
      have c16 : Steps p.tables e below S0 (T13.setTop (mkF m 106 #[.val (.int i0), .val (.int i1), .val (.int i2), .val (.double (FP.dmul (FP.i2d i0) d1)), .second, .val (.double (FP.i2d i1)), .second, .val (.int (Int32.ofNat z)), .val (.int (1 : Int32)), .val (.int (1 : Int32))] [(.int (1 : Int32))])) := by
        refine c15.trans ?_
        show Steps p.tables e below (T13.setTop (mkF m 84 #[.val (.int i0), .val (.int i1), .val (.int i2), .val (.double (FP.dmul (FP.i2d i0) d1)), .second, .val (.double (FP.i2d i1)), .second, .val (.int (Int32.ofNat z)), .val (.int (1 : Int32)), .unset] [])) _
        refine XS.iconst X13.here hx rfl (hb hby at_84) ?_
        show Steps p.tables e below (T13.setTop (mkF m 85 #[.val (.int i0), .val (.int i1), .val (.int i2), .val (.double (FP.dmul (FP.i2d i0) d1)), .second, .val (.double (FP.i2d i1)), .second, .val (.int (Int32.ofNat z)), .val (.int (1 : Int32)), .unset] [(.int (1 : Int32))])) _
        refine XS.goto X13.here hx rfl (pc0 := 85) (pc' := 89) rfl (hb hby at_85) (by decide) (by decide) ?_
        show Steps p.tables e below (T13.setTop (mkF m 89 #[.val (.int i0), .val (.int i1), .val (.int i2), .val (.double (FP.dmul (FP.i2d i0) d1)), .second, .val (.double (FP.i2d i1)), .second, .val (.int (Int32.ofNat z)), .val (.int (1 : Int32)), .unset] [(.int (1 : Int32))])) _
        refine XS.istore X13.here hx rfl (hb hby at_89) rfl (l' := #[.val (.int i0), .val (.int i1), .val (.int i2), .val (.double (FP.dmul (FP.i2d i0) d1)), .second, .val (.double (FP.i2d i1)), .second, .val (.int (Int32.ofNat z)), .val (.int (1 : Int32)), .val (.int (1 : Int32))]) rfl ?_
        show Steps p.tables e below (T13.setTop (mkF m 91 #[.val (.int i0), .val (.int i1), .val (.int i2), .val (.double (FP.dmul (FP.i2d i0) d1)), .second, .val (.double (FP.i2d i1)), .second, .val (.int (Int32.ofNat z)), .val (.int (1 : Int32)), .val (.int (1 : Int32))] [])) _
        refine XS.iload X13.here hx rfl (hb hby at_91) rfl ?_
        show Steps p.tables e below (T13.setTop (mkF m 93 #[.val (.int i0), .val (.int i1), .val (.int i2), .val (.double (FP.dmul (FP.i2d i0) d1)), .second, .val (.double (FP.i2d i1)), .second, .val (.int (Int32.ofNat z)), .val (.int (1 : Int32)), .val (.int (1 : Int32))] [(.int (1 : Int32))])) _
        refine XS.ifNo X13.here hx rfl (hb hby at_93) rfl ((if0 _ _).trans (feq (by decide)).1) ?_
        show Steps p.tables e below (T13.setTop (mkF m 96 #[.val (.int i0), .val (.int i1), .val (.int i2), .val (.double (FP.dmul (FP.i2d i0) d1)), .second, .val (.double (FP.i2d i1)), .second, .val (.int (Int32.ofNat z)), .val (.int (1 : Int32)), .val (.int (1 : Int32))] [])) _
        refine XS.iload X13.here hx rfl (hb hby at_96) rfl ?_
        show Steps p.tables e below (T13.setTop (mkF m 98 #[.val (.int i0), .val (.int i1), .val (.int i2), .val (.double (FP.dmul (FP.i2d i0) d1)), .second, .val (.double (FP.i2d i1)), .second, .val (.int (Int32.ofNat z)), .val (.int (1 : Int32)), .val (.int (1 : Int32))] [(.int (1 : Int32))])) _
        refine XS.ifNo X13.here hx rfl (hb hby at_98) rfl ((if0 _ _).trans (feq (by decide)).1) ?_
        show Steps p.tables e below (T13.setTop (mkF m 101 #[.val (.int i0), .val (.int i1), .val (.int i2), .val (.double (FP.dmul (FP.i2d i0) d1)), .second, .val (.double (FP.i2d i1)), .second, .val (.int (Int32.ofNat z)), .val (.int (1 : Int32)), .val (.int (1 : Int32))] [])) _
        refine XS.iconst X13.here hx rfl (hb hby at_101) ?_
        show Steps p.tables e below (T13.setTop (mkF m 102 #[.val (.int i0), .val (.int i1), .val (.int i2), .val (.double (FP.dmul (FP.i2d i0) d1)), .second, .val (.double (FP.i2d i1)), .second, .val (.int (Int32.ofNat z)), .val (.int (1 : Int32)), .val (.int (1 : Int32))] [(.int (1 : Int32))])) _
        refine XS.goto X13.here hx rfl (pc0 := 102) (pc' := 106) rfl (hb hby at_102) (by decide) (by decide) ?_
        exact Steps.refl _
      obtain ⟨fs, hr, hrun, hended, hW, hsame⟩ := X13.leave (v := some (.int 1)) (fun h => by rw [Bd.returns] at h; cases h)
      refine ⟨_, _, c16.trans ?_, hrun, hended, _, _, rfl, ?_, ⟨_, rfl⟩, hW, hsame.mono (by decide) (by decide)⟩
      · show Steps p.tables e below (T13.setTop (mkF m 106 #[.val (.int i0), .val (.int i1), .val (.int i2), .val (.double (FP.dmul (FP.i2d i0) d1)), .second, .val (.double (FP.i2d i1)), .second, .val (.int (Int32.ofNat z)), .val (.int (1 : Int32)), .val (.int (1 : Int32))] [(.int (1 : Int32))])) _
        exact retN X13 hx (t := .boolean) Bd.returns (by simp) (hb hby at_106) hr
      · show Q0 Z i0 i1 i2 h0 n0 _ T13.heap _
        rw [e4]
        exact ⟨rfl, Fr.app (Fr.app (Fr.app N0 N1) N2) N4⟩
    · have c17 : Steps p.tables e below S0 (T13.setTop (mkF m 69 #[.val (.int i0), .val (.int i1), .val (.int i2), .val (.double (FP.dmul (FP.i2d i0) d1)), .second, .val (.double (FP.i2d i1)), .second, .val (.int (Int32.ofNat z)), .val (.int (1 : Int32)), .unset] [])) := by
        refine c14.trans ?_
        show Steps p.tables e below (T13.setTop (mkF m 66 #[.val (.int i0), .val (.int i1), .val (.int i2), .val (.double (FP.dmul (FP.i2d i0) d1)), .second, .val (.double (FP.i2d i1)), .second, .val (.int (Int32.ofNat z)), .val (.int (1 : Int32)), .unset] [(.int (Int32.ofNat z))])) _
        refine XS.ifNo X13.here hx rfl (hb hby at_66) rfl ((if0 _ _).trans (feq (fun q => hz0 ((own_eq0 hz10).mp q))).1) ?_
        exact Steps.refl _
      have c18 : Steps p.tables e below S0 (T13.setTop (mkF m 76 #[.val (.int i0), .val (.int i1), .val (.int i2), .val (.double (FP.dmul (FP.i2d i0) d1)), .second, .val (.double (FP.i2d i1)), .second, .val (.int (Int32.ofNat z)), .val (.int (1 : Int32)), .unset] [(.int ((Int32.ofNat z) - (1 : Int32))), (.double (FP.dmul (FP.i2d i0) d1)), (.double (FP.i2d i1))])) := by
        refine c17.trans ?_
        show Steps p.tables e below (T13.setTop (mkF m 69 #[.val (.int i0), .val (.int i1), .val (.int i2), .val (.double (FP.dmul (FP.i2d i0) d1)), .second, .val (.double (FP.i2d i1)), .second, .val (.int (Int32.ofNat z)), .val (.int (1 : Int32)), .unset] [])) _
        refine XS.dload X13.here hx rfl (hb hby at_69) rfl ?_
        show Steps p.tables e below (T13.setTop (mkF m 71 #[.val (.int i0), .val (.int i1), .val (.int i2), .val (.double (FP.dmul (FP.i2d i0) d1)), .second, .val (.double (FP.i2d i1)), .second, .val (.int (Int32.ofNat z)), .val (.int (1 : Int32)), .unset] [(.double (FP.i2d i1))])) _
        refine XS.dloadN X13.here hx rfl (hb hby at_71) rfl ?_
        show Steps p.tables e below (T13.setTop (mkF m 72 #[.val (.int i0), .val (.int i1), .val (.int i2), .val (.double (FP.dmul (FP.i2d i0) d1)), .second, .val (.double (FP.i2d i1)), .second, .val (.int (Int32.ofNat z)), .val (.int (1 : Int32)), .unset] [(.double (FP.dmul (FP.i2d i0) d1)), (.double (FP.i2d i1))])) _
        refine XS.iload X13.here hx rfl (hb hby at_72) rfl ?_
        show Steps p.tables e below (T13.setTop (mkF m 74 #[.val (.int i0), .val (.int i1), .val (.int i2), .val (.double (FP.dmul (FP.i2d i0) d1)), .second, .val (.double (FP.i2d i1)), .second, .val (.int (Int32.ofNat z)), .val (.int (1 : Int32)), .unset] [(.int (Int32.ofNat z)), (.double (FP.dmul (FP.i2d i0) d1)), (.double (FP.i2d i1))])) _
        refine XS.iconst X13.here hx rfl (hb hby at_74) ?_
        show Steps p.tables e below (T13.setTop (mkF m 75 #[.val (.int i0), .val (.int i1), .val (.int i2), .val (.double (FP.dmul (FP.i2d i0) d1)), .second, .val (.double (FP.i2d i1)), .second, .val (.int (Int32.ofNat z)), .val (.int (1 : Int32)), .unset] [(.int (1 : Int32)), (.int (Int32.ofNat z)), (.double (FP.dmul (FP.i2d i0) d1)), (.double (FP.i2d i1))])) _
        refine XS.isub X13.here hx rfl (hb hby at_75) rfl ?_
        exact Steps.refl _
      have hG := hz2.resolve_left hz0
      obtain ⟨_, _, ⟨T19, L19, k19, n19⟩, -, X19, ⟨Lc19, hQ19, l19, y19, z19⟩, st19⟩ := Jvm.LawKit.callS X13 hx (y := (⟨"com/example/tight_reach/tightreach/StepPartsHalvingsPinLaw", "pow2", "(I)D"⟩ : MethodName)) hown (mvT hZ (hw _ (List.mem_of_getElem? (i := 0) rfl))) (mvT hZ (hw _ (List.mem_of_getElem? (i := 1) rfl))) (mvT hZ (hw _ (List.mem_of_getElem? (i := 2) rfl))) (mvT hZ (hw _ (List.mem_of_getElem? (i := 3) rfl))) (by decide) (backOf (W := 4) (rm3 l Z a0 hw [] ((Int32.ofNat z) - (1 : Int32)) (z - 1) h0 n0 Z0 (own_dec hz10 hz0) (by omega)) hZ (hw _ (List.mem_of_getElem? (i := 3) rfl)) (hw _ (List.mem_of_getElem? (i := 2) rfl)) (by decide) (by decide)) (g := (mkF m 76 #[.val (.int i0), .val (.int i1), .val (.int i2), .val (.double (FP.dmul (FP.i2d i0) d1)), .second, .val (.double (FP.i2d i1)), .second, .val (.int (Int32.ofNat z)), .val (.int (1 : Int32)), .unset] [(.int ((Int32.ofNat z) - (1 : Int32))), (.double (FP.dmul (FP.i2d i0) d1)), (.double (FP.i2d i1))])) rfl (by rw [hml]; rfl) (argsL := [(.int ((Int32.ofNat z) - (1 : Int32)))]) (rest := [(.double (FP.dmul (FP.i2d i0) d1)), (.double (FP.i2d i1))]) (lenOf pd0 rfl) rfl (by show 2 * 0 + _ ≤ _; exact Nat.le_of_eq rfl) (hb hby at_76) (fun _ _ => ⟨rfl, e4, (by decide : 0 + 0 ≤ _), (by decide : 0 + 0 ≤ _)⟩)
      dsimp only [Pt.U, Pt.locs, Pt.cells, Pt.slots] at X19 l19 y19 z19 st19 hQ19
      subst l19 y19 z19
      obtain ⟨⟨d3, rfl, hd3⟩, N3, e3⟩ := hQ19
      have c19 : Steps p.tables e below S0 (T19.setTop (mkF m 79 #[.val (.int i0), .val (.int i1), .val (.int i2), .val (.double (FP.dmul (FP.i2d i0) d1)), .second, .val (.double (FP.i2d i1)), .second, .val (.int (Int32.ofNat z)), .val (.int (1 : Int32)), .unset] [(.double d3), (.double (FP.dmul (FP.i2d i0) d1)), (.double (FP.i2d i1))])) := by
        refine c18.trans ?_
        show Steps p.tables e below (T13.setTop (mkF m 76 #[.val (.int i0), .val (.int i1), .val (.int i2), .val (.double (FP.dmul (FP.i2d i0) d1)), .second, .val (.double (FP.i2d i1)), .second, .val (.int (Int32.ofNat z)), .val (.int (1 : Int32)), .unset] [(.int ((Int32.ofNat z) - (1 : Int32))), (.double (FP.dmul (FP.i2d i0) d1)), (.double (FP.i2d i1))])) _
        refine st19 _ ?_
        exact Steps.refl _
      have hq3 : DV (FP.ddiv (FP.dmul (FP.i2d i0) d1) d3) i0.toInt (1074 + K - (z - 1)) := ddiv_v 0 _ hnv hd3 (by omega) (by omega) (by omega) (by omega)
      have c20 : Steps p.tables e below S0 (T19.setTop (mkF m 91 #[.val (.int i0), .val (.int i1), .val (.int i2), .val (.double (FP.dmul (FP.i2d i0) d1)), .second, .val (.double (FP.i2d i1)), .second, .val (.int (Int32.ofNat z)), .val (.int (1 : Int32)), .val (.int (1 : Int32))] [])) := by
        refine c19.trans ?_
        show Steps p.tables e below (T19.setTop (mkF m 79 #[.val (.int i0), .val (.int i1), .val (.int i2), .val (.double (FP.dmul (FP.i2d i0) d1)), .second, .val (.double (FP.i2d i1)), .second, .val (.int (Int32.ofNat z)), .val (.int (1 : Int32)), .unset] [(.double d3), (.double (FP.dmul (FP.i2d i0) d1)), (.double (FP.i2d i1))])) _
        refine XS.ddivS X19.here hx rfl (v := (FP.ddiv (FP.dmul (FP.i2d i0) d1) d3)) (hb hby at_79) rfl hq3.noNaN rfl ?_
        show Steps p.tables e below (T19.setTop (mkF m 80 #[.val (.int i0), .val (.int i1), .val (.int i2), .val (.double (FP.dmul (FP.i2d i0) d1)), .second, .val (.double (FP.i2d i1)), .second, .val (.int (Int32.ofNat z)), .val (.int (1 : Int32)), .unset] [(.double (FP.ddiv (FP.dmul (FP.i2d i0) d1) d3)), (.double (FP.i2d i1))])) _
        refine XS.dcmpS X19.here hx rfl (v := (-1 : Int32)) (hb hby at_80) rfl (cmp_lt hyv hq3 _ hG) ?_
        show Steps p.tables e below (T19.setTop (mkF m 81 #[.val (.int i0), .val (.int i1), .val (.int i2), .val (.double (FP.dmul (FP.i2d i0) d1)), .second, .val (.double (FP.i2d i1)), .second, .val (.int (Int32.ofNat z)), .val (.int (1 : Int32)), .unset] [(.int (-1 : Int32))])) _
        refine XS.ifNo X19.here hx rfl (hb hby at_81) rfl ((if0 _ _).trans (tlt (by decide)).2.1) ?_
        show Steps p.tables e below (T19.setTop (mkF m 84 #[.val (.int i0), .val (.int i1), .val (.int i2), .val (.double (FP.dmul (FP.i2d i0) d1)), .second, .val (.double (FP.i2d i1)), .second, .val (.int (Int32.ofNat z)), .val (.int (1 : Int32)), .unset] [])) _
        refine XS.iconst X19.here hx rfl (hb hby at_84) ?_
        show Steps p.tables e below (T19.setTop (mkF m 85 #[.val (.int i0), .val (.int i1), .val (.int i2), .val (.double (FP.dmul (FP.i2d i0) d1)), .second, .val (.double (FP.i2d i1)), .second, .val (.int (Int32.ofNat z)), .val (.int (1 : Int32)), .unset] [(.int (1 : Int32))])) _
        refine XS.goto X19.here hx rfl (pc0 := 85) (pc' := 89) rfl (hb hby at_85) (by decide) (by decide) ?_
        show Steps p.tables e below (T19.setTop (mkF m 89 #[.val (.int i0), .val (.int i1), .val (.int i2), .val (.double (FP.dmul (FP.i2d i0) d1)), .second, .val (.double (FP.i2d i1)), .second, .val (.int (Int32.ofNat z)), .val (.int (1 : Int32)), .unset] [(.int (1 : Int32))])) _
        refine XS.istore X19.here hx rfl (hb hby at_89) rfl (l' := #[.val (.int i0), .val (.int i1), .val (.int i2), .val (.double (FP.dmul (FP.i2d i0) d1)), .second, .val (.double (FP.i2d i1)), .second, .val (.int (Int32.ofNat z)), .val (.int (1 : Int32)), .val (.int (1 : Int32))]) rfl ?_
        exact Steps.refl _
      have c21 : Steps p.tables e below S0 (T19.setTop (mkF m 106 #[.val (.int i0), .val (.int i1), .val (.int i2), .val (.double (FP.dmul (FP.i2d i0) d1)), .second, .val (.double (FP.i2d i1)), .second, .val (.int (Int32.ofNat z)), .val (.int (1 : Int32)), .val (.int (1 : Int32))] [(.int (1 : Int32))])) := by
        refine c20.trans ?_
        show Steps p.tables e below (T19.setTop (mkF m 91 #[.val (.int i0), .val (.int i1), .val (.int i2), .val (.double (FP.dmul (FP.i2d i0) d1)), .second, .val (.double (FP.i2d i1)), .second, .val (.int (Int32.ofNat z)), .val (.int (1 : Int32)), .val (.int (1 : Int32))] [])) _
        refine XS.iload X19.here hx rfl (hb hby at_91) rfl ?_
        show Steps p.tables e below (T19.setTop (mkF m 93 #[.val (.int i0), .val (.int i1), .val (.int i2), .val (.double (FP.dmul (FP.i2d i0) d1)), .second, .val (.double (FP.i2d i1)), .second, .val (.int (Int32.ofNat z)), .val (.int (1 : Int32)), .val (.int (1 : Int32))] [(.int (1 : Int32))])) _
        refine XS.ifNo X19.here hx rfl (hb hby at_93) rfl ((if0 _ _).trans (feq (by decide)).1) ?_
        show Steps p.tables e below (T19.setTop (mkF m 96 #[.val (.int i0), .val (.int i1), .val (.int i2), .val (.double (FP.dmul (FP.i2d i0) d1)), .second, .val (.double (FP.i2d i1)), .second, .val (.int (Int32.ofNat z)), .val (.int (1 : Int32)), .val (.int (1 : Int32))] [])) _
        refine XS.iload X19.here hx rfl (hb hby at_96) rfl ?_
        show Steps p.tables e below (T19.setTop (mkF m 98 #[.val (.int i0), .val (.int i1), .val (.int i2), .val (.double (FP.dmul (FP.i2d i0) d1)), .second, .val (.double (FP.i2d i1)), .second, .val (.int (Int32.ofNat z)), .val (.int (1 : Int32)), .val (.int (1 : Int32))] [(.int (1 : Int32))])) _
        refine XS.ifNo X19.here hx rfl (hb hby at_98) rfl ((if0 _ _).trans (feq (by decide)).1) ?_
        show Steps p.tables e below (T19.setTop (mkF m 101 #[.val (.int i0), .val (.int i1), .val (.int i2), .val (.double (FP.dmul (FP.i2d i0) d1)), .second, .val (.double (FP.i2d i1)), .second, .val (.int (Int32.ofNat z)), .val (.int (1 : Int32)), .val (.int (1 : Int32))] [])) _
        refine XS.iconst X19.here hx rfl (hb hby at_101) ?_
        show Steps p.tables e below (T19.setTop (mkF m 102 #[.val (.int i0), .val (.int i1), .val (.int i2), .val (.double (FP.dmul (FP.i2d i0) d1)), .second, .val (.double (FP.i2d i1)), .second, .val (.int (Int32.ofNat z)), .val (.int (1 : Int32)), .val (.int (1 : Int32))] [(.int (1 : Int32))])) _
        refine XS.goto X19.here hx rfl (pc0 := 102) (pc' := 106) rfl (hb hby at_102) (by decide) (by decide) ?_
        exact Steps.refl _
      obtain ⟨fs, hr, hrun, hended, hW, hsame⟩ := X19.leave (v := some (.int 1)) (fun h => by rw [Bd.returns] at h; cases h)
      refine ⟨_, _, c21.trans ?_, hrun, hended, _, _, rfl, ?_, ⟨_, rfl⟩, hW, hsame.mono (by decide) (by decide)⟩
      · show Steps p.tables e below (T19.setTop (mkF m 106 #[.val (.int i0), .val (.int i1), .val (.int i2), .val (.double (FP.dmul (FP.i2d i0) d1)), .second, .val (.double (FP.i2d i1)), .second, .val (.int (Int32.ofNat z)), .val (.int (1 : Int32)), .val (.int (1 : Int32))] [(.int (1 : Int32))])) _
        exact retN X19 hx (t := .boolean) Bd.returns (by simp) (hb hby at_106) hr
      · show Q0 Z i0 i1 i2 h0 n0 _ T19.heap _
        rw [e3]
        exact ⟨rfl, Fr.app (Fr.app (Fr.app (Fr.app N0 N1) N2) N4) N3⟩
set_option maxRecDepth 65536 in
set_option maxHeartbeats 40000000 in
theorem comes_1 {Post : Tables → Env → Array Value → State → Outcome → State → Prop} (hpost : ∀ tb e args s v u, (limb_1_1.after args s (.returned v) u = true ∧ limb_1_2.after args s (.returned v) u = true ∧ True) → FrameEnd s (.returned v) u (Jvm.fieldLocs frame_1_writes args s ++ Jvm.arrayLocs frame_1_arrays args s ++ Jvm.staticLocs frame_1_statics s) 0 0 → Post tb e args s (.returned v) u) :
    ArmFor flags0 classFile x code maxLocals ret World_1 tables_1 room_1 Calls_1 rest_1 Pre_1 Post := by
  intro l hfl _ _ p e ha hc hk s m args below hf hA hF happ hP
  obtain ⟨hcalls, hrest, hpre⟩ := hP
  obtain ⟨-, -, -, hnamed, -, -, -, hat⟩ := (Spec.applies_iff hf).mp happ
  obtain ⟨hg, hn⟩ := and_e (Cond.before_iff.mp (show (Jvm.Cond.and given_1 narrow_1).before args s = true from hpre))
  obtain ⟨h1, g0⟩ := and_e hg
  obtain ⟨a0, g1⟩ := and_e g0
  obtain ⟨a1, g2⟩ := and_e g1
  have a2 := g2
  obtain ⟨w0, w1, w2, rfl⟩ : ∃ w0 w1 w2 : Value, args = #[w0, w1, w2] := by
    have hs : args.size = 3 := by simpa [Cond.value, given_1] using h1
    obtain ⟨L⟩ := args
    match L, hs with
    | [w0, w1, w2], _ => exact ⟨w0, w1, w2, rfl⟩
  have hw := fun d (hd : d ∈ tables_1) => atoms_spec (ws := Jvm.Cond.code x code maxLocals ret :: tables_1) hat d (List.mem_cons_of_mem _ hd)
  have hfit : Fit s := fun {y c} hc i hi => by
    obtain ⟨ha, rfl⟩ := Array.getElem?_eq_some_iff.mp hc
    have q := List.all_eq_true.mp ((Array.all_eq_true_iff_forall_mem.mp hF) _ (Array.getElem_mem ha)) i (List.mem_range.mpr hi)
    simpa [Array.getElem?_eq_getElem hi] using q
  obtain ⟨i0, e0⟩ := is_v a0
  obtain rfl : w0 = (.int i0) := Option.some.inj e0
  obtain ⟨i1, e1⟩ := is_v a1
  obtain rfl : w1 = (.int i1) := Option.some.inj e1
  obtain ⟨i2, e2⟩ := is_v a2
  obtain rfl : w2 = (.int i2) := Option.some.inj e2
  obtain ⟨n, o, h1, h2, h3, _, L, rfl, ⟨rfl, N⟩, hq⟩ := rm0 l s _ hw tables_1 i0 i1 i2 s.heap s.heap.size (Nat.le_refl _) p e ha hc hk s m _ below hf ((Spec.applies_iff_loose hf).mp happ).1 ⟨rfl, State.Warmed39.refl s, rfl⟩ trivial
  refine ⟨n, _, h1, h2, h3, hpost _ _ _ _ _ _ ⟨Cond.after_iff.mpr rfl, Cond.after_iff.mpr (eq_i res_at (Term.int_eval (1)) rfl), trivial⟩ ⟨hq.1, hq.2.1, (hq.2.2.sift fun y hy => Or.inr (N y hy)).mono (by decide) (by decide)⟩⟩
theorem main_1_1 : Claimed_1_1 := comes_1 fun _ _ _ _ _ _ h hF => ⟨h.1, hF⟩
theorem main_1_2 : Claimed_1_2 := comes_1 fun _ _ _ _ _ _ h hF => ⟨h.2.1, hF⟩
end Jvm.Pilot.@@N@@
namespace Jvm.Pilot.@@N@@
open Jvm Jvm.ClassFile Sem Op Lib Jvm.Free Jvm.Stand Jvm.Pilot.@@N@@.Jvm.D
/-! MADE BY PROGRAM (witnessworld.py) out of the Statement's table words and the real class files: 9 classes; the members and pool entries that the words name. The judged class is class 1, her method 1. -/
namespace start1
open Jvm.ClassFile
def u (s : String) : CpInfo := .utf8 (stringToUtf16 s)
/-- a pool by its gaps: so many unusable entries, then the entry; so many at the end -/
def gap : Nat → List CpInfo → List CpInfo
  | 0, r => r
  | n + 1, r => .unusable :: gap n r
def poolList (es : List (Nat × CpInfo)) (last : Nat) : List CpInfo := es.foldr (fun e r => gap e.1 (e.2 :: r)) (gap last [])
def pool (es : List (Nat × CpInfo)) (last : Nat) : Array CpInfo := ⟨poolList es last⟩
def fileOf (pool : Array CpInfo) (this : Nat) (attrs : Array Attribute := #[]) (ms : Array MethodInfo := #[]) (fl : Nat := 33) (sup : Nat := 0) (ifs : Array Nat := #[]) (fds : Array FieldInfo := #[]) : ClassFile where
  minorVersion := 0
  majorVersion := 65
  constantPool := pool
  accessFlags := fl
  thisClass := this
  superClass := sup
  interfaces := ifs
  fields := fds
  methods := ms
  attributes := attrs
def plain (name : String) (sup : Option ClassId) : Class where
  name := name
  kind := .ordinary
  loader := none
  accessFlags := 33
  super := sup
  interfaces := #[]
  cf := none
  fields := #[]
  methods := #[]
  instanceTypes := #[]
  staticTypes := #[]
  resolved := #[]
  callSites := []
  init := .initialized
  statics := none
  mirror := none

def pool0 : Array CpInfo := pool [(5, u "<init>"), (0, u "()V"), (1, .class_ 10), (1, u "java/lang/Object")] 113

def k0m0 : Method := { name := "<init>", desc := "()V", sig := { parameters := [], returnType := none }, accessFlags := 1, code := none }
/-- java/lang/Object -/
def k0 : Class := { plain "java/lang/Object" none with
  accessFlags := 33
  interfaces := #[]
  cf := some (fileOf pool0 8 #[] #[{ accessFlags := 1, nameIndex := 5, descriptorIndex := 6, attributes := #[] }] 33 0 #[] #[])
  fields := #[]
  methods := #[k0m0]
  instanceTypes := #[]
  staticTypes := #[]
  resolved := Array.replicate 124 none
  statics := none }

def pool1 : Array CpInfo := pool [(2, .class_ 4), (1, u "java/lang/Object"), (0, u "<init>"), (0, u "()V"), (0, .methodref 8 9), (0, .class_ 10), (0, .nameAndType 11 12), (0, u "com/example/tight_reach/tightreach/StepPartsHalvingsPinLaw"), (0, u "pow2"), (0, u "(I)D"), (0, .methodref 14 15), (0, .class_ 16), (0, .nameAndType 17 18), (0, u "com/example/tight_reach/tightreach/StepParts"), (0, u "halvings"), (0, u "(DD)I"), (2, u "law"), (0, u "(III)Z")] 3

def k1m0 : Method := { name := "<init>", desc := "()V", sig := { parameters := [], returnType := none }, accessFlags := 1, code := none }
def k1c1 : Code := { maxStack := 6, maxLocals := 10, code := code, exceptionTable := #[], attributes := #[] }
def k1m1 : Method := { name := "law", desc := "(III)Z", sig := { parameters := [.int, .int, .int], returnType := some .boolean }, accessFlags := 9, code := some k1c1 }
def k1c2 : Code := { maxStack := 3, maxLocals := 1, code := method_3_code, exceptionTable := #[], attributes := #[] }
def k1m2 : Method := { name := "pow2", desc := "(I)D", sig := { parameters := [.int], returnType := some .double }, accessFlags := 10, code := some k1c2 }
/-- com/example/tight_reach/tightreach/StepPartsHalvingsPinLaw -/
def k1 : Class := { plain "com/example/tight_reach/tightreach/StepPartsHalvingsPinLaw" (some 0) with
  accessFlags := 49
  interfaces := #[]
  cf := some (fileOf pool1 8 #[] #[{ accessFlags := 1, nameIndex := 5, descriptorIndex := 6, attributes := #[] }, { accessFlags := 9, nameIndex := 21, descriptorIndex := 22, attributes := #[] }, { accessFlags := 10, nameIndex := 11, descriptorIndex := 12, attributes := #[] }] 49 2 #[] #[])
  fields := #[]
  methods := #[k1m0, k1m1, k1m2]
  instanceTypes := #[]
  staticTypes := #[]
  resolved := Array.replicate 26 none
  statics := none }

def pool2 : Array CpInfo := pool [(2, .class_ 4), (1, u "java/lang/Object"), (6, .class_ 13), (1, u "com/example/tight_reach/tightreach/StepParts"), (0, u "doublings"), (0, u "Ljava/util/List;"), (2, u "halvings"), (0, u "(DD)I"), (20, u "part"), (0, u "Lcom/example/tight_reach/tightreach/IntervalMatrix;"), (10, .double 4611686018427387904), (9, u "MOST_HALVINGS"), (0, u "I")] 15

def k2c0 : Code := { maxStack := 4, maxLocals := 7, code := prog_37_method_2_code, exceptionTable := #[], attributes := #[] }
def k2m0 : Method := { name := "halvings", desc := "(DD)I", sig := { parameters := [.double, .double], returnType := some .int }, accessFlags := 8, code := some k2c0 }
/-- com/example/tight_reach/tightreach/StepParts -/
def k2 : Class := { plain "com/example/tight_reach/tightreach/StepParts" (some 0) with
  accessFlags := 48
  interfaces := #[]
  cf := some (fileOf pool2 11 #[] #[{ accessFlags := 8, nameIndex := 18, descriptorIndex := 19, attributes := #[] }] 48 2 #[] #[{ accessFlags := 26, nameIndex := 62, descriptorIndex := 63, attributes := #[] }, { accessFlags := 18, nameIndex := 40, descriptorIndex := 41, attributes := #[] }, { accessFlags := 18, nameIndex := 14, descriptorIndex := 15, attributes := #[] }])
  fields := #[{ name := "MOST_HALVINGS", type := .int, accessFlags := 26, slot := 0, constantValue := 0 }, { name := "part", type := (.object "com/example/tight_reach/tightreach/IntervalMatrix"), accessFlags := 18, slot := 0, constantValue := 0 }, { name := "doublings", type := (.object "java/util/List"), accessFlags := 18, slot := 1, constantValue := 0 }]
  methods := #[k2m0]
  instanceTypes := #[(.object "com/example/tight_reach/tightreach/IntervalMatrix"), (.object "java/util/List")]
  staticTypes := #[.int]
  resolved := Array.replicate 79 none
  statics := none }

def pool3 : Array CpInfo := pool [(1, u "java/lang/Cloneable"), (0, .class_ 1), (0, u "java/lang/Object"), (0, .class_ 3)] 3

/-- java/lang/Cloneable -/
def k3 : Class := { plain "java/lang/Cloneable" (some 0) with
  accessFlags := 1537
  interfaces := #[]
  cf := some (fileOf pool3 2 #[] #[] 1537 4 #[] #[])
  fields := #[]
  methods := #[]
  instanceTypes := #[]
  staticTypes := #[]
  resolved := Array.replicate 8 none
  statics := none }

def pool4 : Array CpInfo := pool [(1, u "java/io/Serializable"), (0, .class_ 1), (0, u "java/lang/Object"), (0, .class_ 3)] 3

/-- java/io/Serializable -/
def k4 : Class := { plain "java/io/Serializable" (some 0) with
  accessFlags := 1537
  interfaces := #[]
  cf := some (fileOf pool4 2 #[] #[] 1537 4 #[] #[])
  fields := #[]
  methods := #[]
  instanceTypes := #[]
  staticTypes := #[]
  resolved := Array.replicate 8 none
  statics := none }

/-- the primitive byte -/
def k5 : Class := { plain "byte" none with kind := .primitive 'B', accessFlags := 0x411 }
/-- [B -/
def k6 : Class := { plain "[B" (some 0) with kind := .array 5 .byte, interfaces := #[3, 4], accessFlags := 1041 }

/-- the primitive int -/
def k7 : Class := { plain "int" none with kind := .primitive 'I', accessFlags := 0x411 }
/-- [I -/
def k8 : Class := { plain "[I" (some 0) with kind := .array 7 .int, interfaces := #[3, 4], accessFlags := 1041 }

def heap : Heap := #[]
def classes : Array Class := #[k0, k1, k2, k3, k4, k5, k6, k7, k8]
def interned : List (Array UInt16 × Addr) := []
def slotsUsed : Nat := 0
def theMethod : MethodId := ⟨1, 1⟩
def args0 : Array Value := #[.int 5, .int 6, .int 3]
def aboutOver (below : List Frame) : State where
  vm := { classes := classes, interned := interned.toArray }
  heap := heap
  slotsUsed := slotsUsed
  threads := #[{ frames := .invoking theMethod args0 :: below }]
def below0 : List Frame := [.native { method := ⟨0, 0⟩, args := #[] }]
def about1 : State := aboutOver below0
def p0 : Program := .bare "" "" ""
def e0 : Env := launch0.env 0 0 0
theorem w_frames : about1.frames = Frame.invoking theMethod args0 :: below0 := rfl
set_option maxRecDepth 65536 in
theorem w_args : argsFit about1.vm theMethod args0 = true := by decide +kernel
set_option maxRecDepth 65536 in
theorem w_heap : heapFits about1 = true := by decide +kernel
set_option maxRecDepth 65536 in
theorem w_runnable : about1.curStatus? = some .runnable := by decide +kernel
set_option maxRecDepth 65536 in
theorem w_alone : about1.alone = true := by decide +kernel
set_option maxRecDepth 65536 in
theorem w_named : about1.methodNamed? x = some theMethod := by decide +kernel
set_option maxRecDepth 65536 in
theorem w_hears : about1.hears theMethod below0 = true := by decide +kernel
set_option maxRecDepth 65536 in
theorem w_ripe : about1.ripe theMethod args0 below0 = true := by decide +kernel
theorem w_running : about1.status = .running := rfl
set_option maxRecDepth 65536 in
theorem w_room : about1.hasRoom e0.platform room_1 = true :=
  launch0.hasRoom_least _ room_1 (by decide +kernel) (by decide +kernel) (by decide +kernel) (by decide +kernel) (by decide +kernel) (by decide +kernel)
theorem allAtoms_all (ts : List Jvm.Cond) (a : Array Jvm.Value) (st : Jvm.State) : (allAtoms ts).before a st = ts.all (fun c => c.before a st) := by
  induction ts with
  | nil => rfl
  | cons c t ih =>
    show (Jvm.Cond.and c (allAtoms t)).before a st = _
    rw [Jvm.Cond.before_and, ih, List.all_cons]
def words1 : List Jvm.Cond := Jvm.Cond.code x code maxLocals ret :: tables_1
/-- a 'code' word, met by the world's own term for the bytes: nothing is compared byte by byte -/
theorem code_word {y : MethodName} {bytes : ByteArray} {mx : Nat} {rt : Option FieldType} {a : Array Value} {s : State} {m : MethodId} {meth : Method} {c : Code} (h1 : s.methodNamed? y = some m) (h2 : s.vm.method? m = some meth) (h3 : meth.code = some c) (h4 : c.code = bytes)
    (h5 : (c.maxLocals == mx && c.exceptionTable.isEmpty && decide (c.maxStack ≤ mostOperands) && decide (meth.sig.returnType = rt) && !meth.locks && decide (parseMethodDescriptor y.desc = some meth.sig)) = true) : (Jvm.Cond.code y bytes mx rt).before a s = true := by
  simp only [Bool.and_eq_true, beq_iff_eq, Bool.not_eq_true', decide_eq_true_eq] at h5
  obtain ⟨⟨⟨⟨⟨g1, g2⟩, g3⟩, g4⟩, g5⟩, g6⟩ := h5
  simp [Cond.before, Cond.holds, Cond.value, h1, h2, h3, h4, g1, g2, g3, g4, g5, g6]
def isCode : Jvm.Cond → Bool
  | .code _ _ _ _ => true
  | _ => false
theorem all_split {L : List Jvm.Cond} {P : Jvm.Cond → Bool} (h1 : L.all (fun c => isCode c || P c) = true) (h2 : ∀ c ∈ L.filter isCode, P c = true) : L.all P = true := by
  refine List.all_eq_true.mpr fun c hc => ?_
  have h := List.all_eq_true.mp h1 c hc
  rcases Bool.eq_false_or_eq_true (isCode c) with hi | hi
  · exact h2 c (List.mem_filter.mpr ⟨hc, hi⟩)
  · simpa [hi] using h
set_option maxRecDepth 65536 in
theorem w_c0 : (Jvm.Cond.code x code maxLocals ret).before args0 about1 = true := code_word (m := ⟨1, 1⟩) (meth := k1m1) (c := k1c1) (by decide +kernel) rfl rfl rfl (by decide +kernel)
set_option maxRecDepth 65536 in
theorem w_c1 : (Jvm.Cond.code ({ cls := "com/example/tight_reach/tightreach/StepPartsHalvingsPinLaw", name := "pow2", desc := "(I)D" } : Jvm.MethodName) method_3_code (1 : Nat) (Option.some Jvm.ClassFile.FieldType.double)).before args0 about1 = true := code_word (m := ⟨1, 2⟩) (meth := k1m2) (c := k1c2) (by decide +kernel) rfl rfl rfl (by decide +kernel)
set_option maxRecDepth 65536 in
theorem w_c2 : (Jvm.Cond.code ({ cls := "com/example/tight_reach/tightreach/StepParts", name := "halvings", desc := "(DD)I" } : Jvm.MethodName) prog_37_method_2_code (7 : Nat) (Option.some Jvm.ClassFile.FieldType.int)).before args0 about1 = true := code_word (m := ⟨2, 0⟩) (meth := k2m0) (c := k2c0) (by decide +kernel) rfl rfl rfl (by decide +kernel)
def codes1 : List Jvm.Cond := [Jvm.Cond.code x code maxLocals ret, Jvm.Cond.code ({ cls := "com/example/tight_reach/tightreach/StepPartsHalvingsPinLaw", name := "pow2", desc := "(I)D" } : Jvm.MethodName) method_3_code (1 : Nat) (Option.some Jvm.ClassFile.FieldType.double), Jvm.Cond.code ({ cls := "com/example/tight_reach/tightreach/StepParts", name := "halvings", desc := "(DD)I" } : Jvm.MethodName) prog_37_method_2_code (7 : Nat) (Option.some Jvm.ClassFile.FieldType.int)]
set_option maxRecDepth 65536 in
theorem codes_eq : words1.filter isCode = codes1 := rfl
theorem w_codes : ∀ c ∈ words1.filter isCode, c.before args0 about1 = true := by
  rw [codes_eq]
  intro c hc
  simp only [codes1, List.mem_cons, List.not_mem_nil, or_false] at hc
  rcases hc with rfl | rfl | rfl
  · exact w_c0
  · exact w_c1
  · exact w_c2
set_option maxRecDepth 65536 in
theorem w_t1 : words1.all (fun c => isCode c || c.before args0 about1) = true := by decide +kernel
theorem w_tables : (allAtoms (Jvm.Cond.code x code maxLocals ret :: tables_1)).before args0 about1 = true := by
  rw [allAtoms_all]
  show words1.all (fun c => c.before args0 about1) = true
  refine all_split ?_ w_codes
  rw [w_t1]
set_option maxRecDepth 65536 in
theorem w_case : (Jvm.Cond.and given_1 narrow_1).before args0 about1 = true := by decide +kernel
theorem w_applies : (headSpec (Jvm.Cond.code x code maxLocals ret :: tables_1) room_1).applies x e0.platform about1 = true :=
  (Spec.applies_iff w_frames).mpr ⟨w_running, w_runnable, w_alone, w_named, w_hears, w_ripe, w_room, w_tables⟩
theorem atStart : AtStart classFile x code maxLocals ret World_1 tables_1 room_1 Calls_1 rest_1 Pre_1 launch0 p0 e0 about1 theMethod args0 below0 :=
  ⟨lists_1, trivial, launch0.admits_env _ _ _, launch0.least_env, fairChoices_fair.cas, fairChoices_fair.clock, w_frames, w_args, w_heap, w_applies, trivial, trivial, w_case⟩
end start1
theorem witness_1 : WitnessClaimed_1 := ⟨start1.p0, start1.e0, start1.about1, start1.theMethod, start1.args0, start1.below0, start1.atStart⟩
end Jvm.Pilot.@@N@@
