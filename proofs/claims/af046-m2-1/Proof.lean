import JvmDerived
import JvmDerived.Pilot.@@N@@Statement
import JvmDerived.Pilot.@@N@@Code
set_option linter.unusedVariables false
set_option linter.unusedSimpArgs false
@@BLOCK:NumsL.lean.txt@@
namespace Jvm.RoadKit
open Sem ClassFile Op Lib Jvm.Stand Jvm.Free Jvm.LawKit
section New
variable {p : Program} {l : Launch} {e : Env} {R : Room} {s : State} {m : MethodId} {args : Array Value} {below : List Frame} {meth : Method} {c : Code} {T : State} {locs : List Loc} {cells slots : Nat}
theorem retI (X : Stand p l e R s m args below meth c T locs cells slots) (hx : p.tables.exec = Jvm.exec) {pc : Nat} {Ls : Array Slot} {z : Int32} {rest : List Value} (hret : meth.sig.returnType = some .int) (hd : decode c.code pc = .ok (.ireturn, 1)) {fs : List Frame}
    (hl : ∀ (f : JFrame) (acts : List Action), f.method = m → f.locked = none → f.entered = [] → (doReturn e (T.setTop f) acts (some (.int z))).1 = T.setFrames fs) : Steps p.tables e below (T.setTop (mkF m pc Ls (.int z :: rest))) (T.setFrames fs) := by
  have hm' : T.vm.method? m = some meth := X.method'
  have hn : narrow .int (.int z) = .int z := rfl
  show Steps p.tables e below (T.setTop { method := m, pc := pc, locals := Ls, stack := _ :: rest, locked := none }) _
  jvm_step X.here [X.here.top, hx, hd, hm', hret, hn]
  first | (intro acts; rw [hl _ acts rfl rfl rfl]) | rw [hl _ _ rfl rfl rfl]
  exact Steps.refl _
theorem retD (X : Stand p l e R s m args below meth c T locs cells slots) (hx : p.tables.exec = Jvm.exec) {pc : Nat} {Ls : Array Slot} {z : UInt64} {rest : List Value} (hret : meth.sig.returnType = some .double) (hd : decode c.code pc = .ok (.dreturn, 1)) {fs : List Frame}
    (hl : ∀ (f : JFrame) (acts : List Action), f.method = m → f.locked = none → f.entered = [] → (doReturn e (T.setTop f) acts (some (.double z))).1 = T.setFrames fs) : Steps p.tables e below (T.setTop (mkF m pc Ls (.double z :: rest))) (T.setFrames fs) := by
  have hm' : T.vm.method? m = some meth := X.method'
  show Steps p.tables e below (T.setTop { method := m, pc := pc, locals := Ls, stack := _ :: rest, locked := none }) _
  jvm_step X.here [X.here.top, hx, hd, hm', hret, narrow]
  first | (intro acts; rw [hl _ acts rfl rfl rfl]) | (refine ⟨meth, hm', ⟨_, hret, rfl⟩, fun acts => ?_⟩; rw [hl _ acts rfl rfl rfl])
  exact Steps.refl _
theorem retA (X : Stand p l e R s m args below meth c T locs cells slots) (hx : p.tables.exec = Jvm.exec) {pc : Nat} {Ls : Array Slot} {v : Value} {rest : List Value} {t : FieldType} (hret : meth.sig.returnType = some t) (ht : t.isReference = true) (hv : v.isRef = true) (hd : decode c.code pc = .ok (.areturn, 1)) {fs : List Frame}
    (hl : ∀ (f : JFrame) (acts : List Action), f.method = m → f.locked = none → f.entered = [] → (doReturn e (T.setTop f) acts (some v)).1 = T.setFrames fs) : Steps p.tables e below (T.setTop (mkF m pc Ls (v :: rest))) (T.setFrames fs) := by
  have hm' : T.vm.method? m = some meth := X.method'
  show Steps p.tables e below (T.setTop { method := m, pc := pc, locals := Ls, stack := _ :: rest, locked := none }) _
  jvm_step X.here [X.here.top, hx, hd, hm', hret, hv, ht]
  first | (intro acts; rw [hl _ acts rfl rfl rfl]) | (refine ⟨meth, hm', ⟨_, hret, rfl⟩, fun acts => ?_⟩; rw [hl _ acts rfl rfl rfl])
  exact Steps.refl _
end New
end Jvm.RoadKit
namespace Jvm.OwnF
open Jvm.FP.Core
/-- x is a finite double, of the value M * 2^(e - 1074), exactly -/
def DV (x : UInt64) (M : Int) (e : Nat) : Prop := ∃ s c q, val64 x = .fin s c q ∧ signed s (c * 2 ^ (q + 1074).toNat) = M * ((2 ^ e : Nat) : Int)
theorem DV.dfin {x : UInt64} {M : Int} {e : Nat} (h : DV x M e) : DFin x := by obtain ⟨s, c, q, h, -⟩ := h; exact ⟨s, c, q, h⟩
theorem DV.fin {x : UInt64} {M : Int} {e : Nat} (h : DV x M e) : Jvm.Free.Fl.Fin64 x := Jvm.Free.Fl.fin64_core.mpr h.dfin
theorem DV.noNaN {x : UInt64} {M : Int} {e : Nat} (h : DV x M e) : Jvm.Free.Fl.NoNaN64 x := h.fin.noNaN
theorem qmax_b64 : b64.qmax = 971 := by decide
theorem zv (s : Bool) (c : Nat) (q : Int) : zval b64 (.fin s c q) = signed s (c * 2 ^ (q + 1074).toNat) := by
  show signed s (inUnits c q b64.qmin) = _
  unfold inUnits
  rw [qmin_b64, Int.sub_neg]
theorem two_pow_int (n : Nat) : (0 : Int) < ((2 ^ n : Nat) : Int) := Int.natCast_pos.mpr (Nat.two_pow_pos n)
/-- powers of two on both sides, cancelled -/
theorem cancel {A B x y : Nat} (h : A * 2 ^ x = B * 2 ^ y) : A * 2 ^ ((x : Int) - (y : Int)).toNat = B * 2 ^ ((y : Int) - (x : Int)).toNat := by
  rcases Nat.le_total x y with hl | hl
  · have e1 : ((x : Int) - (y : Int)).toNat = 0 := by omega
    have e2 : ((y : Int) - (x : Int)).toNat = y - x := by omega
    rw [e1, e2]
    have h2 : 2 ^ y = 2 ^ (y - x) * 2 ^ x := by rw [← Nat.pow_add]; congr 1; omega
    rw [h2, ← Nat.mul_assoc] at h
    rw [Nat.eq_of_mul_eq_mul_right (Nat.two_pow_pos x) h]; simp
  · have e1 : ((x : Int) - (y : Int)).toNat = x - y := by omega
    have e2 : ((y : Int) - (x : Int)).toNat = 0 := by omega
    rw [e1, e2]
    have h2 : 2 ^ x = 2 ^ (x - y) * 2 ^ y := by rw [← Nat.pow_add]; congr 1; omega
    rw [h2, ← Nat.mul_assoc] at h
    rw [Nat.eq_of_mul_eq_mul_right (Nat.two_pow_pos y) h]; simp
/-- a magnitude that the format holds is rounded to itself; k: the places by which it is moved up -/
theorem round_at {s : Bool} {c N e k : Nat} {q : Int} (hN : N * 2 ^ k < 2 ^ 53) (hk : k ≤ e) (he : e ≤ 2045 + k) (h : c * 2 ^ (q - ((e : Int) - 1074)).toNat = N * 2 ^ (((e : Int) - 1074) - q).toNat) :
    ∃ c' q', round b64 (.fin s c q) = .fin s c' q' ∧ c' * 2 ^ (q' + 1074).toNat = N * 2 ^ e := by
  have h1 : round b64 (.fin s c q) = round b64 (.fin s N ((e : Int) - 1074)) :=
    roundRatio_congr (by decide) (by decide) (by rw [Nat.mul_one, Nat.mul_one]; exact h)
  have h2 : round b64 (.fin s N ((e : Int) - 1074)) = round b64 (.fin s (N * 2 ^ k) ((e : Int) - 1074 - k)) := by
    refine roundRatio_congr (by decide) (by decide) ?_
    have e1 : ((e : Int) - 1074 - (e - 1074 - k)).toNat = k := by omega
    have e2 : ((e : Int) - 1074 - k - (e - 1074)).toNat = 0 := by omega
    rw [e1, e2]; simp
  obtain ⟨c', q', hr, hu⟩ := round_exact good_b64 s (c := N * 2 ^ k) (q := (e : Int) - 1074 - k) hN (by rw [qmin_b64]; omega) (by rw [qmax_b64]; omega)
  refine ⟨c', q', by rw [h1, h2, hr], ?_⟩
  unfold inUnits at hu
  rw [qmin_b64, Int.sub_neg, Int.sub_neg, show ((e : Int) - 1074 - k + 1074).toNat = e - k by omega] at hu
  rw [hu, Nat.mul_assoc, ← Nat.pow_add]; congr 2; omega
theorem abs_of {s : Bool} {A : Nat} {M : Int} {e : Nat} (h : signed s A = M * ((2 ^ e : Nat) : Int)) : A = M.natAbs * 2 ^ e := by
  have := congrArg Int.natAbs h
  rwa [natAbs_signed, Int.natAbs_mul, Int.natAbs_natCast] at this
theorem sign_of {s : Bool} {A : Nat} {M : Int} {e : Nat} (h : signed s A = M * ((2 ^ e : Nat) : Int)) : signed s M.natAbs = M := by
  have ha := abs_of h
  rw [ha, signed_mul] at h
  exact Int.eq_of_mul_eq_mul_right (Int.ne_of_gt (two_pow_int e)) h
theorem q_low {x : UInt64} {s : Bool} {c : Nat} {q : Int} (h : val64 x = .fin s c q) : -1074 ≤ q := by
  have := val64_fits x
  rw [h] at this
  have h2 := this.2.1
  rw [qmin_b64] at h2; exact h2
theorem dmul_v {x y : UInt64} {M N : Int} {e f : Nat} (k g : Nat) (hx : DV x M e) (hy : DV y N f) (hg : g + 1074 = e + f) (hb : (M * N).natAbs * 2 ^ k < 2 ^ 53) (hk : k ≤ g) (he : g ≤ 2045 + k) : DV (FP.dmul x y) (M * N) g := by
  obtain ⟨s, c, q, hv, hz⟩ := hx
  obtain ⟨t, d, r, hw, hu⟩ := hy
  have q1 := q_low hv
  have r1 := q_low hw
  have a1 := abs_of hz
  have a2 := abs_of hu
  have hp : c * d * 2 ^ ((q + 1074).toNat + (r + 1074).toNat) = (M * N).natAbs * 2 ^ (e + f) := by
    rw [Nat.pow_add, Nat.pow_add, Int.natAbs_mul]
    calc c * d * (2 ^ (q + 1074).toNat * 2 ^ (r + 1074).toNat) = (c * 2 ^ (q + 1074).toNat) * (d * 2 ^ (r + 1074).toNat) := by ac_rfl
      _ = (M.natAbs * 2 ^ e) * (N.natAbs * 2 ^ f) := by rw [a1, a2]
      _ = M.natAbs * N.natAbs * (2 ^ e * 2 ^ f) := by ac_rfl
  have hc := cancel hp
  have hval : val64 (FP.dmul x y) = round b64 (.fin (s != t) (c * d) (q + r)) := by
    rw [show val64 (FP.dmul x y) = round b64 (exactProduct (val64 x) (val64 y)) from val64_dmul x y, hv, hw]; rfl
  obtain ⟨c', q', hr, hn⟩ := round_at (s := s != t) (c := c * d) (q := q + r) (N := (M * N).natAbs) (e := g) (k := k) hb hk he (by
    have e1 : (q + r - ((g : Int) - 1074)).toNat = (((q + 1074).toNat + (r + 1074).toNat : Nat) - ((e + f : Nat) : Int)).toNat := by congr 1; omega
    have e2 : ((g : Int) - 1074 - (q + r)).toNat = (((e + f : Nat) : Int) - ((q + 1074).toNat + (r + 1074).toNat : Nat)).toNat := by congr 1; omega
    rw [e1, e2]; exact hc)
  refine ⟨s != t, c', q', by rw [hval, hr], ?_⟩
  rw [hn, signed_mul, Int.natAbs_mul, signed_xor, sign_of hz, sign_of hu]
theorem ddiv_v {x y : UInt64} {M : Int} {e f : Nat} (k g : Nat) (hx : DV x M e) (hy : DV y 1 f) (hg : g + f = e + 1074) (hb : M.natAbs * 2 ^ k < 2 ^ 53) (hk : k ≤ g) (he : g ≤ 2045 + k) : DV (FP.ddiv x y) M g := by
  obtain ⟨s, c, q, hv, hz⟩ := hx
  obtain ⟨t, d, r, hw, hu⟩ := hy
  have q1 := q_low hv
  have r1 := q_low hw
  have a1 := abs_of hz
  have a2 := abs_of hu
  have a3 : d * 2 ^ (r + 1074).toNat = 2 ^ f := by rw [a2]; simp
  have hd : d ≠ 0 := by
    intro h0; rw [h0, Nat.zero_mul] at a3; have := Nat.two_pow_pos f; omega
  have hval : val64 (FP.ddiv x y) = roundRatio b64 (s != t) c d (q - r) := by
    rw [show val64 (FP.ddiv x y) = quotient b64 (val64 x) (val64 y) from val64_ddiv x y, hv, hw]
    show (if d = 0 then _ else _) = _
    rw [if_neg hd]
  have hp : c * 2 ^ ((q + 1074).toNat + f) = M.natAbs * d * 2 ^ (e + (r + 1074).toNat) := by
    rw [Nat.pow_add, Nat.pow_add, ← a3]
    calc c * (2 ^ (q + 1074).toNat * (d * 2 ^ (r + 1074).toNat)) = (c * 2 ^ (q + 1074).toNat) * (d * 2 ^ (r + 1074).toNat) := by ac_rfl
      _ = (M.natAbs * 2 ^ e) * (d * 2 ^ (r + 1074).toNat) := by rw [a1]
      _ = M.natAbs * d * (2 ^ e * 2 ^ (r + 1074).toNat) := by ac_rfl
  have hc := cancel hp
  have h1 : roundRatio b64 (s != t) c d (q - r) = round b64 (.fin (s != t) M.natAbs ((g : Int) - 1074)) := by
    refine roundRatio_congr (by omega) (by decide) ?_
    have e1 : (q - r - ((g : Int) - 1074)).toNat = (((q + 1074).toNat + f : Nat) - ((e + (r + 1074).toNat : Nat) : Int)).toNat := by congr 1; omega
    have e2 : ((g : Int) - 1074 - (q - r)).toNat = (((e + (r + 1074).toNat : Nat) : Int) - ((q + 1074).toNat + f : Nat)).toNat := by congr 1; omega
    rw [e1, e2, Nat.mul_one]; exact hc
  obtain ⟨c', q', hr, hn⟩ := round_at (s := s != t) (c := M.natAbs) (q := (g : Int) - 1074) (N := M.natAbs) (e := g) (k := k) hb hk he rfl
  refine ⟨s != t, c', q', by rw [hval, h1, hr], ?_⟩
  have ht : signed t 1 = 1 := sign_of hu
  rw [hn, signed_mul]
  have := signed_xor s t M.natAbs 1
  rw [Nat.mul_one, ht, Int.mul_one, sign_of hz] at this
  rw [this]
theorem dadd_v {x y : UInt64} {M N : Int} {e : Nat} (k : Nat) (hx : DV x M e) (hy : DV y N e) (hb : (M + N).natAbs * 2 ^ k < 2 ^ 53) (hk : k ≤ e) (he : e ≤ 2045 + k) : DV (FP.dadd x y) (M + N) e := by
  obtain ⟨s, c, q, hv, hz⟩ := hx
  obtain ⟨t, d, r, hw, hu⟩ := hy
  have f1 := val64_fits x
  have f2 := val64_fits y
  rw [hv] at f1
  rw [hw] at f2
  obtain ⟨sg, n, e0, hs, hq, hsum⟩ := sum_units f1 f2
  rw [zv, zv, hz, hu, ← Int.add_mul] at hsum
  unfold inUnits at hsum
  rw [qmin_b64] at hq
  rw [qmin_b64, Int.sub_neg] at hsum
  have hval : val64 (FP.dadd x y) = round b64 (.fin sg n e0) := by
    rw [show val64 (FP.dadd x y) = round b64 (exactSum (val64 x) (val64 y)) from val64_dadd x y, hv, hw, hs]
  have hc := cancel (abs_of hsum)
  obtain ⟨c', q', hr, hn⟩ := round_at (s := sg) (c := n) (q := e0) (N := (M + N).natAbs) (e := e) (k := k) hb hk he (by
    have e1 : (e0 - ((e : Int) - 1074)).toNat = (((e0 + 1074).toNat : Int) - (e : Int)).toNat := by congr 1; omega
    have e2 : ((e : Int) - 1074 - e0).toNat = ((e : Int) - ((e0 + 1074).toNat : Int)).toNat := by congr 1; omega
    rw [e1, e2]; exact hc)
  refine ⟨sg, c', q', by rw [hval, hr], ?_⟩
  rw [hn, signed_mul, sign_of hsum]
theorem DV.zval {x : UInt64} {M : Int} {e : Nat} (h : DV x M e) : zval b64 (val64 x) = M * ((2 ^ e : Nat) : Int) := by
  obtain ⟨s, c, q, hv, hz⟩ := h
  rw [hv, zv, hz]
theorem DV.nn {x : UInt64} {M : Int} {e : Nat} (h : DV x M e) : val64 x ≠ .nan := by
  obtain ⟨s, c, q, hv, -⟩ := h
  rw [hv]; exact Datum.noConfusion
theorem dcmp_v {x y : UInt64} {M N : Int} {e f : Nat} (hx : DV x M e) (hy : DV y N f) : FP.dcmp x y = some (compare (M * ((2 ^ e : Nat) : Int)) (N * ((2 ^ f : Nat) : Int))) := by
  rw [← hx.zval, ← hy.zval]
  exact order_zval good_b64 (val64_fits x) (val64_fits y) hx.nn hy.nn
theorem DV.eq {x : UInt64} {M N : Int} {e f : Nat} (h : DV x M e) (q : M * ((2 ^ e : Nat) : Int) = N * ((2 ^ f : Nat) : Int)) : DV x N f := by
  obtain ⟨s, c, q, hv, hz⟩ := h
  exact ⟨s, c, q, hv, by rw [hz]; assumption⟩
theorem DV.of_int {x : UInt64} {i : Int} (h : DInt i x) : DV x i 1074 := by
  unfold DInt at h
  have hf := val64_fits x
  generalize hv : val64 x = d at h hf
  cases d with
  | nan => exact h.elim
  | inf s => exact h.elim
  | fin s c q =>
    have hq : -1074 ≤ q := by have := hf.2.1; rw [qmin_b64] at this; exact this
    refine ⟨s, c, q, hv, ?_⟩
    have h' : signed s (c * 2 ^ q.toNat) = i * ((2 ^ (-q).toNat : Nat) : Int) := h
    rcases Int.le_total 0 q with h0 | h0
    · have e1 : (-q).toNat = 0 := by omega
      have e2 : (q + 1074).toNat = q.toNat + 1074 := by omega
      rw [e1] at h'
      rw [e2, Nat.pow_add, ← Nat.mul_assoc, signed_mul, h']; simp
    · have e1 : q.toNat = 0 := by omega
      rw [e1, Nat.pow_zero, Nat.mul_one] at h'
      rw [signed_mul, h', Int.mul_assoc, ← Int.natCast_mul, ← Nat.pow_add, show (-q).toNat + (q + 1074).toNat = 1074 by omega]
theorem i2d_v (a : Int32) : DV (FP.i2d a) a.toInt 1074 := DV.of_int (i2d_int a)
theorem l2d_v {a : Int64} (h : a.toInt.natAbs ≤ 2 ^ 53) : DV (FP.l2d a) a.toInt 1074 := DV.of_int (l2d_int h)
theorem compare_lt {a b : Int} (h : a < b) : compare a b = .lt := by rw [compare_ite, if_pos h]
theorem compare_eq {a b : Int} (h : a = b) : compare a b = .eq := by rw [compare_ite, if_neg (by omega), if_pos h]
theorem compare_gt {a b : Int} (h : b < a) : compare a b = .gt := by rw [compare_ite, if_neg (by omega), if_neg (by omega)]
/-- what dcmpl and dcmpg push, of two finite doubles -/
theorem cmp_lt {x y : UInt64} {M N : Int} {e f : Nat} (hx : DV x M e) (hy : DV y N f) (o : Jvm.ClassFile.CmpOp) (h : M * ((2 ^ e : Nat) : Int) < N * ((2 ^ f : Nat) : Int)) : Jvm.Op.cmpValue (FP.dcmp x y) o = -1 := by
  rw [dcmp_v hx hy, compare_lt h]; rfl
theorem cmp_eq {x y : UInt64} {M N : Int} {e f : Nat} (hx : DV x M e) (hy : DV y N f) (o : Jvm.ClassFile.CmpOp) (h : M * ((2 ^ e : Nat) : Int) = N * ((2 ^ f : Nat) : Int)) : Jvm.Op.cmpValue (FP.dcmp x y) o = 0 := by
  rw [dcmp_v hx hy, compare_eq h]; rfl
theorem cmp_gt {x y : UInt64} {M N : Int} {e f : Nat} (hx : DV x M e) (hy : DV y N f) (o : Jvm.ClassFile.CmpOp) (h : N * ((2 ^ f : Nat) : Int) < M * ((2 ^ e : Nat) : Int)) : Jvm.Op.cmpValue (FP.dcmp x y) o = 1 := by
  rw [dcmp_v hx hy, compare_gt h]; rfl
theorem cmp_ngt {x y : UInt64} {M N : Int} {e f : Nat} (hx : DV x M e) (hy : DV y N f) (o : Jvm.ClassFile.CmpOp) (h : ¬ N * ((2 ^ f : Nat) : Int) < M * ((2 ^ e : Nat) : Int)) : ¬ 0 < Jvm.Op.cmpValue (FP.dcmp x y) o := by
  rcases Int.lt_trichotomy (M * ((2 ^ e : Nat) : Int)) (N * ((2 ^ f : Nat) : Int)) with q | q | q
  · rw [cmp_lt hx hy o q]; decide
  · rw [cmp_eq hx hy o q]; decide
  · exact absurd q h
theorem cmp_nlt {x y : UInt64} {M N : Int} {e f : Nat} (hx : DV x M e) (hy : DV y N f) (o : Jvm.ClassFile.CmpOp) (h : ¬ M * ((2 ^ e : Nat) : Int) < N * ((2 ^ f : Nat) : Int)) : ¬ Jvm.Op.cmpValue (FP.dcmp x y) o < 0 := by
  rcases Int.lt_trichotomy (M * ((2 ^ e : Nat) : Int)) (N * ((2 ^ f : Nat) : Int)) with q | q | q
  · exact absurd q h
  · rw [cmp_eq hx hy o q]; decide
  · rw [cmp_gt hx hy o q]; decide
/-- rounding keeps the order with a double: a product that is no smaller than c, no greater than c -/
theorem prod_fin {x y : UInt64} {M N : Int} {e f : Nat} (hx : DV x M e) (hy : DV y N f) : ∃ s c q, val64 (FP.dmul x y) = round b64 (.fin s c q) ∧ -2148 ≤ q ∧ signed s (inUnits c q (-2148)) = (M * ((2 ^ e : Nat) : Int)) * (N * ((2 ^ f : Nat) : Int)) := by
  have zx := hx.zval
  have zy := hy.zval
  obtain ⟨s, c, q, hv, -⟩ := hx
  obtain ⟨t, d, r, hw, -⟩ := hy
  have f1 := val64_fits x
  have f2 := val64_fits y
  rw [hv] at f1 zx
  rw [hw] at f2 zy
  obtain ⟨h1, h2, h3⟩ := product_units f1 f2
  rw [qmin_b64] at h2 h3
  refine ⟨s != t, c * d, q + r, ?_, h2, ?_⟩
  · rw [show val64 (FP.dmul x y) = round b64 (exactProduct (val64 x) (val64 y)) from val64_dmul x y, hv, hw, h1]
  · rw [show (-2148 : Int) = 2 * -1074 from rfl, h3, signed_xor]
    unfold zval at zx zy
    rw [← zx, ← zy]; rfl
theorem dmul_ge {x y c : UInt64} {M N K : Int} {e f g : Nat} (hx : DV x M e) (hy : DV y N f) (hc : DV c K g) (h : K * ((2 ^ g : Nat) : Int) * ((2 ^ 1074 : Nat) : Int) ≤ (M * ((2 ^ e : Nat) : Int)) * (N * ((2 ^ f : Nat) : Int))) : zval b64 (val64 c) ≤ zval b64 (val64 (FP.dmul x y)) := by
  obtain ⟨s, d, q, hv, hq, hs⟩ := prod_fin hx hy
  rw [hv]
  refine zval_round_ge good_b64 (e0 := -2148) (val64_fits c) hc.nn (by rw [qmin_b64]; decide) hq ?_
  rw [hs, hc.zval, qmin_b64]; exact h
theorem dmul_le {x y c : UInt64} {M N K : Int} {e f g : Nat} (hx : DV x M e) (hy : DV y N f) (hc : DV c K g) (h : (M * ((2 ^ e : Nat) : Int)) * (N * ((2 ^ f : Nat) : Int)) ≤ K * ((2 ^ g : Nat) : Int) * ((2 ^ 1074 : Nat) : Int)) : zval b64 (val64 (FP.dmul x y)) ≤ zval b64 (val64 c) := by
  obtain ⟨s, d, q, hv, hq, hs⟩ := prod_fin hx hy
  rw [hv]
  refine zval_round_le good_b64 (e0 := -2148) (val64_fits c) hc.nn (by rw [qmin_b64]; decide) hq ?_
  rw [hs, hc.zval, qmin_b64]; exact h
theorem cmp_z {x y : UInt64} (hx : Jvm.Free.Fl.NoNaN64 x) (hy : Jvm.Free.Fl.NoNaN64 y) : FP.dcmp x y = some (compare (zval b64 (val64 x)) (zval b64 (val64 y))) :=
  order_zval good_b64 (val64_fits x) (val64_fits y) (Jvm.Free.Fl.val64_no.mp hx) (Jvm.Free.Fl.val64_no.mp hy)
theorem cmp_zge {x y : UInt64} (hx : Jvm.Free.Fl.NoNaN64 x) (hy : Jvm.Free.Fl.NoNaN64 y) (o : Jvm.ClassFile.CmpOp) (h : zval b64 (val64 y) ≤ zval b64 (val64 x)) : ¬ Jvm.Op.cmpValue (FP.dcmp x y) o < 0 := by
  rw [cmp_z hx hy]
  rcases Int.lt_or_eq_of_le h with q | q
  · rw [compare_gt q]; cases o <;> decide
  · rw [compare_eq q.symm]; cases o <;> decide
theorem cmp_zlt {x y : UInt64} (hx : Jvm.Free.Fl.NoNaN64 x) (hy : Jvm.Free.Fl.NoNaN64 y) (o : Jvm.ClassFile.CmpOp) (h : zval b64 (val64 x) < zval b64 (val64 y)) : Jvm.Op.cmpValue (FP.dcmp x y) o < 0 := by
  rw [cmp_z hx hy, compare_lt h]; cases o <;> decide
theorem inf_mul {y : UInt64} {M : Int} {e : Nat} (hy : DV y M e) (hM : 0 < M) : FP.dmul 9218868437227405312 y = 9218868437227405312 := by
  have hi : val64 9218868437227405312 = .inf false := by decide +kernel
  obtain ⟨t, d, r, hw, hz⟩ := hy
  have hs := sign_of hz
  have ha := abs_of hz
  have ht : t = false := by
    cases t with
    | false => rfl
    | true => simp [signed] at hs; omega
  have hd : d ≠ 0 := by
    intro h0; rw [h0, Nat.zero_mul] at ha
    have h1 := Nat.mul_pos (show 0 < M.natAbs by omega) (Nat.two_pow_pos e)
    omega
  have hv : val64 (FP.dmul 9218868437227405312 y) = .inf false := by
    rw [show val64 (FP.dmul 9218868437227405312 y) = round b64 (exactProduct (val64 9218868437227405312) (val64 y)) from val64_dmul _ _, hi, hw, ht]
    show round b64 (if d = 0 then _ else _) = _
    rw [if_neg hd]; rfl
  exact val64_inj (by rw [hv]; exact Datum.noConfusion) (hv.trans hi.symm)
theorem mul_inf {y : UInt64} {M : Int} {e : Nat} (hy : DV y M e) (hM : 0 < M) : FP.dmul y 9218868437227405312 = 9218868437227405312 := by
  rw [show FP.dmul y 9218868437227405312 = FP.dmul 9218868437227405312 y from dmul_comm _ _]; exact inf_mul hy hM
end Jvm.OwnF
namespace Jvm.Pilot.@@N@@
open Jvm Jvm.ClassFile Sem Op Lib Jvm.Free Jvm.Stand Jvm.LawKit Jvm.RoadKit Bundle Jvm.Pilot.@@N@@.Jvm.D
theorem d69_0 : decode jdk_29_method_69_code 0 = .ok (.iload_n 0, 1) := by decide +kernel
theorem d69_1 : decode jdk_29_method_69_code 1 = .ok (.iload_n 1, 1) := by decide +kernel
theorem d69_2 : decode jdk_29_method_69_code 2 = .ok (.if_icmp .gt 7, 3) := by decide +kernel
theorem d69_5 : decode jdk_29_method_69_code 5 = .ok (.iload_n 0, 1) := by decide +kernel
theorem d69_6 : decode jdk_29_method_69_code 6 = .ok (.goto 4, 3) := by decide +kernel
theorem d69_9 : decode jdk_29_method_69_code 9 = .ok (.iload_n 1, 1) := by decide +kernel
theorem d69_10 : decode jdk_29_method_69_code 10 = .ok (.ireturn, 1) := by decide +kernel
theorem d65_0 : decode jdk_29_method_65_code 0 = .ok (.iload_n 0, 1) := by decide +kernel
theorem d65_1 : decode jdk_29_method_65_code 1 = .ok (.iload_n 1, 1) := by decide +kernel
theorem d65_2 : decode jdk_29_method_65_code 2 = .ok (.if_icmp .lt 7, 3) := by decide +kernel
theorem d65_5 : decode jdk_29_method_65_code 5 = .ok (.iload_n 0, 1) := by decide +kernel
theorem d65_6 : decode jdk_29_method_65_code 6 = .ok (.goto 4, 3) := by decide +kernel
theorem d65_9 : decode jdk_29_method_65_code 9 = .ok (.iload_n 1, 1) := by decide +kernel
theorem d65_10 : decode jdk_29_method_65_code 10 = .ok (.ireturn, 1) := by decide +kernel
theorem d30_0 : decode jdk_30_method_1_code 0 = .ok (.aload_n 0, 1) := by decide +kernel
theorem d30_1 : decode jdk_30_method_1_code 1 = .ok (.invokespecial 1, 3) := by decide +kernel
theorem d30_4 : decode jdk_30_method_1_code 4 = .ok (.return_, 1) := by decide +kernel
theorem d117_0 : decode jdk_117_method_8_code 0 = .ok (.dload_n 0, 1) := by decide +kernel
theorem d117_1 : decode jdk_117_method_8_code 1 = .ok (.invokestatic 38, 3) := by decide +kernel
theorem d117_4 : decode jdk_117_method_8_code 4 = .ok (.ldc2_w 111, 3) := by decide +kernel
theorem d117_7 : decode jdk_117_method_8_code 7 = .ok (.dcmp .g, 1) := by decide +kernel
theorem d117_8 : decode jdk_117_method_8_code 8 = .ok (.ifCond .gt 7, 3) := by decide +kernel
theorem d117_11 : decode jdk_117_method_8_code 11 = .ok (.iconst 1, 1) := by decide +kernel
theorem d117_12 : decode jdk_117_method_8_code 12 = .ok (.goto 4, 3) := by decide +kernel
theorem d117_16 : decode jdk_117_method_8_code 16 = .ok (.ireturn, 1) := by decide +kernel
theorem d8_0 : decode prog_8_method_1_code 0 = .ok (.aload_n 0, 1) := by decide +kernel
theorem d8_1 : decode prog_8_method_1_code 1 = .ok (.invokespecial 1, 3) := by decide +kernel
theorem d8_4 : decode prog_8_method_1_code 4 = .ok (.dload_n 1, 1) := by decide +kernel
theorem d8_5 : decode prog_8_method_1_code 5 = .ok (.invokestatic 7, 3) := by decide +kernel
theorem d8_8 : decode prog_8_method_1_code 8 = .ok (.ifCond .eq 10, 3) := by decide +kernel
theorem d8_11 : decode prog_8_method_1_code 11 = .ok (.dload_n 3, 1) := by decide +kernel
theorem d8_12 : decode prog_8_method_1_code 12 = .ok (.invokestatic 7, 3) := by decide +kernel
theorem d8_15 : decode prog_8_method_1_code 15 = .ok (.ifCond .ne 18, 3) := by decide +kernel
theorem d8_33 : decode prog_8_method_1_code 33 = .ok (.dload_n 1, 1) := by decide +kernel
theorem d8_34 : decode prog_8_method_1_code 34 = .ok (.dload_n 3, 1) := by decide +kernel
theorem d8_35 : decode prog_8_method_1_code 35 = .ok (.dcmp .l, 1) := by decide +kernel
theorem d8_36 : decode prog_8_method_1_code 36 = .ok (.ifCond .le 15, 3) := by decide +kernel
theorem d8_51 : decode prog_8_method_1_code 51 = .ok (.dload_n 1, 1) := by decide +kernel
theorem d8_52 : decode prog_8_method_1_code 52 = .ok (.dconst 0, 1) := by decide +kernel
theorem d8_53 : decode prog_8_method_1_code 53 = .ok (.dadd, 1) := by decide +kernel
theorem d8_54 : decode prog_8_method_1_code 54 = .ok (.dstore_n 1, 1) := by decide +kernel
theorem d8_55 : decode prog_8_method_1_code 55 = .ok (.dload_n 3, 1) := by decide +kernel
theorem d8_56 : decode prog_8_method_1_code 56 = .ok (.dconst 0, 1) := by decide +kernel
theorem d8_57 : decode prog_8_method_1_code 57 = .ok (.dadd, 1) := by decide +kernel
theorem d8_58 : decode prog_8_method_1_code 58 = .ok (.dstore_n 3, 1) := by decide +kernel
theorem d8_59 : decode prog_8_method_1_code 59 = .ok (.aload_n 0, 1) := by decide +kernel
theorem d8_60 : decode prog_8_method_1_code 60 = .ok (.dload_n 1, 1) := by decide +kernel
theorem d8_61 : decode prog_8_method_1_code 61 = .ok (.putfield 32, 3) := by decide +kernel
theorem d8_64 : decode prog_8_method_1_code 64 = .ok (.aload_n 0, 1) := by decide +kernel
theorem d8_65 : decode prog_8_method_1_code 65 = .ok (.dload_n 3, 1) := by decide +kernel
theorem d8_66 : decode prog_8_method_1_code 66 = .ok (.putfield 36, 3) := by decide +kernel
theorem d8_69 : decode prog_8_method_1_code 69 = .ok (.return_, 1) := by decide +kernel
theorem d88_0 : decode prog_8_method_8_code 0 = .ok (.aload_n 0, 1) := by decide +kernel
theorem d88_1 : decode prog_8_method_8_code 1 = .ok (.getfield 32, 3) := by decide +kernel
theorem d88_4 : decode prog_8_method_8_code 4 = .ok (.ldc2_w 85, 3) := by decide +kernel
theorem d88_7 : decode prog_8_method_8_code 7 = .ok (.dmul, 1) := by decide +kernel
theorem d88_8 : decode prog_8_method_8_code 8 = .ok (.aload_n 0, 1) := by decide +kernel
theorem d88_9 : decode prog_8_method_8_code 9 = .ok (.getfield 36, 3) := by decide +kernel
theorem d88_12 : decode prog_8_method_8_code 12 = .ok (.ldc2_w 85, 3) := by decide +kernel
theorem d88_15 : decode prog_8_method_8_code 15 = .ok (.dmul, 1) := by decide +kernel
theorem d88_16 : decode prog_8_method_8_code 16 = .ok (.dadd, 1) := by decide +kernel
theorem d88_17 : decode prog_8_method_8_code 17 = .ok (.dreturn, 1) := by decide +kernel
theorem pn0 : plainName "com/example/tight_reach/tightreach/Interval" = true := by first | (simp [plainName, overriddenIn]; done) | decide +kernel
theorem pn1 : plainName "com/example/tight_reach/tightreach/IntervalMidpointPinLaw" = true := by first | (simp [plainName, overriddenIn]; done) | decide +kernel
theorem pd0 : parseMethodDescriptor "(D)D" = some ⟨[.double], some .double⟩ := by decide +kernel
theorem pd1 : parseMethodDescriptor "()V" = some ⟨[], none⟩ := by decide +kernel
theorem pd2 : parseMethodDescriptor "(D)Z" = some ⟨[.double], some .boolean⟩ := by decide +kernel
theorem pd3 : parseMethodDescriptor "(II)I" = some ⟨[.int, .int], some .int⟩ := by decide +kernel
theorem pd4 : parseMethodDescriptor "(DD)V" = some ⟨[.double, .double], none⟩ := by decide +kernel
theorem pd5 : parseMethodDescriptor "()D" = some ⟨[], some .double⟩ := by decide +kernel
open Jvm.OwnF Jvm.FP.Core
theorem own_p : DV 4886405595696988160 1 1136 := ⟨false, 2 ^ 52, 10, by decide +kernel, by decide +kernel⟩
theorem own_1 : DV 4607182418800017408 1 1074 := ⟨false, 2 ^ 52, -52, by decide +kernel, by decide +kernel⟩
theorem own_half : DV 4602678819172646912 1 1073 := ⟨false, 2 ^ 52, -53, by decide +kernel, by decide +kernel⟩
theorem own_z (e : Nat) : DV 0 0 e := ⟨false, 0, -1074, by decide +kernel, by rw [Int.zero_mul]; decide +kernel⟩
theorem own_cl {M N : Int} {e : Nat} (h : N * ((2 ^ e : Nat) : Int) < M * ((2 ^ e : Nat) : Int)) : N < M := Int.lt_of_mul_lt_mul_right h (Int.le_of_lt (two_pow_int e))
theorem own_absle {b : UInt64} (h : Jvm.Free.Fl.Fin64 b) : ¬ 0 < cmpValue (FP.dcmp (b &&& 0x7fffffffffffffff) 9218868437227405311) .g := by
  have q := (Jvm.Free.Fl.le_max_iff h.noNaN).mpr h
  revert q
  show Jvm.Free.Fl.relLe (FP.dcmp (b &&& 0x7fffffffffffffff) 9218868437227405311) = true → _
  generalize FP.dcmp (b &&& 0x7fffffffffffffff) 9218868437227405311 = r
  revert r
  intro r
  rcases r with _ | (_ | _ | _) <;> decide
theorem own_minmax (i0 i1 : Int32) : (if i1 < i0 then i1 else i0).toInt ≤ (if i0 < i1 then i1 else i0).toInt ∧ True := by
  refine ⟨?_, trivial⟩
  by_cases h1 : i1 < i0 <;> by_cases h2 : i0 < i1 <;> simp only [h1, h2, if_true, if_false] <;> rw [Int32.lt_iff_toInt_lt] at h1 h2 <;> omega
theorem own_add64 (a b : Int32) : (a.toInt64 + b.toInt64).toInt = a.toInt + b.toInt := by
  have h1 := int32_abs a
  have h2 := int32_abs b
  rw [int64_add (by rw [Int32.toInt_toInt64, Int32.toInt_toInt64]; omega) (by rw [Int32.toInt_toInt64, Int32.toInt_toInt64]; omega), Int32.toInt_toInt64, Int32.toInt_toInt64]

def Q69 (Z : State) (x : Int32) (y : Int32) (h0 : Heap) (n0 : Nat) (v : Option Value) (h : Heap) (L : List Loc) : Prop := v = some (.int (if y < x then y else x)) ∧ Fr n0 L ∧ h = h0
theorem ef69 (m : MethodId) (x : Int32) (y : Int32) : entryFrame m #[(.int x), (.int y)] 2 = mkF m 0 #[.val (.int x), .val (.int y)] [] := by first | (simp [entryFrame, mkF, argsToLocals, Value.category, List.replicate]; done) | rfl
set_option maxRecDepth 65536 in
set_option maxHeartbeats 40000000 in
theorem rm69 (l : Launch) (Z : State) (a0 : Array Value) (hw : ∀ d ∈ tables_1, d.before a0 Z = true) (ws : List Jvm.Cond) (x : Int32) (y : Int32) (h0 : Heap) (n0 : Nat) (Z0 : n0 ≤ h0.size)  :
    MetFree l (⟨"java/lang/Math", "min", "(II)I"⟩ : MethodName) (head1 (Jvm.Cond.code (⟨"java/lang/Math", "min", "(II)I"⟩ : MethodName) jdk_29_method_69_code 2 (some .int) :: ws) ({ frames := 0, cells := 0, slots := 0, locals := 0 } : Room)) (fun aa U => aa = #[(.int x), (.int y)] ∧ Z.Warmed39 U.vm ∧ U.heap = h0) (fun _ _ _ _ _ => True) (fun _ U o U' => ∃ v L, o = .returned v ∧ Q69 Z x y h0 n0 v U'.heap L ∧ FrameEnd U o U' L ({ frames := 0, cells := 0, slots := 0, locals := 0 } : Room).cells ({ frames := 0, cells := 0, slots := 0, locals := 0 } : Room).slots) := by
  refine MetFree.of_bodySF (by decide +kernel) hisR ?_
  intro p e s m args below meth c s₁ Bd hml0 hP hK
  obtain ⟨rfl, hZ, hh⟩ := hP
  have hx := Bd.exec
  have hby := Bd.bytes
  have hml : c.maxLocals = 2 := hml0
  have hown : s.vm.findClass "java/lang/Math" = some m.cls := findClass_of_methodNamed Bd.named
  have hnm := (name_of_methodNamed Bd.named Bd.method).1
  have X0 : Stand p l e ({ frames := 0, cells := 0, slots := 0, locals := 0 } : Room) s m #[(.int x), (.int y)] below meth c s₁ [] 0 0 := Stand.of_body Bd
  have e0 : s₁.heap = h0 := by rw [← hh, Bd.state]; rfl
  have N0 := Fr.nil n0
  have c0 : Steps p.tables e below (s₁.setTop (entryFrame m #[(.int x), (.int y)] 2)) (s₁.setTop (mkF m 0 #[.val (.int x), .val (.int y)] [])) := castTop (ef69 m x y) (Steps.refl _)
  show ∃ s₂ o, Steps p.tables e below (s₁.setTop (entryFrame m #[(.int x), (.int y)] 2)) s₂ ∧ _ ∧ _ ∧ _
  generalize s₁.setTop (entryFrame m #[(.int x), (.int y)] 2) = S0 at c0 ⊢
  have c1 : Steps p.tables e below S0 (s₁.setTop (mkF m 2 #[.val (.int x), .val (.int y)] [(.int y), (.int x)])) := by
    refine c0.trans ?_
    show Steps p.tables e below (s₁.setTop (mkF m 0 #[.val (.int x), .val (.int y)] [])) _
    refine XS.iloadN X0.here hx rfl (hb hby d69_0) rfl ?_
    show Steps p.tables e below (s₁.setTop (mkF m 1 #[.val (.int x), .val (.int y)] [(.int x)])) _
    refine XS.iloadN X0.here hx rfl (hb hby d69_1) rfl ?_
    exact Steps.refl _
  by_cases hc : y < x
  · have c2 : Steps p.tables e below S0 (s₁.setTop (mkF m 9 #[.val (.int x), .val (.int y)] [])) := by
      refine c1.trans ?_
      show Steps p.tables e below (s₁.setTop (mkF m 2 #[.val (.int x), .val (.int y)] [(.int y), (.int x)])) _
      refine XS.icmpYes X0.here hx rfl (pc0 := 2) (pc' := 9) rfl (hb hby d69_2) rfl (tlt hc).2.2.1 (by decide) (by decide) ?_
      exact Steps.refl _
    have c3 : Steps p.tables e below S0 (s₁.setTop (mkF m 10 #[.val (.int x), .val (.int y)] [(.int y)])) := by
      refine c2.trans ?_
      show Steps p.tables e below (s₁.setTop (mkF m 9 #[.val (.int x), .val (.int y)] [])) _
      refine XS.iloadN X0.here hx rfl (hb hby d69_9) rfl ?_
      exact Steps.refl _
    obtain ⟨fs, hr, hrun, hended, hW, hsame⟩ := X0.leave (v := some (.int y)) (fun h => by rw [Bd.returns] at h; cases h)
    refine ⟨_, _, c3.trans ?_, hrun, hended, _, _, rfl, ?_, ⟨_, rfl⟩, hW, hsame.mono (by decide) (by decide)⟩
    · show Steps p.tables e below (s₁.setTop (mkF m 10 #[.val (.int x), .val (.int y)] [(.int y)])) _
      exact retI X0 hx Bd.returns (hb hby d69_10) hr
    · show Q69 Z x y h0 n0 _ s₁.heap _
      rw [e0]
      exact ⟨by rw [if_pos hc], N0, rfl⟩
  · have c4 : Steps p.tables e below S0 (s₁.setTop (mkF m 10 #[.val (.int x), .val (.int y)] [(.int x)])) := by
      refine c1.trans ?_
      show Steps p.tables e below (s₁.setTop (mkF m 2 #[.val (.int x), .val (.int y)] [(.int y), (.int x)])) _
      refine XS.icmpNo X0.here hx rfl (hb hby d69_2) rfl (flt hc).2.2.1 ?_
      show Steps p.tables e below (s₁.setTop (mkF m 5 #[.val (.int x), .val (.int y)] [])) _
      refine XS.iloadN X0.here hx rfl (hb hby d69_5) rfl ?_
      show Steps p.tables e below (s₁.setTop (mkF m 6 #[.val (.int x), .val (.int y)] [(.int x)])) _
      refine XS.goto X0.here hx rfl (pc0 := 6) (pc' := 10) rfl (hb hby d69_6) (by decide) (by decide) ?_
      exact Steps.refl _
    obtain ⟨fs, hr, hrun, hended, hW, hsame⟩ := X0.leave (v := some (.int x)) (fun h => by rw [Bd.returns] at h; cases h)
    refine ⟨_, _, c4.trans ?_, hrun, hended, _, _, rfl, ?_, ⟨_, rfl⟩, hW, hsame.mono (by decide) (by decide)⟩
    · show Steps p.tables e below (s₁.setTop (mkF m 10 #[.val (.int x), .val (.int y)] [(.int x)])) _
      exact retI X0 hx Bd.returns (hb hby d69_10) hr
    · show Q69 Z x y h0 n0 _ s₁.heap _
      rw [e0]
      exact ⟨by rw [if_neg hc], N0, rfl⟩
def Q65 (Z : State) (x : Int32) (y : Int32) (h0 : Heap) (n0 : Nat) (v : Option Value) (h : Heap) (L : List Loc) : Prop := v = some (.int (if x < y then y else x)) ∧ Fr n0 L ∧ h = h0
theorem ef65 (m : MethodId) (x : Int32) (y : Int32) : entryFrame m #[(.int x), (.int y)] 2 = mkF m 0 #[.val (.int x), .val (.int y)] [] := by first | (simp [entryFrame, mkF, argsToLocals, Value.category, List.replicate]; done) | rfl
set_option maxRecDepth 65536 in
set_option maxHeartbeats 40000000 in
theorem rm65 (l : Launch) (Z : State) (a0 : Array Value) (hw : ∀ d ∈ tables_1, d.before a0 Z = true) (ws : List Jvm.Cond) (x : Int32) (y : Int32) (h0 : Heap) (n0 : Nat) (Z0 : n0 ≤ h0.size)  :
    MetFree l (⟨"java/lang/Math", "max", "(II)I"⟩ : MethodName) (head1 (Jvm.Cond.code (⟨"java/lang/Math", "max", "(II)I"⟩ : MethodName) jdk_29_method_65_code 2 (some .int) :: ws) ({ frames := 0, cells := 0, slots := 0, locals := 0 } : Room)) (fun aa U => aa = #[(.int x), (.int y)] ∧ Z.Warmed39 U.vm ∧ U.heap = h0) (fun _ _ _ _ _ => True) (fun _ U o U' => ∃ v L, o = .returned v ∧ Q65 Z x y h0 n0 v U'.heap L ∧ FrameEnd U o U' L ({ frames := 0, cells := 0, slots := 0, locals := 0 } : Room).cells ({ frames := 0, cells := 0, slots := 0, locals := 0 } : Room).slots) := by
  refine MetFree.of_bodySF (by decide +kernel) hisR ?_
  intro p e s m args below meth c s₁ Bd hml0 hP hK
  obtain ⟨rfl, hZ, hh⟩ := hP
  have hx := Bd.exec
  have hby := Bd.bytes
  have hml : c.maxLocals = 2 := hml0
  have hown : s.vm.findClass "java/lang/Math" = some m.cls := findClass_of_methodNamed Bd.named
  have hnm := (name_of_methodNamed Bd.named Bd.method).1
  have X0 : Stand p l e ({ frames := 0, cells := 0, slots := 0, locals := 0 } : Room) s m #[(.int x), (.int y)] below meth c s₁ [] 0 0 := Stand.of_body Bd
  have e0 : s₁.heap = h0 := by rw [← hh, Bd.state]; rfl
  have N0 := Fr.nil n0
  have c0 : Steps p.tables e below (s₁.setTop (entryFrame m #[(.int x), (.int y)] 2)) (s₁.setTop (mkF m 0 #[.val (.int x), .val (.int y)] [])) := castTop (ef65 m x y) (Steps.refl _)
  show ∃ s₂ o, Steps p.tables e below (s₁.setTop (entryFrame m #[(.int x), (.int y)] 2)) s₂ ∧ _ ∧ _ ∧ _
  generalize s₁.setTop (entryFrame m #[(.int x), (.int y)] 2) = S0 at c0 ⊢
  have c1 : Steps p.tables e below S0 (s₁.setTop (mkF m 2 #[.val (.int x), .val (.int y)] [(.int y), (.int x)])) := by
    refine c0.trans ?_
    show Steps p.tables e below (s₁.setTop (mkF m 0 #[.val (.int x), .val (.int y)] [])) _
    refine XS.iloadN X0.here hx rfl (hb hby d65_0) rfl ?_
    show Steps p.tables e below (s₁.setTop (mkF m 1 #[.val (.int x), .val (.int y)] [(.int x)])) _
    refine XS.iloadN X0.here hx rfl (hb hby d65_1) rfl ?_
    exact Steps.refl _
  by_cases hc : x < y
  · have c2 : Steps p.tables e below S0 (s₁.setTop (mkF m 9 #[.val (.int x), .val (.int y)] [])) := by
      refine c1.trans ?_
      show Steps p.tables e below (s₁.setTop (mkF m 2 #[.val (.int x), .val (.int y)] [(.int y), (.int x)])) _
      refine XS.icmpYes X0.here hx rfl (pc0 := 2) (pc' := 9) rfl (hb hby d65_2) rfl (tlt hc).1 (by decide) (by decide) ?_
      exact Steps.refl _
    have c3 : Steps p.tables e below S0 (s₁.setTop (mkF m 10 #[.val (.int x), .val (.int y)] [(.int y)])) := by
      refine c2.trans ?_
      show Steps p.tables e below (s₁.setTop (mkF m 9 #[.val (.int x), .val (.int y)] [])) _
      refine XS.iloadN X0.here hx rfl (hb hby d65_9) rfl ?_
      exact Steps.refl _
    obtain ⟨fs, hr, hrun, hended, hW, hsame⟩ := X0.leave (v := some (.int y)) (fun h => by rw [Bd.returns] at h; cases h)
    refine ⟨_, _, c3.trans ?_, hrun, hended, _, _, rfl, ?_, ⟨_, rfl⟩, hW, hsame.mono (by decide) (by decide)⟩
    · show Steps p.tables e below (s₁.setTop (mkF m 10 #[.val (.int x), .val (.int y)] [(.int y)])) _
      exact retI X0 hx Bd.returns (hb hby d65_10) hr
    · show Q65 Z x y h0 n0 _ s₁.heap _
      rw [e0]
      exact ⟨by rw [if_pos hc], N0, rfl⟩
  · have c4 : Steps p.tables e below S0 (s₁.setTop (mkF m 10 #[.val (.int x), .val (.int y)] [(.int x)])) := by
      refine c1.trans ?_
      show Steps p.tables e below (s₁.setTop (mkF m 2 #[.val (.int x), .val (.int y)] [(.int y), (.int x)])) _
      refine XS.icmpNo X0.here hx rfl (hb hby d65_2) rfl (flt hc).1 ?_
      show Steps p.tables e below (s₁.setTop (mkF m 5 #[.val (.int x), .val (.int y)] [])) _
      refine XS.iloadN X0.here hx rfl (hb hby d65_5) rfl ?_
      show Steps p.tables e below (s₁.setTop (mkF m 6 #[.val (.int x), .val (.int y)] [(.int x)])) _
      refine XS.goto X0.here hx rfl (pc0 := 6) (pc' := 10) rfl (hb hby d65_6) (by decide) (by decide) ?_
      exact Steps.refl _
    obtain ⟨fs, hr, hrun, hended, hW, hsame⟩ := X0.leave (v := some (.int x)) (fun h => by rw [Bd.returns] at h; cases h)
    refine ⟨_, _, c4.trans ?_, hrun, hended, _, _, rfl, ?_, ⟨_, rfl⟩, hW, hsame.mono (by decide) (by decide)⟩
    · show Steps p.tables e below (s₁.setTop (mkF m 10 #[.val (.int x), .val (.int y)] [(.int x)])) _
      exact retI X0 hx Bd.returns (hb hby d65_10) hr
    · show Q65 Z x y h0 n0 _ s₁.heap _
      rw [e0]
      exact ⟨by rw [if_neg hc], N0, rfl⟩
def Q30 (Z : State) (a : Addr) (h0 : Heap) (n0 : Nat) (v : Option Value) (h : Heap) (L : List Loc) : Prop := v = none ∧ Fr n0 L ∧ h = h0
theorem ef30 (m : MethodId) (a : Addr) : entryFrame m #[(.ref a)] 1 = mkF m 0 #[.val (.ref a)] [] := by first | (simp [entryFrame, mkF, argsToLocals, Value.category, List.replicate]; done) | rfl
set_option maxRecDepth 65536 in
set_option maxHeartbeats 40000000 in
theorem rm30 (l : Launch) (Z : State) (a0 : Array Value) (hw : ∀ d ∈ tables_1, d.before a0 Z = true) (ws : List Jvm.Cond) (a : Addr) (h0 : Heap) (n0 : Nat) (Z0 : n0 ≤ h0.size)  :
    MetFree l (⟨"java/lang/Record", "<init>", "()V"⟩ : MethodName) (head1 (Jvm.Cond.code (⟨"java/lang/Record", "<init>", "()V"⟩ : MethodName) jdk_30_method_1_code 1 none :: ws) ({ frames := 1, cells := 0, slots := 0, locals := 12 } : Room)) (fun aa U => aa = #[(.ref a)] ∧ Z.Warmed39 U.vm ∧ U.heap = h0) (fun _ _ _ _ _ => True) (fun _ U o U' => ∃ v L, o = .returned v ∧ Q30 Z a h0 n0 v U'.heap L ∧ FrameEnd U o U' L ({ frames := 1, cells := 0, slots := 0, locals := 12 } : Room).cells ({ frames := 1, cells := 0, slots := 0, locals := 12 } : Room).slots) := by
  refine MetFree.of_bodySF (by decide +kernel) hisR ?_
  intro p e s m args below meth c s₁ Bd hml0 hP hK
  obtain ⟨rfl, hZ, hh⟩ := hP
  have hx := Bd.exec
  have hby := Bd.bytes
  have hml : c.maxLocals = 1 := hml0
  have hown : s.vm.findClass "java/lang/Record" = some m.cls := findClass_of_methodNamed Bd.named
  have hnm := (name_of_methodNamed Bd.named Bd.method).1
  have X0 : Stand p l e ({ frames := 1, cells := 0, slots := 0, locals := 12 } : Room) s m #[(.ref a)] below meth c s₁ [] 0 0 := Stand.of_body Bd
  have e0 : s₁.heap = h0 := by rw [← hh, Bd.state]; rfl
  have N0 := Fr.nil n0
  have c0 : Steps p.tables e below (s₁.setTop (entryFrame m #[(.ref a)] 1)) (s₁.setTop (mkF m 0 #[.val (.ref a)] [])) := castTop (ef30 m a) (Steps.refl _)
  show ∃ s₂ o, Steps p.tables e below (s₁.setTop (entryFrame m #[(.ref a)] 1)) s₂ ∧ _ ∧ _ ∧ _
  generalize s₁.setTop (entryFrame m #[(.ref a)] 1) = S0 at c0 ⊢
  have c1 : Steps p.tables e below S0 (s₁.setTop (mkF m 1 #[.val (.ref a)] [(.ref a)])) := by
    refine c0.trans ?_
    show Steps p.tables e below (s₁.setTop (mkF m 0 #[.val (.ref a)] [])) _
    refine XS.aloadN X0.here hx rfl (hb hby d30_0) rfl rfl ?_
    exact Steps.refl _
  obtain ⟨T2, X2, e2, st2⟩ := initO X0 hx hZ hown (hw _ (List.mem_of_getElem? (i := 20) rfl)) (hw _ (List.mem_of_getElem? (i := 21) rfl)) (hw _ (List.mem_of_getElem? (i := 22) rfl)) e0 (g := (mkF m 1 #[.val (.ref a)] [(.ref a)])) rfl (by rw [hml]; rfl) rfl (hb hby d30_1) (by decide) (W := 0) (by show 2 * 0 + _ ≤ _; exact Nat.le_of_eq rfl) (by decide)
  have c2 : Steps p.tables e below S0 (T2.setTop (mkF m 4 #[.val (.ref a)] [])) := by
    refine c1.trans ?_
    show Steps p.tables e below (s₁.setTop (mkF m 1 #[.val (.ref a)] [(.ref a)])) _
    refine st2 _ ?_
    exact Steps.refl _
  obtain ⟨fs, hr, hrun, hended, hW, hsame⟩ := X2.leave (v := none) (fun _ => rfl)
  refine ⟨_, _, c2.trans ?_, hrun, hended, _, _, rfl, ?_, ⟨_, rfl⟩, hW, hsame.mono (by decide) (by decide)⟩
  · show Steps p.tables e below (T2.setTop (mkF m 4 #[.val (.ref a)] [])) _
    exact X2.returnOut hx Bd.returns (hb hby d30_4) hr
  · show Q30 Z a h0 n0 _ T2.heap _
    rw [e2]
    exact ⟨rfl, N0, rfl⟩
def Q117 (Z : State) (b : UInt64) (h0 : Heap) (n0 : Nat) (v : Option Value) (h : Heap) (L : List Loc) : Prop := v = some (.int 1) ∧ Fr n0 L ∧ h = h0
theorem ef117 (m : MethodId) (b : UInt64) : entryFrame m #[(.double b)] 2 = mkF m 0 #[.val (.double b), .second] [] := by first | (simp [entryFrame, mkF, argsToLocals, Value.category, List.replicate]; done) | rfl
set_option maxRecDepth 65536 in
set_option maxHeartbeats 40000000 in
theorem rm117 (l : Launch) (Z : State) (a0 : Array Value) (hw : ∀ d ∈ tables_1, d.before a0 Z = true) (ws : List Jvm.Cond) (b : UInt64) (h0 : Heap) (n0 : Nat) (Z0 : n0 ≤ h0.size) (hfin : Jvm.Free.Fl.Fin64 b) :
    MetFree l (⟨"java/lang/Double", "isFinite", "(D)Z"⟩ : MethodName) (head1 (Jvm.Cond.code (⟨"java/lang/Double", "isFinite", "(D)Z"⟩ : MethodName) jdk_117_method_8_code 2 (some .boolean) :: ws) ({ frames := 1, cells := 0, slots := 0, locals := 13 } : Room)) (fun aa U => aa = #[(.double b)] ∧ Z.Warmed39 U.vm ∧ U.heap = h0) (fun _ _ _ _ _ => True) (fun _ U o U' => ∃ v L, o = .returned v ∧ Q117 Z b h0 n0 v U'.heap L ∧ FrameEnd U o U' L ({ frames := 1, cells := 0, slots := 0, locals := 13 } : Room).cells ({ frames := 1, cells := 0, slots := 0, locals := 13 } : Room).slots) := by
  refine MetFree.of_bodySF (by decide +kernel) hisR ?_
  intro p e s m args below meth c s₁ Bd hml0 hP hK
  obtain ⟨rfl, hZ, hh⟩ := hP
  have hx := Bd.exec
  have hby := Bd.bytes
  have hml : c.maxLocals = 2 := hml0
  have hown : s.vm.findClass "java/lang/Double" = some m.cls := findClass_of_methodNamed Bd.named
  have hnm := (name_of_methodNamed Bd.named Bd.method).1
  have X0 : Stand p l e ({ frames := 1, cells := 0, slots := 0, locals := 13 } : Room) s m #[(.double b)] below meth c s₁ [] 0 0 := Stand.of_body Bd
  have e0 : s₁.heap = h0 := by rw [← hh, Bd.state]; rfl
  have N0 := Fr.nil n0
  have c0 : Steps p.tables e below (s₁.setTop (entryFrame m #[(.double b)] 2)) (s₁.setTop (mkF m 0 #[.val (.double b), .second] [])) := castTop (ef117 m b) (Steps.refl _)
  show ∃ s₂ o, Steps p.tables e below (s₁.setTop (entryFrame m #[(.double b)] 2)) s₂ ∧ _ ∧ _ ∧ _
  generalize s₁.setTop (entryFrame m #[(.double b)] 2) = S0 at c0 ⊢
  have c1 : Steps p.tables e below S0 (s₁.setTop (mkF m 1 #[.val (.double b), .second] [(.double b)])) := by
    refine c0.trans ?_
    show Steps p.tables e below (s₁.setTop (mkF m 0 #[.val (.double b), .second] [])) _
    refine XS.dloadN X0.here hx rfl (hb hby d117_0) rfl ?_
    exact Steps.refl _
  obtain ⟨T2, X2, e2, st2⟩ := natS X0 hx hZ hown (hw _ (List.mem_of_getElem? (i := 27) rfl)) (hw _ (List.mem_of_getElem? (i := 28) rfl)) (hw _ (List.mem_of_getElem? (i := 2) rfl)) (hw _ (List.mem_of_getElem? (i := 29) rfl)) (by decide) e0 (W := 0) (val := .double (b &&& 0x7fffffffffffffff)) (val' := .double (b &&& 0x7fffffffffffffff)) (fun hc => Jvm.Free.Fl.Abs.absD_pays b hc (by decide) (by decide)) (g := (mkF m 1 #[.val (.double b), .second] [(.double b)])) rfl (by rw [hml]; rfl) (argsL := [.double b]) (rest := []) (lenOf pd0 rfl) rfl (by show 2 * 0 + _ ≤ _; exact Nat.le_of_eq rfl) (hb hby d117_1) (by decide) (by decide) ⟨rfl, hfin.noNaN⟩ rfl
  have c2 : Steps p.tables e below S0 (T2.setTop (mkF m 4 #[.val (.double b), .second] [(.double (b &&& 0x7fffffffffffffff))])) := by
    refine c1.trans ?_
    show Steps p.tables e below (s₁.setTop (mkF m 1 #[.val (.double b), .second] [(.double b)])) _
    refine st2 _ ?_
    exact Steps.refl _
  have c3 : Steps p.tables e below S0 (T2.setTop (mkF m 16 #[.val (.double b), .second] [(.int (1 : Int32))])) := by
    refine c2.trans ?_
    show Steps p.tables e below (T2.setTop (mkF m 4 #[.val (.double b), .second] [(.double (b &&& 0x7fffffffffffffff))])) _
    refine X2.ldc2DoubleC hx hown (mvT hZ (hw _ (List.mem_of_getElem? (i := 30) rfl))) (g := (mkF m 4 #[.val (.double b), .second] [(.double (b &&& 0x7fffffffffffffff))])) rfl (hb hby d117_4) _ ?_
    show Steps p.tables e below (T2.setTop (mkF m 7 #[.val (.double b), .second] [(.double (9218868437227405311 : UInt64)), (.double (b &&& 0x7fffffffffffffff))])) _
    refine XS.dcmpS X2.here hx rfl (v := (cmpValue (FP.dcmp (b &&& 0x7fffffffffffffff) (9218868437227405311 : UInt64)) .g)) (hb hby d117_7) rfl rfl ?_
    show Steps p.tables e below (T2.setTop (mkF m 8 #[.val (.double b), .second] [(.int (cmpValue (FP.dcmp (b &&& 0x7fffffffffffffff) (9218868437227405311 : UInt64)) .g))])) _
    refine XS.ifNo X2.here hx rfl (hb hby d117_8) rfl ((if0 _ _).trans (flt (own_absle hfin)).2.2.1) ?_
    show Steps p.tables e below (T2.setTop (mkF m 11 #[.val (.double b), .second] [])) _
    refine XS.iconst X2.here hx rfl (hb hby d117_11) ?_
    show Steps p.tables e below (T2.setTop (mkF m 12 #[.val (.double b), .second] [(.int (1 : Int32))])) _
    refine XS.goto X2.here hx rfl (pc0 := 12) (pc' := 16) rfl (hb hby d117_12) (by decide) (by decide) ?_
    exact Steps.refl _
  obtain ⟨fs, hr, hrun, hended, hW, hsame⟩ := X2.leave (v := some (.int 1)) (fun h => by rw [Bd.returns] at h; cases h)
  refine ⟨_, _, c3.trans ?_, hrun, hended, _, _, rfl, ?_, ⟨_, rfl⟩, hW, hsame.mono (by decide) (by decide)⟩
  · show Steps p.tables e below (T2.setTop (mkF m 16 #[.val (.double b), .second] [(.int (1 : Int32))])) _
    exact retN X2 hx (t := .boolean) Bd.returns (by simp) (hb hby d117_16) hr
  · show Q117 Z b h0 n0 _ T2.heap _
    rw [e2]
    exact ⟨rfl, N0, rfl⟩
def Q8 (Z : State) (a : Addr) (x : UInt64) (y : UInt64) (M : Int) (N : Int) (E : Nat) (h0 : Heap) (n0 : Nat) (v : Option Value) (h : Heap) (L : List Loc) : Prop := v = none ∧ Fr n0 L ∧ Keep h0 h [a] ∧ Exa Z h a "com/example/tight_reach/tightreach/Interval" ∧ ∃ x' y' : UInt64, DV x' M E ∧ DV y' N E ∧ Fld Z h a "com/example/tight_reach/tightreach/Interval" "lower" "D" (.double x') ∧ Fld Z h a "com/example/tight_reach/tightreach/Interval" "upper" "D" (.double y')
theorem ef8 (m : MethodId) (a : Addr) (x : UInt64) (y : UInt64) : entryFrame m #[(.ref a), (.double x), (.double y)] 5 = mkF m 0 #[.val (.ref a), .val (.double x), .second, .val (.double y), .second] [] := by first | (simp [entryFrame, mkF, argsToLocals, Value.category, List.replicate]; done) | rfl
set_option maxRecDepth 65536 in
set_option maxHeartbeats 40000000 in
theorem rm8 (l : Launch) (Z : State) (a0 : Array Value) (hw : ∀ d ∈ tables_1, d.before a0 Z = true) (ws : List Jvm.Cond) (a : Addr) (x : UInt64) (y : UInt64) (M : Int) (N : Int) (E : Nat) (h0 : Heap) (n0 : Nat) (Z0 : n0 ≤ h0.size) (hxv : DV x M E) (hyv : DV y N E) (hle : M ≤ N) (hM : M.natAbs ≤ 2 ^ 31) (hN : N.natAbs ≤ 2 ^ 31) (hE1 : 1074 ≤ E) (hE2 : E ≤ 2066) (Ea : Exa Z h0 a "com/example/tight_reach/tightreach/Interval") (Fl : Fld Z h0 a "com/example/tight_reach/tightreach/Interval" "lower" "D" (.double 0)) (Fu : Fld Z h0 a "com/example/tight_reach/tightreach/Interval" "upper" "D" (.double 0)) (ga : n0 ≤ a) :
    MetFree l (⟨"com/example/tight_reach/tightreach/Interval", "<init>", "(DD)V"⟩ : MethodName) (head1 (Jvm.Cond.code (⟨"com/example/tight_reach/tightreach/Interval", "<init>", "(DD)V"⟩ : MethodName) prog_8_method_1_code 5 none :: ws) ({ frames := 3, cells := 0, slots := 0, locals := 60 } : Room)) (fun aa U => aa = #[(.ref a), (.double x), (.double y)] ∧ Z.Warmed39 U.vm ∧ U.heap = h0) (fun _ _ _ _ _ => True) (fun _ U o U' => ∃ v L, o = .returned v ∧ Q8 Z a x y M N E h0 n0 v U'.heap L ∧ FrameEnd U o U' L ({ frames := 3, cells := 0, slots := 0, locals := 60 } : Room).cells ({ frames := 3, cells := 0, slots := 0, locals := 60 } : Room).slots) := by
  refine MetFree.of_bodySF (plainFor_of_name pn0) hisR ?_
  intro p e s m args below meth c s₁ Bd hml0 hP hK
  obtain ⟨rfl, hZ, hh⟩ := hP
  have hx := Bd.exec
  have hby := Bd.bytes
  have hml : c.maxLocals = 5 := hml0
  have hown : s.vm.findClass "com/example/tight_reach/tightreach/Interval" = some m.cls := findClass_of_methodNamed Bd.named
  have hnm := (name_of_methodNamed Bd.named Bd.method).1
  have X0 : Stand p l e ({ frames := 3, cells := 0, slots := 0, locals := 60 } : Room) s m #[(.ref a), (.double x), (.double y)] below meth c s₁ [] 0 0 := Stand.of_body Bd
  have e0 : s₁.heap = h0 := by rw [← hh, Bd.state]; rfl
  have N0 := Fr.nil n0
  have c0 : Steps p.tables e below (s₁.setTop (entryFrame m #[(.ref a), (.double x), (.double y)] 5)) (s₁.setTop (mkF m 0 #[.val (.ref a), .val (.double x), .second, .val (.double y), .second] [])) := castTop (ef8 m a x y) (Steps.refl _)
  show ∃ s₂ o, Steps p.tables e below (s₁.setTop (entryFrame m #[(.ref a), (.double x), (.double y)] 5)) s₂ ∧ _ ∧ _ ∧ _
  generalize s₁.setTop (entryFrame m #[(.ref a), (.double x), (.double y)] 5) = S0 at c0 ⊢
  have c1 : Steps p.tables e below S0 (s₁.setTop (mkF m 1 #[.val (.ref a), .val (.double x), .second, .val (.double y), .second] [(.ref a)])) := by
    refine c0.trans ?_
    show Steps p.tables e below (s₁.setTop (mkF m 0 #[.val (.ref a), .val (.double x), .second, .val (.double y), .second] [])) _
    refine XS.aloadN X0.here hx rfl (hb hby d8_0) rfl rfl ?_
    exact Steps.refl _
  obtain ⟨_, _, ⟨T2, L2, k2, n2⟩, -, X2, ⟨Lc2, hQ2, l2, y2, z2⟩, st2⟩ := X0.specialBack hx (y := (⟨"java/lang/Record", "<init>", "()V"⟩ : MethodName)) rfl hown (mvT hZ (hw _ (List.mem_of_getElem? (i := 15) rfl))) (mvT hZ (hw _ (List.mem_of_getElem? (i := 16) rfl))) (mvT hZ (hw _ (List.mem_of_getElem? (i := 19) rfl))) (by decide) (backOf (W := 0) (rm30 l Z a0 hw [] a h0 n0 Z0) hZ (hw _ (List.mem_of_getElem? (i := 19) rfl)) (hw _ (List.mem_of_getElem? (i := 18) rfl)) (by decide) (by decide)) (g := (mkF m 1 #[.val (.ref a), .val (.double x), .second, .val (.double y), .second] [(.ref a)])) rfl (by rw [hml]; rfl) (Steps.refl _) (a := a) (argsL := []) (rest := []) (lenOf pd1 rfl) rfl (by show 2 * 0 + _ ≤ _; exact Nat.le_of_eq rfl) (hb hby d8_1) (fun _ _ => ⟨rfl, e0, (by decide : 0 + 0 ≤ _), (by decide : 0 + 0 ≤ _)⟩)
  dsimp only [Pt.U, Pt.locs, Pt.cells, Pt.slots] at X2 l2 y2 z2 st2 hQ2
  subst l2 y2 z2
  obtain ⟨rfl, N1, e1⟩ := hQ2
  have c2 : Steps p.tables e below S0 (T2.setTop (mkF m 4 #[.val (.ref a), .val (.double x), .second, .val (.double y), .second] [])) := by
    refine c1.trans ?_
    show Steps p.tables e below (s₁.setTop (mkF m 1 #[.val (.ref a), .val (.double x), .second, .val (.double y), .second] [(.ref a)])) _
    refine st2.trans ?_
    exact Steps.refl _
  have c3 : Steps p.tables e below S0 (T2.setTop (mkF m 5 #[.val (.ref a), .val (.double x), .second, .val (.double y), .second] [(.double x)])) := by
    refine c2.trans ?_
    show Steps p.tables e below (T2.setTop (mkF m 4 #[.val (.ref a), .val (.double x), .second, .val (.double y), .second] [])) _
    refine XS.dloadN X2.here hx rfl (hb hby d8_4) rfl ?_
    exact Steps.refl _
  obtain ⟨_, _, ⟨T4, L4, k4, n4⟩, -, X4, ⟨Lc4, hQ4, l4, y4, z4⟩, st4⟩ := Jvm.LawKit.callS X2 hx (y := (⟨"java/lang/Double", "isFinite", "(D)Z"⟩ : MethodName)) hown (mvT hZ (hw _ (List.mem_of_getElem? (i := 23) rfl))) (mvT hZ (hw _ (List.mem_of_getElem? (i := 24) rfl))) (mvT hZ (hw _ (List.mem_of_getElem? (i := 25) rfl))) (mvT hZ (hw _ (List.mem_of_getElem? (i := 26) rfl))) (by decide) (backOf (W := 0) (rm117 l Z a0 hw [] x h0 n0 Z0 hxv.fin) hZ (hw _ (List.mem_of_getElem? (i := 26) rfl)) (hw _ (List.mem_of_getElem? (i := 25) rfl)) (by decide) (by decide)) (g := (mkF m 5 #[.val (.ref a), .val (.double x), .second, .val (.double y), .second] [(.double x)])) rfl (by rw [hml]; rfl) (argsL := [(.double x)]) (rest := []) (lenOf pd2 rfl) rfl (by show 2 * 0 + _ ≤ _; exact Nat.le_of_eq rfl) (hb hby d8_5) (fun _ _ => ⟨rfl, e1, (by decide : 0 + 0 ≤ _), (by decide : 0 + 0 ≤ _)⟩)
  dsimp only [Pt.U, Pt.locs, Pt.cells, Pt.slots] at X4 l4 y4 z4 st4 hQ4
  subst l4 y4 z4
  obtain ⟨rfl, N2, e2⟩ := hQ4
  have c4 : Steps p.tables e below S0 (T4.setTop (mkF m 8 #[.val (.ref a), .val (.double x), .second, .val (.double y), .second] [(.int (1 : Int32))])) := by
    refine c3.trans ?_
    show Steps p.tables e below (T2.setTop (mkF m 5 #[.val (.ref a), .val (.double x), .second, .val (.double y), .second] [(.double x)])) _
    refine st4 _ ?_
    exact Steps.refl _
  have c5 : Steps p.tables e below S0 (T4.setTop (mkF m 12 #[.val (.ref a), .val (.double x), .second, .val (.double y), .second] [(.double y)])) := by
    refine c4.trans ?_
    show Steps p.tables e below (T4.setTop (mkF m 8 #[.val (.ref a), .val (.double x), .second, .val (.double y), .second] [(.int (1 : Int32))])) _
    refine XS.ifNo X4.here hx rfl (hb hby d8_8) rfl ((if0 _ _).trans (feq (by decide)).1) ?_
    show Steps p.tables e below (T4.setTop (mkF m 11 #[.val (.ref a), .val (.double x), .second, .val (.double y), .second] [])) _
    refine XS.dloadN X4.here hx rfl (hb hby d8_11) rfl ?_
    exact Steps.refl _
  obtain ⟨_, _, ⟨T6, L6, k6, n6⟩, -, X6, ⟨Lc6, hQ6, l6, y6, z6⟩, st6⟩ := Jvm.LawKit.callS X4 hx (y := (⟨"java/lang/Double", "isFinite", "(D)Z"⟩ : MethodName)) hown (mvT hZ (hw _ (List.mem_of_getElem? (i := 23) rfl))) (mvT hZ (hw _ (List.mem_of_getElem? (i := 24) rfl))) (mvT hZ (hw _ (List.mem_of_getElem? (i := 25) rfl))) (mvT hZ (hw _ (List.mem_of_getElem? (i := 26) rfl))) (by decide) (backOf (W := 0) (rm117 l Z a0 hw [] y h0 n0 Z0 hyv.fin) hZ (hw _ (List.mem_of_getElem? (i := 26) rfl)) (hw _ (List.mem_of_getElem? (i := 25) rfl)) (by decide) (by decide)) (g := (mkF m 12 #[.val (.ref a), .val (.double x), .second, .val (.double y), .second] [(.double y)])) rfl (by rw [hml]; rfl) (argsL := [(.double y)]) (rest := []) (lenOf pd2 rfl) rfl (by show 2 * 0 + _ ≤ _; exact Nat.le_of_eq rfl) (hb hby d8_12) (fun _ _ => ⟨rfl, e2, (by decide : 0 + 0 ≤ _), (by decide : 0 + 0 ≤ _)⟩)
  dsimp only [Pt.U, Pt.locs, Pt.cells, Pt.slots] at X6 l6 y6 z6 st6 hQ6
  subst l6 y6 z6
  obtain ⟨rfl, N3, e3⟩ := hQ6
  have c6 : Steps p.tables e below S0 (T6.setTop (mkF m 15 #[.val (.ref a), .val (.double x), .second, .val (.double y), .second] [(.int (1 : Int32))])) := by
    refine c5.trans ?_
    show Steps p.tables e below (T4.setTop (mkF m 12 #[.val (.ref a), .val (.double x), .second, .val (.double y), .second] [(.double y)])) _
    refine st6 _ ?_
    exact Steps.refl _
  have hcmp : ¬ 0 < cmpValue (FP.dcmp x y) .l := cmp_ngt hxv hyv _ (fun q => absurd (own_cl q) (by omega))
  have hax : DV (FP.dadd x 0) M E := by
    have := dadd_v 21 hxv (own_z E) (by rw [Int.add_zero]; omega) (by omega) (by omega)
    rwa [Int.add_zero] at this
  have hay : DV (FP.dadd y 0) N E := by
    have := dadd_v 21 hyv (own_z E) (by rw [Int.add_zero]; omega) (by omega) (by omega)
    rwa [Int.add_zero] at this
  have c7 : Steps p.tables e below S0 (T6.setTop (mkF m 61 #[.val (.ref a), .val (.double (FP.dadd x (0 : UInt64))), .second, .val (.double (FP.dadd y (0 : UInt64))), .second] [(.double (FP.dadd x (0 : UInt64))), (.ref a)])) := by
    refine c6.trans ?_
    show Steps p.tables e below (T6.setTop (mkF m 15 #[.val (.ref a), .val (.double x), .second, .val (.double y), .second] [(.int (1 : Int32))])) _
    refine XS.ifYes X6.here hx rfl (pc0 := 15) (pc' := 33) rfl (hb hby d8_15) rfl ((if0 _ _).trans (feq (by decide)).2) (by decide) (by decide) ?_
    show Steps p.tables e below (T6.setTop (mkF m 33 #[.val (.ref a), .val (.double x), .second, .val (.double y), .second] [])) _
    refine XS.dloadN X6.here hx rfl (hb hby d8_33) rfl ?_
    show Steps p.tables e below (T6.setTop (mkF m 34 #[.val (.ref a), .val (.double x), .second, .val (.double y), .second] [(.double x)])) _
    refine XS.dloadN X6.here hx rfl (hb hby d8_34) rfl ?_
    show Steps p.tables e below (T6.setTop (mkF m 35 #[.val (.ref a), .val (.double x), .second, .val (.double y), .second] [(.double y), (.double x)])) _
    refine XS.dcmpS X6.here hx rfl (v := (cmpValue (FP.dcmp x y) .l)) (hb hby d8_35) rfl rfl ?_
    show Steps p.tables e below (T6.setTop (mkF m 36 #[.val (.ref a), .val (.double x), .second, .val (.double y), .second] [(.int (cmpValue (FP.dcmp x y) .l))])) _
    refine XS.ifYes X6.here hx rfl (pc0 := 36) (pc' := 51) rfl (hb hby d8_36) rfl ((if0 _ _).trans (flt hcmp).2.2.2) (by decide) (by decide) ?_
    show Steps p.tables e below (T6.setTop (mkF m 51 #[.val (.ref a), .val (.double x), .second, .val (.double y), .second] [])) _
    refine XS.dloadN X6.here hx rfl (hb hby d8_51) rfl ?_
    show Steps p.tables e below (T6.setTop (mkF m 52 #[.val (.ref a), .val (.double x), .second, .val (.double y), .second] [(.double x)])) _
    refine XS.dconst0 X6.here hx rfl (v := 0) (hb hby d8_52) rfl ?_
    show Steps p.tables e below (T6.setTop (mkF m 53 #[.val (.ref a), .val (.double x), .second, .val (.double y), .second] [(.double (0 : UInt64)), (.double x)])) _
    refine XS.daddS X6.here hx rfl (v := (FP.dadd x (0 : UInt64))) (hb hby d8_53) rfl hax.noNaN rfl ?_
    show Steps p.tables e below (T6.setTop (mkF m 54 #[.val (.ref a), .val (.double x), .second, .val (.double y), .second] [(.double (FP.dadd x (0 : UInt64)))])) _
    refine XS.dstoreN X6.here hx rfl (hb hby d8_54) rfl (l' := #[.val (.ref a), .val (.double (FP.dadd x (0 : UInt64))), .second, .val (.double y), .second]) rfl ?_
    show Steps p.tables e below (T6.setTop (mkF m 55 #[.val (.ref a), .val (.double (FP.dadd x (0 : UInt64))), .second, .val (.double y), .second] [])) _
    refine XS.dloadN X6.here hx rfl (hb hby d8_55) rfl ?_
    show Steps p.tables e below (T6.setTop (mkF m 56 #[.val (.ref a), .val (.double (FP.dadd x (0 : UInt64))), .second, .val (.double y), .second] [(.double y)])) _
    refine XS.dconst0 X6.here hx rfl (v := 0) (hb hby d8_56) rfl ?_
    show Steps p.tables e below (T6.setTop (mkF m 57 #[.val (.ref a), .val (.double (FP.dadd x (0 : UInt64))), .second, .val (.double y), .second] [(.double (0 : UInt64)), (.double y)])) _
    refine XS.daddS X6.here hx rfl (v := (FP.dadd y (0 : UInt64))) (hb hby d8_57) rfl hay.noNaN rfl ?_
    show Steps p.tables e below (T6.setTop (mkF m 58 #[.val (.ref a), .val (.double (FP.dadd x (0 : UInt64))), .second, .val (.double y), .second] [(.double (FP.dadd y (0 : UInt64)))])) _
    refine XS.dstoreN X6.here hx rfl (hb hby d8_58) rfl (l' := #[.val (.ref a), .val (.double (FP.dadd x (0 : UInt64))), .second, .val (.double (FP.dadd y (0 : UInt64))), .second]) rfl ?_
    show Steps p.tables e below (T6.setTop (mkF m 59 #[.val (.ref a), .val (.double (FP.dadd x (0 : UInt64))), .second, .val (.double (FP.dadd y (0 : UInt64))), .second] [])) _
    refine XS.aloadN X6.here hx rfl (hb hby d8_59) rfl rfl ?_
    show Steps p.tables e below (T6.setTop (mkF m 60 #[.val (.ref a), .val (.double (FP.dadd x (0 : UInt64))), .second, .val (.double (FP.dadd y (0 : UInt64))), .second] [(.ref a)])) _
    refine XS.dloadN X6.here hx rfl (hb hby d8_60) rfl ?_
    exact Steps.refl _
  obtain ⟨T8, h8, X8, e8, W8, st8⟩ := putF X6 hx hZ hown (host := "") (Or.inl (hw _ (List.mem_of_getElem? (i := 31) rfl))) Via.refl e3 Fl Ea (Or.inr ⟨(hw _ (List.mem_of_getElem? (i := 32) rfl)), rfl, hnm⟩) (hw _ (List.mem_of_getElem? (i := 10) rfl)) (ty := .double) (by decide) rfl rfl (g := (mkF m 61 #[.val (.ref a), .val (.double (FP.dadd x (0 : UInt64))), .second, .val (.double (FP.dadd y (0 : UInt64))), .second] [(.double (FP.dadd x (0 : UInt64))), (.ref a)])) rfl rfl (hb hby d8_61)
  have c8 : Steps p.tables e below S0 (T8.setTop (mkF m 64 #[.val (.ref a), .val (.double (FP.dadd x (0 : UInt64))), .second, .val (.double (FP.dadd y (0 : UInt64))), .second] [])) := by
    refine c7.trans ?_
    show Steps p.tables e below (T6.setTop (mkF m 61 #[.val (.ref a), .val (.double (FP.dadd x (0 : UInt64))), .second, .val (.double (FP.dadd y (0 : UInt64))), .second] [(.double (FP.dadd x (0 : UInt64))), (.ref a)])) _
    refine st8 _ ?_
    exact Steps.refl _
  have Na := Fr.snoc X8 (Fr.app (Fr.app (Fr.app N0 N1) N2) N3) ga
  have Fl1 := Fl.same W8
  have Fu1 := Fu.other W8 (Or.inr (slot_ne (Or.inr (hw _ (List.mem_of_getElem? (i := 34) rfl))) (Or.inr (hw _ (List.mem_of_getElem? (i := 32) rfl))) (by decide) (t := .double) (t' := .double) (by decide) (by decide)))
  have c9 : Steps p.tables e below S0 (T8.setTop (mkF m 66 #[.val (.ref a), .val (.double (FP.dadd x (0 : UInt64))), .second, .val (.double (FP.dadd y (0 : UInt64))), .second] [(.double (FP.dadd y (0 : UInt64))), (.ref a)])) := by
    refine c8.trans ?_
    show Steps p.tables e below (T8.setTop (mkF m 64 #[.val (.ref a), .val (.double (FP.dadd x (0 : UInt64))), .second, .val (.double (FP.dadd y (0 : UInt64))), .second] [])) _
    refine XS.aloadN X8.here hx rfl (hb hby d8_64) rfl rfl ?_
    show Steps p.tables e below (T8.setTop (mkF m 65 #[.val (.ref a), .val (.double (FP.dadd x (0 : UInt64))), .second, .val (.double (FP.dadd y (0 : UInt64))), .second] [(.ref a)])) _
    refine XS.dloadN X8.here hx rfl (hb hby d8_65) rfl ?_
    exact Steps.refl _
  obtain ⟨T10, h10, X10, e10, W10, st10⟩ := putF X8 hx hZ hown (host := "") (Or.inl (hw _ (List.mem_of_getElem? (i := 33) rfl))) Via.refl e8 Fu1 (Ea.wr W8) (Or.inr ⟨(hw _ (List.mem_of_getElem? (i := 34) rfl)), rfl, hnm⟩) (hw _ (List.mem_of_getElem? (i := 10) rfl)) (ty := .double) (by decide) rfl rfl (g := (mkF m 66 #[.val (.ref a), .val (.double (FP.dadd x (0 : UInt64))), .second, .val (.double (FP.dadd y (0 : UInt64))), .second] [(.double (FP.dadd y (0 : UInt64))), (.ref a)])) rfl rfl (hb hby d8_66)
  have c10 : Steps p.tables e below S0 (T10.setTop (mkF m 69 #[.val (.ref a), .val (.double (FP.dadd x (0 : UInt64))), .second, .val (.double (FP.dadd y (0 : UInt64))), .second] [])) := by
    refine c9.trans ?_
    show Steps p.tables e below (T8.setTop (mkF m 66 #[.val (.ref a), .val (.double (FP.dadd x (0 : UInt64))), .second, .val (.double (FP.dadd y (0 : UInt64))), .second] [(.double (FP.dadd y (0 : UInt64))), (.ref a)])) _
    refine st10 _ ?_
    exact Steps.refl _
  have Nb := Fr.snoc X10 Na ga
  have Fl2 := Fl1.other W10 (Or.inr (slot_ne (Or.inr (hw _ (List.mem_of_getElem? (i := 32) rfl))) (Or.inr (hw _ (List.mem_of_getElem? (i := 34) rfl))) (by decide) (t := .double) (t' := .double) (by decide) (by decide)))
  have Fu2 := Fu1.same W10
  obtain ⟨fs, hr, hrun, hended, hW, hsame⟩ := X10.leave (v := none) (fun _ => rfl)
  refine ⟨_, _, c10.trans ?_, hrun, hended, _, _, rfl, ?_, ⟨_, rfl⟩, hW, hsame.mono (by decide) (by decide)⟩
  · show Steps p.tables e below (T10.setTop (mkF m 69 #[.val (.ref a), .val (.double (FP.dadd x (0 : UInt64))), .second, .val (.double (FP.dadd y (0 : UInt64))), .second] [])) _
    exact X10.returnOut hx Bd.returns (hb hby d8_69) hr
  · show Q8 Z a x y M N E h0 n0 _ T10.heap _
    rw [e10]
    exact ⟨rfl, Nb, ((Keep.refl _ _).wr W8 (Or.inl (List.mem_of_getElem? (i := 0) rfl))).wr W10 (Or.inl (List.mem_of_getElem? (i := 0) rfl)), (Ea.wr W8).wr W10, _, _, hax, hay, Fl2, Fu2⟩
def Q88 (Z : State) (a : Addr) (x : UInt64) (y : UInt64) (M : Int) (N : Int) (E : Nat) (h0 : Heap) (n0 : Nat) (v : Option Value) (h : Heap) (L : List Loc) : Prop := (∃ d : UInt64, v = some (.double d) ∧ DV d (M + N) (E - 1)) ∧ Fr n0 L ∧ h = h0
theorem ef88 (m : MethodId) (a : Addr) : entryFrame m #[(.ref a)] 1 = mkF m 0 #[.val (.ref a)] [] := by first | (simp [entryFrame, mkF, argsToLocals, Value.category, List.replicate]; done) | rfl
set_option maxRecDepth 65536 in
set_option maxHeartbeats 40000000 in
theorem rm88 (l : Launch) (Z : State) (a0 : Array Value) (hw : ∀ d ∈ tables_1, d.before a0 Z = true) (ws : List Jvm.Cond) (a : Addr) (x : UInt64) (y : UInt64) (M : Int) (N : Int) (E : Nat) (h0 : Heap) (n0 : Nat) (Z0 : n0 ≤ h0.size) (hxv : DV x M E) (hyv : DV y N E) (hM : M.natAbs ≤ 2 ^ 31) (hN : N.natAbs ≤ 2 ^ 31) (hE1 : 1074 ≤ E) (hE2 : E ≤ 2066) (Fl : Fld Z h0 a "com/example/tight_reach/tightreach/Interval" "lower" "D" (.double x)) (Fu : Fld Z h0 a "com/example/tight_reach/tightreach/Interval" "upper" "D" (.double y)) :
    MetFree l (⟨"com/example/tight_reach/tightreach/Interval", "midpoint", "()D"⟩ : MethodName) (head1 (Jvm.Cond.code (⟨"com/example/tight_reach/tightreach/Interval", "midpoint", "()D"⟩ : MethodName) prog_8_method_8_code 1 (some .double) :: ws) ({ frames := 0, cells := 0, slots := 0, locals := 0 } : Room)) (fun aa U => aa = #[(.ref a)] ∧ Z.Warmed39 U.vm ∧ U.heap = h0) (fun _ _ _ _ _ => True) (fun _ U o U' => ∃ v L, o = .returned v ∧ Q88 Z a x y M N E h0 n0 v U'.heap L ∧ FrameEnd U o U' L ({ frames := 0, cells := 0, slots := 0, locals := 0 } : Room).cells ({ frames := 0, cells := 0, slots := 0, locals := 0 } : Room).slots) := by
  refine MetFree.of_bodySF (plainFor_of_name pn0) hisR ?_
  intro p e s m args below meth c s₁ Bd hml0 hP hK
  obtain ⟨rfl, hZ, hh⟩ := hP
  have hx := Bd.exec
  have hby := Bd.bytes
  have hml : c.maxLocals = 1 := hml0
  have hown : s.vm.findClass "com/example/tight_reach/tightreach/Interval" = some m.cls := findClass_of_methodNamed Bd.named
  have hnm := (name_of_methodNamed Bd.named Bd.method).1
  have X0 : Stand p l e ({ frames := 0, cells := 0, slots := 0, locals := 0 } : Room) s m #[(.ref a)] below meth c s₁ [] 0 0 := Stand.of_body Bd
  have e0 : s₁.heap = h0 := by rw [← hh, Bd.state]; rfl
  have N0 := Fr.nil n0
  have c0 : Steps p.tables e below (s₁.setTop (entryFrame m #[(.ref a)] 1)) (s₁.setTop (mkF m 0 #[.val (.ref a)] [])) := castTop (ef88 m a) (Steps.refl _)
  show ∃ s₂ o, Steps p.tables e below (s₁.setTop (entryFrame m #[(.ref a)] 1)) s₂ ∧ _ ∧ _ ∧ _
  generalize s₁.setTop (entryFrame m #[(.ref a)] 1) = S0 at c0 ⊢
  have hhx : DV (FP.dmul x (4602678819172646912 : UInt64)) M (E - 1) := by
    have := dmul_v 21 (E - 1) hxv own_half (by omega) (by rw [Int.mul_one]; omega) (by omega) (by omega)
    rwa [Int.mul_one] at this
  have hhy : DV (FP.dmul y (4602678819172646912 : UInt64)) N (E - 1) := by
    have := dmul_v 21 (E - 1) hyv own_half (by omega) (by rw [Int.mul_one]; omega) (by omega) (by omega)
    rwa [Int.mul_one] at this
  have hsum := dadd_v 20 hhx hhy (by omega) (by omega) (by omega)
  have c1 : Steps p.tables e below S0 (s₁.setTop (mkF m 1 #[.val (.ref a)] [(.ref a)])) := by
    refine c0.trans ?_
    show Steps p.tables e below (s₁.setTop (mkF m 0 #[.val (.ref a)] [])) _
    refine XS.aloadN X0.here hx rfl (hb hby d88_0) rfl rfl ?_
    exact Steps.refl _
  obtain ⟨T2, X2, e2, st2⟩ := getF X0 hx hZ hown (host := "") (Or.inl (hw _ (List.mem_of_getElem? (i := 31) rfl))) Via.refl e0 Fl (g := (mkF m 1 #[.val (.ref a)] [(.ref a)])) rfl rfl (hb hby d88_1)
  have c2 : Steps p.tables e below S0 (T2.setTop (mkF m 4 #[.val (.ref a)] [(.double x)])) := by
    refine c1.trans ?_
    show Steps p.tables e below (s₁.setTop (mkF m 1 #[.val (.ref a)] [(.ref a)])) _
    refine st2 _ ?_
    exact Steps.refl _
  have c3 : Steps p.tables e below S0 (T2.setTop (mkF m 9 #[.val (.ref a)] [(.ref a), (.double (FP.dmul x (4602678819172646912 : UInt64)))])) := by
    refine c2.trans ?_
    show Steps p.tables e below (T2.setTop (mkF m 4 #[.val (.ref a)] [(.double x)])) _
    refine X2.ldc2DoubleC hx hown (mvT hZ (hw _ (List.mem_of_getElem? (i := 40) rfl))) (g := (mkF m 4 #[.val (.ref a)] [(.double x)])) rfl (hb hby d88_4) _ ?_
    show Steps p.tables e below (T2.setTop (mkF m 7 #[.val (.ref a)] [(.double (4602678819172646912 : UInt64)), (.double x)])) _
    refine XS.dmulS X2.here hx rfl (v := (FP.dmul x (4602678819172646912 : UInt64))) (hb hby d88_7) rfl hhx.noNaN rfl ?_
    show Steps p.tables e below (T2.setTop (mkF m 8 #[.val (.ref a)] [(.double (FP.dmul x (4602678819172646912 : UInt64)))])) _
    refine XS.aloadN X2.here hx rfl (hb hby d88_8) rfl rfl ?_
    exact Steps.refl _
  obtain ⟨T4, X4, e4, st4⟩ := getF X2 hx hZ hown (host := "") (Or.inl (hw _ (List.mem_of_getElem? (i := 33) rfl))) Via.refl e2 Fu (g := (mkF m 9 #[.val (.ref a)] [(.ref a), (.double (FP.dmul x (4602678819172646912 : UInt64)))])) rfl rfl (hb hby d88_9)
  have c4 : Steps p.tables e below S0 (T4.setTop (mkF m 12 #[.val (.ref a)] [(.double y), (.double (FP.dmul x (4602678819172646912 : UInt64)))])) := by
    refine c3.trans ?_
    show Steps p.tables e below (T2.setTop (mkF m 9 #[.val (.ref a)] [(.ref a), (.double (FP.dmul x (4602678819172646912 : UInt64)))])) _
    refine st4 _ ?_
    exact Steps.refl _
  have c5 : Steps p.tables e below S0 (T4.setTop (mkF m 17 #[.val (.ref a)] [(.double (FP.dadd (FP.dmul x (4602678819172646912 : UInt64)) (FP.dmul y (4602678819172646912 : UInt64))))])) := by
    refine c4.trans ?_
    show Steps p.tables e below (T4.setTop (mkF m 12 #[.val (.ref a)] [(.double y), (.double (FP.dmul x (4602678819172646912 : UInt64)))])) _
    refine X4.ldc2DoubleC hx hown (mvT hZ (hw _ (List.mem_of_getElem? (i := 40) rfl))) (g := (mkF m 12 #[.val (.ref a)] [(.double y), (.double (FP.dmul x (4602678819172646912 : UInt64)))])) rfl (hb hby d88_12) _ ?_
    show Steps p.tables e below (T4.setTop (mkF m 15 #[.val (.ref a)] [(.double (4602678819172646912 : UInt64)), (.double y), (.double (FP.dmul x (4602678819172646912 : UInt64)))])) _
    refine XS.dmulS X4.here hx rfl (v := (FP.dmul y (4602678819172646912 : UInt64))) (hb hby d88_15) rfl hhy.noNaN rfl ?_
    show Steps p.tables e below (T4.setTop (mkF m 16 #[.val (.ref a)] [(.double (FP.dmul y (4602678819172646912 : UInt64))), (.double (FP.dmul x (4602678819172646912 : UInt64)))])) _
    refine XS.daddS X4.here hx rfl (v := (FP.dadd (FP.dmul x (4602678819172646912 : UInt64)) (FP.dmul y (4602678819172646912 : UInt64)))) (hb hby d88_16) rfl hsum.noNaN rfl ?_
    exact Steps.refl _
  obtain ⟨fs, hr, hrun, hended, hW, hsame⟩ := X4.leave (v := some (.double (FP.dadd (FP.dmul x (4602678819172646912 : UInt64)) (FP.dmul y (4602678819172646912 : UInt64))))) (fun h => by rw [Bd.returns] at h; cases h)
  refine ⟨_, _, c5.trans ?_, hrun, hended, _, _, rfl, ?_, ⟨_, rfl⟩, hW, hsame.mono (by decide) (by decide)⟩
  · show Steps p.tables e below (T4.setTop (mkF m 17 #[.val (.ref a)] [(.double (FP.dadd (FP.dmul x (4602678819172646912 : UInt64)) (FP.dmul y (4602678819172646912 : UInt64))))])) _
    exact retD X4 hx Bd.returns (hb hby d88_17) hr
  · show Q88 Z a x y M N E h0 n0 _ T4.heap _
    rw [e4]
    exact ⟨⟨_, rfl, hsum⟩, N0, rfl⟩
def Q0 (Z : State) (i0 : Int32) (i1 : Int32) (i2 : Int32) (h0 : Heap) (n0 : Nat) (v : Option Value) (h : Heap) (L : List Loc) : Prop := v = some (.int 1) ∧ Fr n0 L
theorem ef0 (m : MethodId) (i0 : Int32) (i1 : Int32) (i2 : Int32) : entryFrame m #[(.int i0), (.int i1), (.int i2)] maxLocals = mkF m 0 #[.val (.int i0), .val (.int i1), .val (.int i2), .unset, .unset, .unset, .unset, .unset, .unset, .unset, .unset, .unset, .unset, .unset, .unset, .unset, .unset, .unset, .unset, .unset, .unset, .unset, .unset, .unset] [] := by first | (simp [entryFrame, mkF, argsToLocals, Value.category, maxLocals]; done) | rfl
set_option maxRecDepth 65536 in
set_option maxHeartbeats 40000000 in
theorem rm0 (l : Launch) (Z : State) (a0 : Array Value) (hw : ∀ d ∈ tables_1, d.before a0 Z = true) (ws : List Jvm.Cond) (i0 : Int32) (i1 : Int32) (i2 : Int32) (h0 : Heap) (n0 : Nat) (Z0 : n0 ≤ h0.size)  :
    MetFree l x (head1 (Jvm.Cond.code x code maxLocals ret :: ws) room_1) (fun aa U => aa = #[(.int i0), (.int i1), (.int i2)] ∧ Z.Warmed39 U.vm ∧ U.heap = h0) (fun _ _ _ _ _ => True) (fun _ U o U' => ∃ v L, o = .returned v ∧ Q0 Z i0 i1 i2 h0 n0 v U'.heap L ∧ FrameEnd U o U' L 1 2) := by
  refine MetFree.of_bodySF (plainFor_of_name pn1) hisR ?_
  intro p e s m args below meth c s₁ Bd hml0 hP hK
  obtain ⟨rfl, hZ, hh⟩ := hP
  have hx := Bd.exec
  have hby := Bd.bytes
  have hml : c.maxLocals = 24 := hml0
  have hown : s.vm.findClass "com/example/tight_reach/tightreach/IntervalMidpointPinLaw" = some m.cls := findClass_of_methodNamed Bd.named
  have hnm := (name_of_methodNamed Bd.named Bd.method).1
  have X0 : Stand p l e room_1 s m #[(.int i0), (.int i1), (.int i2)] below meth c s₁ [] 0 0 := Stand.of_body Bd
  have e0 : s₁.heap = h0 := by rw [← hh, Bd.state]; rfl
  have N0 := Fr.nil n0
  have c0 : Steps p.tables e below (s₁.setTop (entryFrame m #[(.int i0), (.int i1), (.int i2)] maxLocals)) (s₁.setTop (mkF m 0 #[.val (.int i0), .val (.int i1), .val (.int i2), .unset, .unset, .unset, .unset, .unset, .unset, .unset, .unset, .unset, .unset, .unset, .unset, .unset, .unset, .unset, .unset, .unset, .unset, .unset, .unset, .unset] [])) := castTop (ef0 m i0 i1 i2) (Steps.refl _)
  show ∃ s₂ o, Steps p.tables e below (s₁.setTop (entryFrame m #[(.int i0), (.int i1), (.int i2)] maxLocals)) s₂ ∧ _ ∧ _ ∧ _
  generalize s₁.setTop (entryFrame m #[(.int i0), (.int i1), (.int i2)] maxLocals) = S0 at c0 ⊢
  have c1 : Steps p.tables e below S0 (s₁.setTop (mkF m 2 #[.val (.int i0), .val (.int i1), .val (.int i2), .unset, .unset, .unset, .unset, .unset, .unset, .unset, .unset, .unset, .unset, .unset, .unset, .unset, .unset, .unset, .unset, .unset, .unset, .unset, .unset, .unset] [(.int i1), (.int i0)])) := by
    refine c0.trans ?_
    show Steps p.tables e below (s₁.setTop (mkF m 0 #[.val (.int i0), .val (.int i1), .val (.int i2), .unset, .unset, .unset, .unset, .unset, .unset, .unset, .unset, .unset, .unset, .unset, .unset, .unset, .unset, .unset, .unset, .unset, .unset, .unset, .unset, .unset] [])) _
    refine XS.iloadN X0.here hx rfl (hb hby at_0) rfl ?_
    show Steps p.tables e below (s₁.setTop (mkF m 1 #[.val (.int i0), .val (.int i1), .val (.int i2), .unset, .unset, .unset, .unset, .unset, .unset, .unset, .unset, .unset, .unset, .unset, .unset, .unset, .unset, .unset, .unset, .unset, .unset, .unset, .unset, .unset] [(.int i0)])) _
    refine XS.iloadN X0.here hx rfl (hb hby at_1) rfl ?_
    exact Steps.refl _
  obtain ⟨_, _, ⟨T2, L2, k2, n2⟩, -, X2, ⟨Lc2, hQ2, l2, y2, z2⟩, st2⟩ := Jvm.LawKit.callS X0 hx (y := (⟨"java/lang/Math", "min", "(II)I"⟩ : MethodName)) hown (mvT hZ (hw _ (List.mem_of_getElem? (i := 0) rfl))) (mvT hZ (hw _ (List.mem_of_getElem? (i := 1) rfl))) (mvT hZ (hw _ (List.mem_of_getElem? (i := 2) rfl))) (mvT hZ (hw _ (List.mem_of_getElem? (i := 3) rfl))) (by decide) (backOf (W := 0) (rm69 l Z a0 hw [] i0 i1 h0 n0 Z0) hZ (hw _ (List.mem_of_getElem? (i := 3) rfl)) (hw _ (List.mem_of_getElem? (i := 2) rfl)) (by decide) (by decide)) (g := (mkF m 2 #[.val (.int i0), .val (.int i1), .val (.int i2), .unset, .unset, .unset, .unset, .unset, .unset, .unset, .unset, .unset, .unset, .unset, .unset, .unset, .unset, .unset, .unset, .unset, .unset, .unset, .unset, .unset] [(.int i1), (.int i0)])) rfl (by rw [hml]; rfl) (argsL := [(.int i0), (.int i1)]) (rest := []) (lenOf pd3 rfl) rfl (by show 2 * 0 + _ ≤ _; exact Nat.le_of_eq rfl) (hb hby at_2) (fun _ _ => ⟨rfl, e0, (by decide : 0 + 0 ≤ _), (by decide : 0 + 0 ≤ _)⟩)
  dsimp only [Pt.U, Pt.locs, Pt.cells, Pt.slots] at X2 l2 y2 z2 st2 hQ2
  subst l2 y2 z2
  obtain ⟨rfl, N1, e1⟩ := hQ2
  have c2 : Steps p.tables e below S0 (T2.setTop (mkF m 5 #[.val (.int i0), .val (.int i1), .val (.int i2), .unset, .unset, .unset, .unset, .unset, .unset, .unset, .unset, .unset, .unset, .unset, .unset, .unset, .unset, .unset, .unset, .unset, .unset, .unset, .unset, .unset] [(.int (if i1 < i0 then i1 else i0))])) := by
    refine c1.trans ?_
    show Steps p.tables e below (s₁.setTop (mkF m 2 #[.val (.int i0), .val (.int i1), .val (.int i2), .unset, .unset, .unset, .unset, .unset, .unset, .unset, .unset, .unset, .unset, .unset, .unset, .unset, .unset, .unset, .unset, .unset, .unset, .unset, .unset, .unset] [(.int i1), (.int i0)])) _
    refine st2 _ ?_
    exact Steps.refl _
  have c3 : Steps p.tables e below S0 (T2.setTop (mkF m 8 #[.val (.int i0), .val (.int i1), .val (.int i2), .val (.int (if i1 < i0 then i1 else i0)), .unset, .unset, .unset, .unset, .unset, .unset, .unset, .unset, .unset, .unset, .unset, .unset, .unset, .unset, .unset, .unset, .unset, .unset, .unset, .unset] [(.int i1), (.int i0)])) := by
    refine c2.trans ?_
    show Steps p.tables e below (T2.setTop (mkF m 5 #[.val (.int i0), .val (.int i1), .val (.int i2), .unset, .unset, .unset, .unset, .unset, .unset, .unset, .unset, .unset, .unset, .unset, .unset, .unset, .unset, .unset, .unset, .unset, .unset, .unset, .unset, .unset] [(.int (if i1 < i0 then i1 else i0))])) _
    refine XS.istoreN X2.here hx rfl (hb hby at_5) rfl (l' := #[.val (.int i0), .val (.int i1), .val (.int i2), .val (.int (if i1 < i0 then i1 else i0)), .unset, .unset, .unset, .unset, .unset, .unset, .unset, .unset, .unset, .unset, .unset, .unset, .unset, .unset, .unset, .unset, .unset, .unset, .unset, .unset]) rfl ?_
    show Steps p.tables e below (T2.setTop (mkF m 6 #[.val (.int i0), .val (.int i1), .val (.int i2), .val (.int (if i1 < i0 then i1 else i0)), .unset, .unset, .unset, .unset, .unset, .unset, .unset, .unset, .unset, .unset, .unset, .unset, .unset, .unset, .unset, .unset, .unset, .unset, .unset, .unset] [])) _
    refine XS.iloadN X2.here hx rfl (hb hby at_6) rfl ?_
    show Steps p.tables e below (T2.setTop (mkF m 7 #[.val (.int i0), .val (.int i1), .val (.int i2), .val (.int (if i1 < i0 then i1 else i0)), .unset, .unset, .unset, .unset, .unset, .unset, .unset, .unset, .unset, .unset, .unset, .unset, .unset, .unset, .unset, .unset, .unset, .unset, .unset, .unset] [(.int i0)])) _
    refine XS.iloadN X2.here hx rfl (hb hby at_7) rfl ?_
    exact Steps.refl _
  obtain ⟨_, _, ⟨T4, L4, k4, n4⟩, -, X4, ⟨Lc4, hQ4, l4, y4, z4⟩, st4⟩ := Jvm.LawKit.callS X2 hx (y := (⟨"java/lang/Math", "max", "(II)I"⟩ : MethodName)) hown (mvT hZ (hw _ (List.mem_of_getElem? (i := 4) rfl))) (mvT hZ (hw _ (List.mem_of_getElem? (i := 5) rfl))) (mvT hZ (hw _ (List.mem_of_getElem? (i := 2) rfl))) (mvT hZ (hw _ (List.mem_of_getElem? (i := 6) rfl))) (by decide) (backOf (W := 0) (rm65 l Z a0 hw [] i0 i1 h0 n0 Z0) hZ (hw _ (List.mem_of_getElem? (i := 6) rfl)) (hw _ (List.mem_of_getElem? (i := 2) rfl)) (by decide) (by decide)) (g := (mkF m 8 #[.val (.int i0), .val (.int i1), .val (.int i2), .val (.int (if i1 < i0 then i1 else i0)), .unset, .unset, .unset, .unset, .unset, .unset, .unset, .unset, .unset, .unset, .unset, .unset, .unset, .unset, .unset, .unset, .unset, .unset, .unset, .unset] [(.int i1), (.int i0)])) rfl (by rw [hml]; rfl) (argsL := [(.int i0), (.int i1)]) (rest := []) (lenOf pd3 rfl) rfl (by show 2 * 0 + _ ≤ _; exact Nat.le_of_eq rfl) (hb hby at_8) (fun _ _ => ⟨rfl, e1, (by decide : 0 + 0 ≤ _), (by decide : 0 + 0 ≤ _)⟩)
  dsimp only [Pt.U, Pt.locs, Pt.cells, Pt.slots] at X4 l4 y4 z4 st4 hQ4
  subst l4 y4 z4
  obtain ⟨rfl, N2, e2⟩ := hQ4
  have c4 : Steps p.tables e below S0 (T4.setTop (mkF m 11 #[.val (.int i0), .val (.int i1), .val (.int i2), .val (.int (if i1 < i0 then i1 else i0)), .unset, .unset, .unset, .unset, .unset, .unset, .unset, .unset, .unset, .unset, .unset, .unset, .unset, .unset, .unset, .unset, .unset, .unset, .unset, .unset] [(.int (if i0 < i1 then i1 else i0))])) := by
    refine c3.trans ?_
    show Steps p.tables e below (T2.setTop (mkF m 8 #[.val (.int i0), .val (.int i1), .val (.int i2), .val (.int (if i1 < i0 then i1 else i0)), .unset, .unset, .unset, .unset, .unset, .unset, .unset, .unset, .unset, .unset, .unset, .unset, .unset, .unset, .unset, .unset, .unset, .unset, .unset, .unset] [(.int i1), (.int i0)])) _
    refine st4 _ ?_
    exact Steps.refl _
  have hlh := own_minmax i0 i1
  generalize (if i1 < i0 then i1 else i0) = lo at hlh c4
  generalize (if i0 < i1 then i1 else i0) = hi at hlh c4
  have hp0 : DV (FP.dmul (4886405595696988160 : UInt64) (4886405595696988160 : UInt64)) 1 1198 := by
    have := dmul_v 52 1198 own_p own_p (by decide) (by decide) (by decide) (by decide)
    rwa [Int.mul_one] at this
  have c5 : Steps p.tables e below S0 (T4.setTop (mkF m 23 #[.val (.int i0), .val (.int i1), .val (.int i2), .val (.int lo), .val (.int hi), .val (.double (4886405595696988160 : UInt64)), .second, .unset, .unset, .unset, .unset, .unset, .unset, .unset, .unset, .unset, .unset, .unset, .unset, .unset, .unset, .unset, .unset, .unset] [(.double (FP.dmul (4886405595696988160 : UInt64) (4886405595696988160 : UInt64)))])) := by
    refine c4.trans ?_
    show Steps p.tables e below (T4.setTop (mkF m 11 #[.val (.int i0), .val (.int i1), .val (.int i2), .val (.int lo), .unset, .unset, .unset, .unset, .unset, .unset, .unset, .unset, .unset, .unset, .unset, .unset, .unset, .unset, .unset, .unset, .unset, .unset, .unset, .unset] [(.int hi)])) _
    refine XS.istore X4.here hx rfl (hb hby at_11) rfl (l' := #[.val (.int i0), .val (.int i1), .val (.int i2), .val (.int lo), .val (.int hi), .unset, .unset, .unset, .unset, .unset, .unset, .unset, .unset, .unset, .unset, .unset, .unset, .unset, .unset, .unset, .unset, .unset, .unset, .unset]) rfl ?_
    show Steps p.tables e below (T4.setTop (mkF m 13 #[.val (.int i0), .val (.int i1), .val (.int i2), .val (.int lo), .val (.int hi), .unset, .unset, .unset, .unset, .unset, .unset, .unset, .unset, .unset, .unset, .unset, .unset, .unset, .unset, .unset, .unset, .unset, .unset, .unset] [])) _
    refine X4.ldc2DoubleC hx hown (mvT hZ (hw _ (List.mem_of_getElem? (i := 7) rfl))) (g := (mkF m 13 #[.val (.int i0), .val (.int i1), .val (.int i2), .val (.int lo), .val (.int hi), .unset, .unset, .unset, .unset, .unset, .unset, .unset, .unset, .unset, .unset, .unset, .unset, .unset, .unset, .unset, .unset, .unset, .unset, .unset] [])) rfl (hb hby at_13) _ ?_
    show Steps p.tables e below (T4.setTop (mkF m 16 #[.val (.int i0), .val (.int i1), .val (.int i2), .val (.int lo), .val (.int hi), .unset, .unset, .unset, .unset, .unset, .unset, .unset, .unset, .unset, .unset, .unset, .unset, .unset, .unset, .unset, .unset, .unset, .unset, .unset] [(.double (4886405595696988160 : UInt64))])) _
    refine XS.dstore X4.here hx rfl (hb hby at_16) rfl (l' := #[.val (.int i0), .val (.int i1), .val (.int i2), .val (.int lo), .val (.int hi), .val (.double (4886405595696988160 : UInt64)), .second, .unset, .unset, .unset, .unset, .unset, .unset, .unset, .unset, .unset, .unset, .unset, .unset, .unset, .unset, .unset, .unset, .unset]) rfl ?_
    show Steps p.tables e below (T4.setTop (mkF m 18 #[.val (.int i0), .val (.int i1), .val (.int i2), .val (.int lo), .val (.int hi), .val (.double (4886405595696988160 : UInt64)), .second, .unset, .unset, .unset, .unset, .unset, .unset, .unset, .unset, .unset, .unset, .unset, .unset, .unset, .unset, .unset, .unset, .unset] [])) _
    refine XS.dload X4.here hx rfl (hb hby at_18) rfl ?_
    show Steps p.tables e below (T4.setTop (mkF m 20 #[.val (.int i0), .val (.int i1), .val (.int i2), .val (.int lo), .val (.int hi), .val (.double (4886405595696988160 : UInt64)), .second, .unset, .unset, .unset, .unset, .unset, .unset, .unset, .unset, .unset, .unset, .unset, .unset, .unset, .unset, .unset, .unset, .unset] [(.double (4886405595696988160 : UInt64))])) _
    refine XS.dload X4.here hx rfl (hb hby at_20) rfl ?_
    show Steps p.tables e below (T4.setTop (mkF m 22 #[.val (.int i0), .val (.int i1), .val (.int i2), .val (.int lo), .val (.int hi), .val (.double (4886405595696988160 : UInt64)), .second, .unset, .unset, .unset, .unset, .unset, .unset, .unset, .unset, .unset, .unset, .unset, .unset, .unset, .unset, .unset, .unset, .unset] [(.double (4886405595696988160 : UInt64)), (.double (4886405595696988160 : UInt64))])) _
    refine XS.dmulS X4.here hx rfl (v := (FP.dmul (4886405595696988160 : UInt64) (4886405595696988160 : UInt64))) (hb hby at_22) rfl hp0.noNaN rfl ?_
    exact Steps.refl _
  generalize (FP.dmul (4886405595696988160 : UInt64) (4886405595696988160 : UInt64)) = P0 at hp0 c5
  have hp1 : DV (FP.dmul P0 P0) 1 1322 := by
    have := dmul_v 52 1322 hp0 hp0 (by decide) (by decide) (by decide) (by decide)
    rwa [Int.mul_one] at this
  have c6 : Steps p.tables e below S0 (T4.setTop (mkF m 30 #[.val (.int i0), .val (.int i1), .val (.int i2), .val (.int lo), .val (.int hi), .val (.double (4886405595696988160 : UInt64)), .second, .val (.double P0), .second, .unset, .unset, .unset, .unset, .unset, .unset, .unset, .unset, .unset, .unset, .unset, .unset, .unset, .unset, .unset] [(.double (FP.dmul P0 P0))])) := by
    refine c5.trans ?_
    show Steps p.tables e below (T4.setTop (mkF m 23 #[.val (.int i0), .val (.int i1), .val (.int i2), .val (.int lo), .val (.int hi), .val (.double (4886405595696988160 : UInt64)), .second, .unset, .unset, .unset, .unset, .unset, .unset, .unset, .unset, .unset, .unset, .unset, .unset, .unset, .unset, .unset, .unset, .unset] [(.double P0)])) _
    refine XS.dstore X4.here hx rfl (hb hby at_23) rfl (l' := #[.val (.int i0), .val (.int i1), .val (.int i2), .val (.int lo), .val (.int hi), .val (.double (4886405595696988160 : UInt64)), .second, .val (.double P0), .second, .unset, .unset, .unset, .unset, .unset, .unset, .unset, .unset, .unset, .unset, .unset, .unset, .unset, .unset, .unset]) rfl ?_
    show Steps p.tables e below (T4.setTop (mkF m 25 #[.val (.int i0), .val (.int i1), .val (.int i2), .val (.int lo), .val (.int hi), .val (.double (4886405595696988160 : UInt64)), .second, .val (.double P0), .second, .unset, .unset, .unset, .unset, .unset, .unset, .unset, .unset, .unset, .unset, .unset, .unset, .unset, .unset, .unset] [])) _
    refine XS.dload X4.here hx rfl (hb hby at_25) rfl ?_
    show Steps p.tables e below (T4.setTop (mkF m 27 #[.val (.int i0), .val (.int i1), .val (.int i2), .val (.int lo), .val (.int hi), .val (.double (4886405595696988160 : UInt64)), .second, .val (.double P0), .second, .unset, .unset, .unset, .unset, .unset, .unset, .unset, .unset, .unset, .unset, .unset, .unset, .unset, .unset, .unset] [(.double P0)])) _
    refine XS.dload X4.here hx rfl (hb hby at_27) rfl ?_
    show Steps p.tables e below (T4.setTop (mkF m 29 #[.val (.int i0), .val (.int i1), .val (.int i2), .val (.int lo), .val (.int hi), .val (.double (4886405595696988160 : UInt64)), .second, .val (.double P0), .second, .unset, .unset, .unset, .unset, .unset, .unset, .unset, .unset, .unset, .unset, .unset, .unset, .unset, .unset, .unset] [(.double P0), (.double P0)])) _
    refine XS.dmulS X4.here hx rfl (v := (FP.dmul P0 P0)) (hb hby at_29) rfl hp1.noNaN rfl ?_
    exact Steps.refl _
  generalize (FP.dmul P0 P0) = P1 at hp1 c6
  have hp2 : DV (FP.dmul P1 P1) 1 1570 := by
    have := dmul_v 52 1570 hp1 hp1 (by decide) (by decide) (by decide) (by decide)
    rwa [Int.mul_one] at this
  have c7 : Steps p.tables e below S0 (T4.setTop (mkF m 37 #[.val (.int i0), .val (.int i1), .val (.int i2), .val (.int lo), .val (.int hi), .val (.double (4886405595696988160 : UInt64)), .second, .val (.double P0), .second, .val (.double P1), .second, .unset, .unset, .unset, .unset, .unset, .unset, .unset, .unset, .unset, .unset, .unset, .unset, .unset] [(.double (FP.dmul P1 P1))])) := by
    refine c6.trans ?_
    show Steps p.tables e below (T4.setTop (mkF m 30 #[.val (.int i0), .val (.int i1), .val (.int i2), .val (.int lo), .val (.int hi), .val (.double (4886405595696988160 : UInt64)), .second, .val (.double P0), .second, .unset, .unset, .unset, .unset, .unset, .unset, .unset, .unset, .unset, .unset, .unset, .unset, .unset, .unset, .unset] [(.double P1)])) _
    refine XS.dstore X4.here hx rfl (hb hby at_30) rfl (l' := #[.val (.int i0), .val (.int i1), .val (.int i2), .val (.int lo), .val (.int hi), .val (.double (4886405595696988160 : UInt64)), .second, .val (.double P0), .second, .val (.double P1), .second, .unset, .unset, .unset, .unset, .unset, .unset, .unset, .unset, .unset, .unset, .unset, .unset, .unset]) rfl ?_
    show Steps p.tables e below (T4.setTop (mkF m 32 #[.val (.int i0), .val (.int i1), .val (.int i2), .val (.int lo), .val (.int hi), .val (.double (4886405595696988160 : UInt64)), .second, .val (.double P0), .second, .val (.double P1), .second, .unset, .unset, .unset, .unset, .unset, .unset, .unset, .unset, .unset, .unset, .unset, .unset, .unset] [])) _
    refine XS.dload X4.here hx rfl (hb hby at_32) rfl ?_
    show Steps p.tables e below (T4.setTop (mkF m 34 #[.val (.int i0), .val (.int i1), .val (.int i2), .val (.int lo), .val (.int hi), .val (.double (4886405595696988160 : UInt64)), .second, .val (.double P0), .second, .val (.double P1), .second, .unset, .unset, .unset, .unset, .unset, .unset, .unset, .unset, .unset, .unset, .unset, .unset, .unset] [(.double P1)])) _
    refine XS.dload X4.here hx rfl (hb hby at_34) rfl ?_
    show Steps p.tables e below (T4.setTop (mkF m 36 #[.val (.int i0), .val (.int i1), .val (.int i2), .val (.int lo), .val (.int hi), .val (.double (4886405595696988160 : UInt64)), .second, .val (.double P0), .second, .val (.double P1), .second, .unset, .unset, .unset, .unset, .unset, .unset, .unset, .unset, .unset, .unset, .unset, .unset, .unset] [(.double P1), (.double P1)])) _
    refine XS.dmulS X4.here hx rfl (v := (FP.dmul P1 P1)) (hb hby at_36) rfl hp2.noNaN rfl ?_
    exact Steps.refl _
  generalize (FP.dmul P1 P1) = P2 at hp2 c7
  have hp3 : DV (FP.dmul P2 P2) 1 2066 := by
    have := dmul_v 52 2066 hp2 hp2 (by decide) (by decide) (by decide) (by decide)
    rwa [Int.mul_one] at this
  have c8 : Steps p.tables e below S0 (T4.setTop (mkF m 44 #[.val (.int i0), .val (.int i1), .val (.int i2), .val (.int lo), .val (.int hi), .val (.double (4886405595696988160 : UInt64)), .second, .val (.double P0), .second, .val (.double P1), .second, .val (.double P2), .second, .unset, .unset, .unset, .unset, .unset, .unset, .unset, .unset, .unset, .unset, .unset] [(.double (FP.dmul P2 P2))])) := by
    refine c7.trans ?_
    show Steps p.tables e below (T4.setTop (mkF m 37 #[.val (.int i0), .val (.int i1), .val (.int i2), .val (.int lo), .val (.int hi), .val (.double (4886405595696988160 : UInt64)), .second, .val (.double P0), .second, .val (.double P1), .second, .unset, .unset, .unset, .unset, .unset, .unset, .unset, .unset, .unset, .unset, .unset, .unset, .unset] [(.double P2)])) _
    refine XS.dstore X4.here hx rfl (hb hby at_37) rfl (l' := #[.val (.int i0), .val (.int i1), .val (.int i2), .val (.int lo), .val (.int hi), .val (.double (4886405595696988160 : UInt64)), .second, .val (.double P0), .second, .val (.double P1), .second, .val (.double P2), .second, .unset, .unset, .unset, .unset, .unset, .unset, .unset, .unset, .unset, .unset, .unset]) rfl ?_
    show Steps p.tables e below (T4.setTop (mkF m 39 #[.val (.int i0), .val (.int i1), .val (.int i2), .val (.int lo), .val (.int hi), .val (.double (4886405595696988160 : UInt64)), .second, .val (.double P0), .second, .val (.double P1), .second, .val (.double P2), .second, .unset, .unset, .unset, .unset, .unset, .unset, .unset, .unset, .unset, .unset, .unset] [])) _
    refine XS.dload X4.here hx rfl (hb hby at_39) rfl ?_
    show Steps p.tables e below (T4.setTop (mkF m 41 #[.val (.int i0), .val (.int i1), .val (.int i2), .val (.int lo), .val (.int hi), .val (.double (4886405595696988160 : UInt64)), .second, .val (.double P0), .second, .val (.double P1), .second, .val (.double P2), .second, .unset, .unset, .unset, .unset, .unset, .unset, .unset, .unset, .unset, .unset, .unset] [(.double P2)])) _
    refine XS.dload X4.here hx rfl (hb hby at_41) rfl ?_
    show Steps p.tables e below (T4.setTop (mkF m 43 #[.val (.int i0), .val (.int i1), .val (.int i2), .val (.int lo), .val (.int hi), .val (.double (4886405595696988160 : UInt64)), .second, .val (.double P0), .second, .val (.double P1), .second, .val (.double P2), .second, .unset, .unset, .unset, .unset, .unset, .unset, .unset, .unset, .unset, .unset, .unset] [(.double P2), (.double P2)])) _
    refine XS.dmulS X4.here hx rfl (v := (FP.dmul P2 P2)) (hb hby at_43) rfl hp3.noNaN rfl ?_
    exact Steps.refl _
  generalize (FP.dmul P2 P2) = P3 at hp3 c8
  have c9 : Steps p.tables e below S0 (T4.setTop (mkF m 49 #[.val (.int i0), .val (.int i1), .val (.int i2), .val (.int lo), .val (.int hi), .val (.double (4886405595696988160 : UInt64)), .second, .val (.double P0), .second, .val (.double P1), .second, .val (.double P2), .second, .val (.double P3), .second, .unset, .unset, .unset, .unset, .unset, .unset, .unset, .unset, .unset] [(.int (i2 &&& (1 : Int32)))])) := by
    refine c8.trans ?_
    show Steps p.tables e below (T4.setTop (mkF m 44 #[.val (.int i0), .val (.int i1), .val (.int i2), .val (.int lo), .val (.int hi), .val (.double (4886405595696988160 : UInt64)), .second, .val (.double P0), .second, .val (.double P1), .second, .val (.double P2), .second, .unset, .unset, .unset, .unset, .unset, .unset, .unset, .unset, .unset, .unset, .unset] [(.double P3)])) _
    refine XS.dstore X4.here hx rfl (hb hby at_44) rfl (l' := #[.val (.int i0), .val (.int i1), .val (.int i2), .val (.int lo), .val (.int hi), .val (.double (4886405595696988160 : UInt64)), .second, .val (.double P0), .second, .val (.double P1), .second, .val (.double P2), .second, .val (.double P3), .second, .unset, .unset, .unset, .unset, .unset, .unset, .unset, .unset, .unset]) rfl ?_
    show Steps p.tables e below (T4.setTop (mkF m 46 #[.val (.int i0), .val (.int i1), .val (.int i2), .val (.int lo), .val (.int hi), .val (.double (4886405595696988160 : UInt64)), .second, .val (.double P0), .second, .val (.double P1), .second, .val (.double P2), .second, .val (.double P3), .second, .unset, .unset, .unset, .unset, .unset, .unset, .unset, .unset, .unset] [])) _
    refine XS.iloadN X4.here hx rfl (hb hby at_46) rfl ?_
    show Steps p.tables e below (T4.setTop (mkF m 47 #[.val (.int i0), .val (.int i1), .val (.int i2), .val (.int lo), .val (.int hi), .val (.double (4886405595696988160 : UInt64)), .second, .val (.double P0), .second, .val (.double P1), .second, .val (.double P2), .second, .val (.double P3), .second, .unset, .unset, .unset, .unset, .unset, .unset, .unset, .unset, .unset] [(.int i2)])) _
    refine XS.iconst X4.here hx rfl (hb hby at_47) ?_
    show Steps p.tables e below (T4.setTop (mkF m 48 #[.val (.int i0), .val (.int i1), .val (.int i2), .val (.int lo), .val (.int hi), .val (.double (4886405595696988160 : UInt64)), .second, .val (.double P0), .second, .val (.double P1), .second, .val (.double P2), .second, .val (.double P3), .second, .unset, .unset, .unset, .unset, .unset, .unset, .unset, .unset, .unset] [(.int (1 : Int32)), (.int i2)])) _
    refine XS.iand X4.here hx rfl (hb hby at_48) rfl ?_
    exact Steps.refl _
  obtain ⟨sc, E, hsc, hE1, hE2, c10⟩ : ∃ (sc : UInt64) (E : Nat), DV sc 1 E ∧ 1074 ≤ E ∧ E ≤ 2066 ∧ Steps p.tables e below S0 (T4.setTop (mkF m 58 #[.val (.int i0), .val (.int i1), .val (.int i2), .val (.int lo), .val (.int hi), .val (.double (4886405595696988160 : UInt64)), .second, .val (.double P0), .second, .val (.double P1), .second, .val (.double P2), .second, .val (.double P3), .second, .unset, .unset, .unset, .unset, .unset, .unset, .unset, .unset, .unset] [(.double sc)])) := by
    by_cases hj : (i2 &&& (1 : Int32)) = 0
    · refine ⟨_, _, own_1, by decide, by decide, c9.trans ?_⟩
      show Steps p.tables e below (T4.setTop (mkF m 49 #[.val (.int i0), .val (.int i1), .val (.int i2), .val (.int lo), .val (.int hi), .val (.double (4886405595696988160 : UInt64)), .second, .val (.double P0), .second, .val (.double P1), .second, .val (.double P2), .second, .val (.double P3), .second, .unset, .unset, .unset, .unset, .unset, .unset, .unset, .unset, .unset] [(.int (i2 &&& (1 : Int32)))])) _
      refine XS.ifYes X4.here hx rfl (pc0 := 49) (pc' := 57) rfl (hb hby at_49) rfl ((if0 _ _).trans (teq hj).1) (by decide) (by decide) ?_
      show Steps p.tables e below (T4.setTop (mkF m 57 #[.val (.int i0), .val (.int i1), .val (.int i2), .val (.int lo), .val (.int hi), .val (.double (4886405595696988160 : UInt64)), .second, .val (.double P0), .second, .val (.double P1), .second, .val (.double P2), .second, .val (.double P3), .second, .unset, .unset, .unset, .unset, .unset, .unset, .unset, .unset, .unset] [])) _
      refine XS.dconst1 X4.here hx rfl (v := 4607182418800017408) (hb hby at_57) rfl ?_
      exact Steps.refl _
    · refine ⟨_, _, hp3, by decide, by decide, c9.trans ?_⟩
      show Steps p.tables e below (T4.setTop (mkF m 49 #[.val (.int i0), .val (.int i1), .val (.int i2), .val (.int lo), .val (.int hi), .val (.double (4886405595696988160 : UInt64)), .second, .val (.double P0), .second, .val (.double P1), .second, .val (.double P2), .second, .val (.double P3), .second, .unset, .unset, .unset, .unset, .unset, .unset, .unset, .unset, .unset] [(.int (i2 &&& (1 : Int32)))])) _
      refine XS.ifNo X4.here hx rfl (hb hby at_49) rfl ((if0 _ _).trans (feq hj).1) ?_
      show Steps p.tables e below (T4.setTop (mkF m 52 #[.val (.int i0), .val (.int i1), .val (.int i2), .val (.int lo), .val (.int hi), .val (.double (4886405595696988160 : UInt64)), .second, .val (.double P0), .second, .val (.double P1), .second, .val (.double P2), .second, .val (.double P3), .second, .unset, .unset, .unset, .unset, .unset, .unset, .unset, .unset, .unset] [])) _
      refine XS.dload X4.here hx rfl (hb hby at_52) rfl ?_
      show Steps p.tables e below (T4.setTop (mkF m 54 #[.val (.int i0), .val (.int i1), .val (.int i2), .val (.int lo), .val (.int hi), .val (.double (4886405595696988160 : UInt64)), .second, .val (.double P0), .second, .val (.double P1), .second, .val (.double P2), .second, .val (.double P3), .second, .unset, .unset, .unset, .unset, .unset, .unset, .unset, .unset, .unset] [(.double P3)])) _
      refine XS.goto X4.here hx rfl (pc0 := 54) (pc' := 58) rfl (hb hby at_54) (by decide) (by decide) ?_
      exact Steps.refl _
  have hhf : DV (FP.dmul sc (4602678819172646912 : UInt64)) 1 (E - 1) := by
    have := dmul_v 52 (E - 1) hsc own_half (by omega) (by decide) (by omega) (by omega)
    rwa [Int.mul_one] at this
  have hlo : lo.toInt.natAbs ≤ 2 ^ 31 := int32_abs lo
  have hhi : hi.toInt.natAbs ≤ 2 ^ 31 := int32_abs hi
  have hvlo : DV (FP.dmul (FP.i2d lo) sc) lo.toInt E := by
    have := dmul_v 21 E (i2d_v lo) hsc (by omega) (by rw [Int.mul_one]; omega) (by omega) (by omega)
    rwa [Int.mul_one] at this
  have hvhi : DV (FP.dmul (FP.i2d hi) sc) hi.toInt E := by
    have := dmul_v 21 E (i2d_v hi) hsc (by omega) (by rw [Int.mul_one]; omega) (by omega) (by omega)
    rwa [Int.mul_one] at this
  have c11 : Steps p.tables e below S0 (T4.setTop (mkF m 68 #[.val (.int i0), .val (.int i1), .val (.int i2), .val (.int lo), .val (.int hi), .val (.double (4886405595696988160 : UInt64)), .second, .val (.double P0), .second, .val (.double P1), .second, .val (.double P2), .second, .val (.double P3), .second, .val (.double sc), .second, .val (.double (FP.dmul sc (4602678819172646912 : UInt64))), .second, .unset, .unset, .unset, .unset, .unset] [])) := by
    refine c10.trans ?_
    show Steps p.tables e below (T4.setTop (mkF m 58 #[.val (.int i0), .val (.int i1), .val (.int i2), .val (.int lo), .val (.int hi), .val (.double (4886405595696988160 : UInt64)), .second, .val (.double P0), .second, .val (.double P1), .second, .val (.double P2), .second, .val (.double P3), .second, .unset, .unset, .unset, .unset, .unset, .unset, .unset, .unset, .unset] [(.double sc)])) _
    refine XS.dstore X4.here hx rfl (hb hby at_58) rfl (l' := #[.val (.int i0), .val (.int i1), .val (.int i2), .val (.int lo), .val (.int hi), .val (.double (4886405595696988160 : UInt64)), .second, .val (.double P0), .second, .val (.double P1), .second, .val (.double P2), .second, .val (.double P3), .second, .val (.double sc), .second, .unset, .unset, .unset, .unset, .unset, .unset, .unset]) rfl ?_
    show Steps p.tables e below (T4.setTop (mkF m 60 #[.val (.int i0), .val (.int i1), .val (.int i2), .val (.int lo), .val (.int hi), .val (.double (4886405595696988160 : UInt64)), .second, .val (.double P0), .second, .val (.double P1), .second, .val (.double P2), .second, .val (.double P3), .second, .val (.double sc), .second, .unset, .unset, .unset, .unset, .unset, .unset, .unset] [])) _
    refine XS.dload X4.here hx rfl (hb hby at_60) rfl ?_
    show Steps p.tables e below (T4.setTop (mkF m 62 #[.val (.int i0), .val (.int i1), .val (.int i2), .val (.int lo), .val (.int hi), .val (.double (4886405595696988160 : UInt64)), .second, .val (.double P0), .second, .val (.double P1), .second, .val (.double P2), .second, .val (.double P3), .second, .val (.double sc), .second, .unset, .unset, .unset, .unset, .unset, .unset, .unset] [(.double sc)])) _
    refine X4.ldc2DoubleC hx hown (mvT hZ (hw _ (List.mem_of_getElem? (i := 8) rfl))) (g := (mkF m 62 #[.val (.int i0), .val (.int i1), .val (.int i2), .val (.int lo), .val (.int hi), .val (.double (4886405595696988160 : UInt64)), .second, .val (.double P0), .second, .val (.double P1), .second, .val (.double P2), .second, .val (.double P3), .second, .val (.double sc), .second, .unset, .unset, .unset, .unset, .unset, .unset, .unset] [(.double sc)])) rfl (hb hby at_62) _ ?_
    show Steps p.tables e below (T4.setTop (mkF m 65 #[.val (.int i0), .val (.int i1), .val (.int i2), .val (.int lo), .val (.int hi), .val (.double (4886405595696988160 : UInt64)), .second, .val (.double P0), .second, .val (.double P1), .second, .val (.double P2), .second, .val (.double P3), .second, .val (.double sc), .second, .unset, .unset, .unset, .unset, .unset, .unset, .unset] [(.double (4602678819172646912 : UInt64)), (.double sc)])) _
    refine XS.dmulS X4.here hx rfl (v := (FP.dmul sc (4602678819172646912 : UInt64))) (hb hby at_65) rfl hhf.noNaN rfl ?_
    show Steps p.tables e below (T4.setTop (mkF m 66 #[.val (.int i0), .val (.int i1), .val (.int i2), .val (.int lo), .val (.int hi), .val (.double (4886405595696988160 : UInt64)), .second, .val (.double P0), .second, .val (.double P1), .second, .val (.double P2), .second, .val (.double P3), .second, .val (.double sc), .second, .unset, .unset, .unset, .unset, .unset, .unset, .unset] [(.double (FP.dmul sc (4602678819172646912 : UInt64)))])) _
    refine XS.dstore X4.here hx rfl (hb hby at_66) rfl (l' := #[.val (.int i0), .val (.int i1), .val (.int i2), .val (.int lo), .val (.int hi), .val (.double (4886405595696988160 : UInt64)), .second, .val (.double P0), .second, .val (.double P1), .second, .val (.double P2), .second, .val (.double P3), .second, .val (.double sc), .second, .val (.double (FP.dmul sc (4602678819172646912 : UInt64))), .second, .unset, .unset, .unset, .unset, .unset]) rfl ?_
    exact Steps.refl _
  obtain ⟨T12, h12, X12, e12, E12, A12, D12, -, st12⟩ := newO X4 hx hZ hown (hw _ (List.mem_of_getElem? (i := 9) rfl)) (hw _ (List.mem_of_getElem? (i := 10) rfl)) (hw _ (List.mem_of_getElem? (i := 11) rfl)) e2 (g := (mkF m 68 #[.val (.int i0), .val (.int i1), .val (.int i2), .val (.int lo), .val (.int hi), .val (.double (4886405595696988160 : UInt64)), .second, .val (.double P0), .second, .val (.double P1), .second, .val (.double P2), .second, .val (.double P3), .second, .val (.double sc), .second, .val (.double (FP.dmul sc (4602678819172646912 : UInt64))), .second, .unset, .unset, .unset, .unset, .unset] [])) rfl (hb hby at_68) (by decide) (by decide)
  obtain ⟨b12, g12⟩ : ∃ z, z = h0.size := ⟨_, rfl⟩
  rw [← g12] at A12 D12 st12
  have c12 : Steps p.tables e below S0 (T12.setTop (mkF m 71 #[.val (.int i0), .val (.int i1), .val (.int i2), .val (.int lo), .val (.int hi), .val (.double (4886405595696988160 : UInt64)), .second, .val (.double P0), .second, .val (.double P1), .second, .val (.double P2), .second, .val (.double P3), .second, .val (.double sc), .second, .val (.double (FP.dmul sc (4602678819172646912 : UInt64))), .second, .unset, .unset, .unset, .unset, .unset] [(.ref b12)])) := by
    refine c11.trans ?_
    show Steps p.tables e below (T4.setTop (mkF m 68 #[.val (.int i0), .val (.int i1), .val (.int i2), .val (.int lo), .val (.int hi), .val (.double (4886405595696988160 : UInt64)), .second, .val (.double P0), .second, .val (.double P1), .second, .val (.double P2), .second, .val (.double P3), .second, .val (.double sc), .second, .val (.double (FP.dmul sc (4602678819172646912 : UInt64))), .second, .unset, .unset, .unset, .unset, .unset] [])) _
    refine st12 _ ?_
    exact Steps.refl _
  have gb : n0 ≤ b12 := Nat.le_trans Z0 (Nat.le_of_eq g12.symm)
  have Zb : n0 ≤ h12.size := Nat.le_trans Z0 E12.1
  have Flower : Fld Z h12 b12 "com/example/tight_reach/tightreach/Interval" "lower" "D" (.double 0) := D12 (Or.inr (hw _ (List.mem_of_getElem? (i := 32) rfl))) (ty := .double) (by decide)
  have Fupper : Fld Z h12 b12 "com/example/tight_reach/tightreach/Interval" "upper" "D" (.double 0) := D12 (Or.inr (hw _ (List.mem_of_getElem? (i := 34) rfl))) (ty := .double) (by decide)
  have c13 : Steps p.tables e below S0 (T12.setTop (mkF m 83 #[.val (.int i0), .val (.int i1), .val (.int i2), .val (.int lo), .val (.int hi), .val (.double (4886405595696988160 : UInt64)), .second, .val (.double P0), .second, .val (.double P1), .second, .val (.double P2), .second, .val (.double P3), .second, .val (.double sc), .second, .val (.double (FP.dmul sc (4602678819172646912 : UInt64))), .second, .unset, .unset, .unset, .unset, .unset] [(.double (FP.dmul (FP.i2d hi) sc)), (.double (FP.dmul (FP.i2d lo) sc)), (.ref b12), (.ref b12)])) := by
    refine c12.trans ?_
    show Steps p.tables e below (T12.setTop (mkF m 71 #[.val (.int i0), .val (.int i1), .val (.int i2), .val (.int lo), .val (.int hi), .val (.double (4886405595696988160 : UInt64)), .second, .val (.double P0), .second, .val (.double P1), .second, .val (.double P2), .second, .val (.double P3), .second, .val (.double sc), .second, .val (.double (FP.dmul sc (4602678819172646912 : UInt64))), .second, .unset, .unset, .unset, .unset, .unset] [(.ref b12)])) _
    refine XS.dup X12.here hx rfl (hb hby at_71) rfl rfl ?_
    show Steps p.tables e below (T12.setTop (mkF m 72 #[.val (.int i0), .val (.int i1), .val (.int i2), .val (.int lo), .val (.int hi), .val (.double (4886405595696988160 : UInt64)), .second, .val (.double P0), .second, .val (.double P1), .second, .val (.double P2), .second, .val (.double P3), .second, .val (.double sc), .second, .val (.double (FP.dmul sc (4602678819172646912 : UInt64))), .second, .unset, .unset, .unset, .unset, .unset] [(.ref b12), (.ref b12)])) _
    refine XS.iloadN X12.here hx rfl (hb hby at_72) rfl ?_
    show Steps p.tables e below (T12.setTop (mkF m 73 #[.val (.int i0), .val (.int i1), .val (.int i2), .val (.int lo), .val (.int hi), .val (.double (4886405595696988160 : UInt64)), .second, .val (.double P0), .second, .val (.double P1), .second, .val (.double P2), .second, .val (.double P3), .second, .val (.double sc), .second, .val (.double (FP.dmul sc (4602678819172646912 : UInt64))), .second, .unset, .unset, .unset, .unset, .unset] [(.int lo), (.ref b12), (.ref b12)])) _
    refine XS.i2dS X12.here hx rfl (v := (FP.i2d lo)) (hb hby at_73) rfl rfl ?_
    show Steps p.tables e below (T12.setTop (mkF m 74 #[.val (.int i0), .val (.int i1), .val (.int i2), .val (.int lo), .val (.int hi), .val (.double (4886405595696988160 : UInt64)), .second, .val (.double P0), .second, .val (.double P1), .second, .val (.double P2), .second, .val (.double P3), .second, .val (.double sc), .second, .val (.double (FP.dmul sc (4602678819172646912 : UInt64))), .second, .unset, .unset, .unset, .unset, .unset] [(.double (FP.i2d lo)), (.ref b12), (.ref b12)])) _
    refine XS.dload X12.here hx rfl (hb hby at_74) rfl ?_
    show Steps p.tables e below (T12.setTop (mkF m 76 #[.val (.int i0), .val (.int i1), .val (.int i2), .val (.int lo), .val (.int hi), .val (.double (4886405595696988160 : UInt64)), .second, .val (.double P0), .second, .val (.double P1), .second, .val (.double P2), .second, .val (.double P3), .second, .val (.double sc), .second, .val (.double (FP.dmul sc (4602678819172646912 : UInt64))), .second, .unset, .unset, .unset, .unset, .unset] [(.double sc), (.double (FP.i2d lo)), (.ref b12), (.ref b12)])) _
    refine XS.dmulS X12.here hx rfl (v := (FP.dmul (FP.i2d lo) sc)) (hb hby at_76) rfl hvlo.noNaN rfl ?_
    show Steps p.tables e below (T12.setTop (mkF m 77 #[.val (.int i0), .val (.int i1), .val (.int i2), .val (.int lo), .val (.int hi), .val (.double (4886405595696988160 : UInt64)), .second, .val (.double P0), .second, .val (.double P1), .second, .val (.double P2), .second, .val (.double P3), .second, .val (.double sc), .second, .val (.double (FP.dmul sc (4602678819172646912 : UInt64))), .second, .unset, .unset, .unset, .unset, .unset] [(.double (FP.dmul (FP.i2d lo) sc)), (.ref b12), (.ref b12)])) _
    refine XS.iload X12.here hx rfl (hb hby at_77) rfl ?_
    show Steps p.tables e below (T12.setTop (mkF m 79 #[.val (.int i0), .val (.int i1), .val (.int i2), .val (.int lo), .val (.int hi), .val (.double (4886405595696988160 : UInt64)), .second, .val (.double P0), .second, .val (.double P1), .second, .val (.double P2), .second, .val (.double P3), .second, .val (.double sc), .second, .val (.double (FP.dmul sc (4602678819172646912 : UInt64))), .second, .unset, .unset, .unset, .unset, .unset] [(.int hi), (.double (FP.dmul (FP.i2d lo) sc)), (.ref b12), (.ref b12)])) _
    refine XS.i2dS X12.here hx rfl (v := (FP.i2d hi)) (hb hby at_79) rfl rfl ?_
    show Steps p.tables e below (T12.setTop (mkF m 80 #[.val (.int i0), .val (.int i1), .val (.int i2), .val (.int lo), .val (.int hi), .val (.double (4886405595696988160 : UInt64)), .second, .val (.double P0), .second, .val (.double P1), .second, .val (.double P2), .second, .val (.double P3), .second, .val (.double sc), .second, .val (.double (FP.dmul sc (4602678819172646912 : UInt64))), .second, .unset, .unset, .unset, .unset, .unset] [(.double (FP.i2d hi)), (.double (FP.dmul (FP.i2d lo) sc)), (.ref b12), (.ref b12)])) _
    refine XS.dload X12.here hx rfl (hb hby at_80) rfl ?_
    show Steps p.tables e below (T12.setTop (mkF m 82 #[.val (.int i0), .val (.int i1), .val (.int i2), .val (.int lo), .val (.int hi), .val (.double (4886405595696988160 : UInt64)), .second, .val (.double P0), .second, .val (.double P1), .second, .val (.double P2), .second, .val (.double P3), .second, .val (.double sc), .second, .val (.double (FP.dmul sc (4602678819172646912 : UInt64))), .second, .unset, .unset, .unset, .unset, .unset] [(.double sc), (.double (FP.i2d hi)), (.double (FP.dmul (FP.i2d lo) sc)), (.ref b12), (.ref b12)])) _
    refine XS.dmulS X12.here hx rfl (v := (FP.dmul (FP.i2d hi) sc)) (hb hby at_82) rfl hvhi.noNaN rfl ?_
    exact Steps.refl _
  obtain ⟨_, _, ⟨T14, L14, k14, n14⟩, -, X14, ⟨Lc14, hQ14, l14, y14, z14⟩, st14⟩ := X12.specialBack hx (y := (⟨"com/example/tight_reach/tightreach/Interval", "<init>", "(DD)V"⟩ : MethodName)) rfl hown (mvT hZ (hw _ (List.mem_of_getElem? (i := 12) rfl))) (mvT hZ (hw _ (List.mem_of_getElem? (i := 13) rfl))) (mvT hZ (hw _ (List.mem_of_getElem? (i := 14) rfl))) (by decide) (backOf (W := 1) (rm8 l Z a0 hw [] b12 (FP.dmul (FP.i2d lo) sc) (FP.dmul (FP.i2d hi) sc) lo.toInt hi.toInt E h12 n0 Zb hvlo hvhi hlh.1 hlo hhi hE1 hE2 A12 Flower Fupper gb) hZ (hw _ (List.mem_of_getElem? (i := 14) rfl)) (hw _ (List.mem_of_getElem? (i := 11) rfl)) (by decide) (by decide)) (g := (mkF m 83 #[.val (.int i0), .val (.int i1), .val (.int i2), .val (.int lo), .val (.int hi), .val (.double (4886405595696988160 : UInt64)), .second, .val (.double P0), .second, .val (.double P1), .second, .val (.double P2), .second, .val (.double P3), .second, .val (.double sc), .second, .val (.double (FP.dmul sc (4602678819172646912 : UInt64))), .second, .unset, .unset, .unset, .unset, .unset] [(.double (FP.dmul (FP.i2d hi) sc)), (.double (FP.dmul (FP.i2d lo) sc)), (.ref b12), (.ref b12)])) rfl (by rw [hml]; rfl) (Steps.refl _) (a := b12) (argsL := [(.double (FP.dmul (FP.i2d lo) sc)), (.double (FP.dmul (FP.i2d hi) sc))]) (rest := [(.ref b12)]) (lenOf pd4 rfl) rfl (by show 2 * 0 + _ ≤ _; exact Nat.le_of_eq rfl) (hb hby at_83) (fun _ _ => ⟨rfl, e12, (by decide : 1 + 0 ≤ _), (by decide : 2 + 0 ≤ _)⟩)
  dsimp only [Pt.U, Pt.locs, Pt.cells, Pt.slots] at X14 l14 y14 z14 st14 hQ14
  subst l14 y14 z14
  obtain ⟨rfl, N3, K3, A3, x', y', hx', hy', Fl', Fu'⟩ := hQ14
  have c14 : Steps p.tables e below S0 (T14.setTop (mkF m 86 #[.val (.int i0), .val (.int i1), .val (.int i2), .val (.int lo), .val (.int hi), .val (.double (4886405595696988160 : UInt64)), .second, .val (.double P0), .second, .val (.double P1), .second, .val (.double P2), .second, .val (.double P3), .second, .val (.double sc), .second, .val (.double (FP.dmul sc (4602678819172646912 : UInt64))), .second, .unset, .unset, .unset, .unset, .unset] [(.ref b12)])) := by
    refine c13.trans ?_
    show Steps p.tables e below (T12.setTop (mkF m 83 #[.val (.int i0), .val (.int i1), .val (.int i2), .val (.int lo), .val (.int hi), .val (.double (4886405595696988160 : UInt64)), .second, .val (.double P0), .second, .val (.double P1), .second, .val (.double P2), .second, .val (.double P3), .second, .val (.double sc), .second, .val (.double (FP.dmul sc (4602678819172646912 : UInt64))), .second, .unset, .unset, .unset, .unset, .unset] [(.double (FP.dmul (FP.i2d hi) sc)), (.double (FP.dmul (FP.i2d lo) sc)), (.ref b12), (.ref b12)])) _
    refine st14.trans ?_
    exact Steps.refl _
  have c15 : Steps p.tables e below S0 (T14.setTop (mkF m 90 #[.val (.int i0), .val (.int i1), .val (.int i2), .val (.int lo), .val (.int hi), .val (.double (4886405595696988160 : UInt64)), .second, .val (.double P0), .second, .val (.double P1), .second, .val (.double P2), .second, .val (.double P3), .second, .val (.double sc), .second, .val (.double (FP.dmul sc (4602678819172646912 : UInt64))), .second, .val (.ref b12), .unset, .unset, .unset, .unset] [(.ref b12)])) := by
    refine c14.trans ?_
    show Steps p.tables e below (T14.setTop (mkF m 86 #[.val (.int i0), .val (.int i1), .val (.int i2), .val (.int lo), .val (.int hi), .val (.double (4886405595696988160 : UInt64)), .second, .val (.double P0), .second, .val (.double P1), .second, .val (.double P2), .second, .val (.double P3), .second, .val (.double sc), .second, .val (.double (FP.dmul sc (4602678819172646912 : UInt64))), .second, .unset, .unset, .unset, .unset, .unset] [(.ref b12)])) _
    refine XS.astore X14.here hx rfl (hb hby at_86) rfl rfl (l' := #[.val (.int i0), .val (.int i1), .val (.int i2), .val (.int lo), .val (.int hi), .val (.double (4886405595696988160 : UInt64)), .second, .val (.double P0), .second, .val (.double P1), .second, .val (.double P2), .second, .val (.double P3), .second, .val (.double sc), .second, .val (.double (FP.dmul sc (4602678819172646912 : UInt64))), .second, .val (.ref b12), .unset, .unset, .unset, .unset]) rfl ?_
    show Steps p.tables e below (T14.setTop (mkF m 88 #[.val (.int i0), .val (.int i1), .val (.int i2), .val (.int lo), .val (.int hi), .val (.double (4886405595696988160 : UInt64)), .second, .val (.double P0), .second, .val (.double P1), .second, .val (.double P2), .second, .val (.double P3), .second, .val (.double sc), .second, .val (.double (FP.dmul sc (4602678819172646912 : UInt64))), .second, .val (.ref b12), .unset, .unset, .unset, .unset] [])) _
    refine XS.aload X14.here hx rfl (hb hby at_88) rfl rfl ?_
    exact Steps.refl _
  obtain ⟨cq16, kq16, q16a, q16b, q16c⟩ := isOf hZ rfl A3
  obtain ⟨_, _, ⟨T16, L16, k16, n16⟩, -, X16, ⟨Lc16, hQ16, l16, y16, z16⟩, st16⟩ := X14.virtualBack hx (y := (⟨"com/example/tight_reach/tightreach/Interval", "midpoint", "()D"⟩ : MethodName)) (z := (⟨"com/example/tight_reach/tightreach/Interval", "midpoint", "()D"⟩ : MethodName)) hown (mvT hZ (hw _ (List.mem_of_getElem? (i := 35) rfl))) (mvT hZ (hw _ (List.mem_of_getElem? (i := 36) rfl))) (notFace_of_selects (args := #[]) (mvT hZ (hw _ (List.mem_of_getElem? (i := 38) rfl)))) (mvT hZ (hw _ (List.mem_of_getElem? (i := 38) rfl))) (mvT hZ (hw _ (List.mem_of_getElem? (i := 37) rfl))) (by decide) (backOf (W := 0) (rm88 l Z a0 hw [] b12 x' y' lo.toInt hi.toInt E T14.heap n0 (Nat.le_trans Zb K3.1) hx' hy' hlo hhi hE1 hE2 Fl' Fu') hZ (hw _ (List.mem_of_getElem? (i := 39) rfl)) (hw _ (List.mem_of_getElem? (i := 11) rfl)) (by decide) (by decide)) q16a q16c (g := (mkF m 90 #[.val (.int i0), .val (.int i1), .val (.int i2), .val (.int lo), .val (.int hi), .val (.double (4886405595696988160 : UInt64)), .second, .val (.double P0), .second, .val (.double P1), .second, .val (.double P2), .second, .val (.double P3), .second, .val (.double sc), .second, .val (.double (FP.dmul sc (4602678819172646912 : UInt64))), .second, .val (.ref b12), .unset, .unset, .unset, .unset] [(.ref b12)])) rfl (by rw [hml]; rfl) (Steps.refl _) (argsL := []) (rest := []) (lenOf pd5 rfl) rfl (by show 2 * 0 + _ ≤ _; exact Nat.le_of_eq rfl) (hb hby at_90) (fun _ _ => ⟨rfl, rfl, (by decide : 1 + 0 ≤ _), (by decide : 2 + 0 ≤ _)⟩)
  dsimp only [Pt.U, Pt.locs, Pt.cells, Pt.slots] at X16 l16 y16 z16 st16 hQ16
  subst l16 y16 z16
  obtain ⟨⟨d, rfl, hd⟩, N4, e4⟩ := hQ16
  have c16 : Steps p.tables e below S0 (T16.setTop (mkF m 93 #[.val (.int i0), .val (.int i1), .val (.int i2), .val (.int lo), .val (.int hi), .val (.double (4886405595696988160 : UInt64)), .second, .val (.double P0), .second, .val (.double P1), .second, .val (.double P2), .second, .val (.double P3), .second, .val (.double sc), .second, .val (.double (FP.dmul sc (4602678819172646912 : UInt64))), .second, .val (.ref b12), .unset, .unset, .unset, .unset] [(.double d)])) := by
    refine c15.trans ?_
    show Steps p.tables e below (T14.setTop (mkF m 90 #[.val (.int i0), .val (.int i1), .val (.int i2), .val (.int lo), .val (.int hi), .val (.double (4886405595696988160 : UInt64)), .second, .val (.double P0), .second, .val (.double P1), .second, .val (.double P2), .second, .val (.double P3), .second, .val (.double sc), .second, .val (.double (FP.dmul sc (4602678819172646912 : UInt64))), .second, .val (.ref b12), .unset, .unset, .unset, .unset] [(.ref b12)])) _
    refine st16.trans ?_
    exact Steps.refl _
  have hs64 : (lo.toInt64 + hi.toInt64).toInt = lo.toInt + hi.toInt := own_add64 lo hi
  have hsv : DV (FP.l2d (lo.toInt64 + hi.toInt64)) (lo.toInt + hi.toInt) 1074 := hs64 ▸ l2d_v (by rw [hs64]; omega)
  have hex : DV (FP.dmul (FP.l2d (lo.toInt64 + hi.toInt64)) (FP.dmul sc (4602678819172646912 : UInt64))) (lo.toInt + hi.toInt) (E - 1) := by
    have := dmul_v 20 (E - 1) hsv hhf (by omega) (by rw [Int.mul_one]; omega) (by omega) (by omega)
    rwa [Int.mul_one] at this
  have c17 : Steps p.tables e below S0 (T16.setTop (mkF m 120 #[.val (.int i0), .val (.int i1), .val (.int i2), .val (.int lo), .val (.int hi), .val (.double (4886405595696988160 : UInt64)), .second, .val (.double P0), .second, .val (.double P1), .second, .val (.double P2), .second, .val (.double P3), .second, .val (.double sc), .second, .val (.double (FP.dmul sc (4602678819172646912 : UInt64))), .second, .val (.ref b12), .val (.double d), .second, .val (.double (FP.dmul (FP.l2d ((lo.toInt64) + (hi.toInt64))) (FP.dmul sc (4602678819172646912 : UInt64)))), .second] [(.int (1 : Int32))])) := by
    refine c16.trans ?_
    show Steps p.tables e below (T16.setTop (mkF m 93 #[.val (.int i0), .val (.int i1), .val (.int i2), .val (.int lo), .val (.int hi), .val (.double (4886405595696988160 : UInt64)), .second, .val (.double P0), .second, .val (.double P1), .second, .val (.double P2), .second, .val (.double P3), .second, .val (.double sc), .second, .val (.double (FP.dmul sc (4602678819172646912 : UInt64))), .second, .val (.ref b12), .unset, .unset, .unset, .unset] [(.double d)])) _
    refine XS.dstore X16.here hx rfl (hb hby at_93) rfl (l' := #[.val (.int i0), .val (.int i1), .val (.int i2), .val (.int lo), .val (.int hi), .val (.double (4886405595696988160 : UInt64)), .second, .val (.double P0), .second, .val (.double P1), .second, .val (.double P2), .second, .val (.double P3), .second, .val (.double sc), .second, .val (.double (FP.dmul sc (4602678819172646912 : UInt64))), .second, .val (.ref b12), .val (.double d), .second, .unset, .unset]) rfl ?_
    show Steps p.tables e below (T16.setTop (mkF m 95 #[.val (.int i0), .val (.int i1), .val (.int i2), .val (.int lo), .val (.int hi), .val (.double (4886405595696988160 : UInt64)), .second, .val (.double P0), .second, .val (.double P1), .second, .val (.double P2), .second, .val (.double P3), .second, .val (.double sc), .second, .val (.double (FP.dmul sc (4602678819172646912 : UInt64))), .second, .val (.ref b12), .val (.double d), .second, .unset, .unset] [])) _
    refine XS.iloadN X16.here hx rfl (hb hby at_95) rfl ?_
    show Steps p.tables e below (T16.setTop (mkF m 96 #[.val (.int i0), .val (.int i1), .val (.int i2), .val (.int lo), .val (.int hi), .val (.double (4886405595696988160 : UInt64)), .second, .val (.double P0), .second, .val (.double P1), .second, .val (.double P2), .second, .val (.double P3), .second, .val (.double sc), .second, .val (.double (FP.dmul sc (4602678819172646912 : UInt64))), .second, .val (.ref b12), .val (.double d), .second, .unset, .unset] [(.int lo)])) _
    refine XS.i2l X16.here hx rfl (hb hby at_96) rfl ?_
    show Steps p.tables e below (T16.setTop (mkF m 97 #[.val (.int i0), .val (.int i1), .val (.int i2), .val (.int lo), .val (.int hi), .val (.double (4886405595696988160 : UInt64)), .second, .val (.double P0), .second, .val (.double P1), .second, .val (.double P2), .second, .val (.double P3), .second, .val (.double sc), .second, .val (.double (FP.dmul sc (4602678819172646912 : UInt64))), .second, .val (.ref b12), .val (.double d), .second, .unset, .unset] [(.long (lo.toInt64))])) _
    refine XS.iload X16.here hx rfl (hb hby at_97) rfl ?_
    show Steps p.tables e below (T16.setTop (mkF m 99 #[.val (.int i0), .val (.int i1), .val (.int i2), .val (.int lo), .val (.int hi), .val (.double (4886405595696988160 : UInt64)), .second, .val (.double P0), .second, .val (.double P1), .second, .val (.double P2), .second, .val (.double P3), .second, .val (.double sc), .second, .val (.double (FP.dmul sc (4602678819172646912 : UInt64))), .second, .val (.ref b12), .val (.double d), .second, .unset, .unset] [(.int hi), (.long (lo.toInt64))])) _
    refine XS.i2l X16.here hx rfl (hb hby at_99) rfl ?_
    show Steps p.tables e below (T16.setTop (mkF m 100 #[.val (.int i0), .val (.int i1), .val (.int i2), .val (.int lo), .val (.int hi), .val (.double (4886405595696988160 : UInt64)), .second, .val (.double P0), .second, .val (.double P1), .second, .val (.double P2), .second, .val (.double P3), .second, .val (.double sc), .second, .val (.double (FP.dmul sc (4602678819172646912 : UInt64))), .second, .val (.ref b12), .val (.double d), .second, .unset, .unset] [(.long (hi.toInt64)), (.long (lo.toInt64))])) _
    refine XS.ladd X16.here hx rfl (hb hby at_100) rfl ?_
    show Steps p.tables e below (T16.setTop (mkF m 101 #[.val (.int i0), .val (.int i1), .val (.int i2), .val (.int lo), .val (.int hi), .val (.double (4886405595696988160 : UInt64)), .second, .val (.double P0), .second, .val (.double P1), .second, .val (.double P2), .second, .val (.double P3), .second, .val (.double sc), .second, .val (.double (FP.dmul sc (4602678819172646912 : UInt64))), .second, .val (.ref b12), .val (.double d), .second, .unset, .unset] [(.long ((lo.toInt64) + (hi.toInt64)))])) _
    refine XS.l2dS X16.here hx rfl (v := (FP.l2d ((lo.toInt64) + (hi.toInt64)))) (hb hby at_101) rfl rfl ?_
    show Steps p.tables e below (T16.setTop (mkF m 102 #[.val (.int i0), .val (.int i1), .val (.int i2), .val (.int lo), .val (.int hi), .val (.double (4886405595696988160 : UInt64)), .second, .val (.double P0), .second, .val (.double P1), .second, .val (.double P2), .second, .val (.double P3), .second, .val (.double sc), .second, .val (.double (FP.dmul sc (4602678819172646912 : UInt64))), .second, .val (.ref b12), .val (.double d), .second, .unset, .unset] [(.double (FP.l2d ((lo.toInt64) + (hi.toInt64))))])) _
    refine XS.dload X16.here hx rfl (hb hby at_102) rfl ?_
    show Steps p.tables e below (T16.setTop (mkF m 104 #[.val (.int i0), .val (.int i1), .val (.int i2), .val (.int lo), .val (.int hi), .val (.double (4886405595696988160 : UInt64)), .second, .val (.double P0), .second, .val (.double P1), .second, .val (.double P2), .second, .val (.double P3), .second, .val (.double sc), .second, .val (.double (FP.dmul sc (4602678819172646912 : UInt64))), .second, .val (.ref b12), .val (.double d), .second, .unset, .unset] [(.double (FP.dmul sc (4602678819172646912 : UInt64))), (.double (FP.l2d ((lo.toInt64) + (hi.toInt64))))])) _
    refine XS.dmulS X16.here hx rfl (v := (FP.dmul (FP.l2d ((lo.toInt64) + (hi.toInt64))) (FP.dmul sc (4602678819172646912 : UInt64)))) (hb hby at_104) rfl hex.noNaN rfl ?_
    show Steps p.tables e below (T16.setTop (mkF m 105 #[.val (.int i0), .val (.int i1), .val (.int i2), .val (.int lo), .val (.int hi), .val (.double (4886405595696988160 : UInt64)), .second, .val (.double P0), .second, .val (.double P1), .second, .val (.double P2), .second, .val (.double P3), .second, .val (.double sc), .second, .val (.double (FP.dmul sc (4602678819172646912 : UInt64))), .second, .val (.ref b12), .val (.double d), .second, .unset, .unset] [(.double (FP.dmul (FP.l2d ((lo.toInt64) + (hi.toInt64))) (FP.dmul sc (4602678819172646912 : UInt64))))])) _
    refine XS.dstore X16.here hx rfl (hb hby at_105) rfl (l' := #[.val (.int i0), .val (.int i1), .val (.int i2), .val (.int lo), .val (.int hi), .val (.double (4886405595696988160 : UInt64)), .second, .val (.double P0), .second, .val (.double P1), .second, .val (.double P2), .second, .val (.double P3), .second, .val (.double sc), .second, .val (.double (FP.dmul sc (4602678819172646912 : UInt64))), .second, .val (.ref b12), .val (.double d), .second, .val (.double (FP.dmul (FP.l2d ((lo.toInt64) + (hi.toInt64))) (FP.dmul sc (4602678819172646912 : UInt64)))), .second]) rfl ?_
    show Steps p.tables e below (T16.setTop (mkF m 107 #[.val (.int i0), .val (.int i1), .val (.int i2), .val (.int lo), .val (.int hi), .val (.double (4886405595696988160 : UInt64)), .second, .val (.double P0), .second, .val (.double P1), .second, .val (.double P2), .second, .val (.double P3), .second, .val (.double sc), .second, .val (.double (FP.dmul sc (4602678819172646912 : UInt64))), .second, .val (.ref b12), .val (.double d), .second, .val (.double (FP.dmul (FP.l2d ((lo.toInt64) + (hi.toInt64))) (FP.dmul sc (4602678819172646912 : UInt64)))), .second] [])) _
    refine XS.dload X16.here hx rfl (hb hby at_107) rfl ?_
    show Steps p.tables e below (T16.setTop (mkF m 109 #[.val (.int i0), .val (.int i1), .val (.int i2), .val (.int lo), .val (.int hi), .val (.double (4886405595696988160 : UInt64)), .second, .val (.double P0), .second, .val (.double P1), .second, .val (.double P2), .second, .val (.double P3), .second, .val (.double sc), .second, .val (.double (FP.dmul sc (4602678819172646912 : UInt64))), .second, .val (.ref b12), .val (.double d), .second, .val (.double (FP.dmul (FP.l2d ((lo.toInt64) + (hi.toInt64))) (FP.dmul sc (4602678819172646912 : UInt64)))), .second] [(.double d)])) _
    refine XS.dload X16.here hx rfl (hb hby at_109) rfl ?_
    show Steps p.tables e below (T16.setTop (mkF m 111 #[.val (.int i0), .val (.int i1), .val (.int i2), .val (.int lo), .val (.int hi), .val (.double (4886405595696988160 : UInt64)), .second, .val (.double P0), .second, .val (.double P1), .second, .val (.double P2), .second, .val (.double P3), .second, .val (.double sc), .second, .val (.double (FP.dmul sc (4602678819172646912 : UInt64))), .second, .val (.ref b12), .val (.double d), .second, .val (.double (FP.dmul (FP.l2d ((lo.toInt64) + (hi.toInt64))) (FP.dmul sc (4602678819172646912 : UInt64)))), .second] [(.double (FP.dmul (FP.l2d ((lo.toInt64) + (hi.toInt64))) (FP.dmul sc (4602678819172646912 : UInt64)))), (.double d)])) _
    refine XS.dcmpS X16.here hx rfl (v := (0 : Int32)) (hb hby at_111) rfl (cmp_eq hd hex _ rfl) ?_
    show Steps p.tables e below (T16.setTop (mkF m 112 #[.val (.int i0), .val (.int i1), .val (.int i2), .val (.int lo), .val (.int hi), .val (.double (4886405595696988160 : UInt64)), .second, .val (.double P0), .second, .val (.double P1), .second, .val (.double P2), .second, .val (.double P3), .second, .val (.double sc), .second, .val (.double (FP.dmul sc (4602678819172646912 : UInt64))), .second, .val (.ref b12), .val (.double d), .second, .val (.double (FP.dmul (FP.l2d ((lo.toInt64) + (hi.toInt64))) (FP.dmul sc (4602678819172646912 : UInt64)))), .second] [(.int (0 : Int32))])) _
    refine XS.ifNo X16.here hx rfl (hb hby at_112) rfl ((if0 _ _).trans (teq rfl).2) ?_
    show Steps p.tables e below (T16.setTop (mkF m 115 #[.val (.int i0), .val (.int i1), .val (.int i2), .val (.int lo), .val (.int hi), .val (.double (4886405595696988160 : UInt64)), .second, .val (.double P0), .second, .val (.double P1), .second, .val (.double P2), .second, .val (.double P3), .second, .val (.double sc), .second, .val (.double (FP.dmul sc (4602678819172646912 : UInt64))), .second, .val (.ref b12), .val (.double d), .second, .val (.double (FP.dmul (FP.l2d ((lo.toInt64) + (hi.toInt64))) (FP.dmul sc (4602678819172646912 : UInt64)))), .second] [])) _
    refine XS.iconst X16.here hx rfl (hb hby at_115) ?_
    show Steps p.tables e below (T16.setTop (mkF m 116 #[.val (.int i0), .val (.int i1), .val (.int i2), .val (.int lo), .val (.int hi), .val (.double (4886405595696988160 : UInt64)), .second, .val (.double P0), .second, .val (.double P1), .second, .val (.double P2), .second, .val (.double P3), .second, .val (.double sc), .second, .val (.double (FP.dmul sc (4602678819172646912 : UInt64))), .second, .val (.ref b12), .val (.double d), .second, .val (.double (FP.dmul (FP.l2d ((lo.toInt64) + (hi.toInt64))) (FP.dmul sc (4602678819172646912 : UInt64)))), .second] [(.int (1 : Int32))])) _
    refine XS.goto X16.here hx rfl (pc0 := 116) (pc' := 120) rfl (hb hby at_116) (by decide) (by decide) ?_
    exact Steps.refl _
  obtain ⟨fs, hr, hrun, hended, hW, hsame⟩ := X16.leave (v := some (.int 1)) (fun h => by rw [Bd.returns] at h; cases h)
  refine ⟨_, _, c17.trans ?_, hrun, hended, _, _, rfl, ?_, ⟨_, rfl⟩, hW, hsame.mono (by decide) (by decide)⟩
  · show Steps p.tables e below (T16.setTop (mkF m 120 #[.val (.int i0), .val (.int i1), .val (.int i2), .val (.int lo), .val (.int hi), .val (.double (4886405595696988160 : UInt64)), .second, .val (.double P0), .second, .val (.double P1), .second, .val (.double P2), .second, .val (.double P3), .second, .val (.double sc), .second, .val (.double (FP.dmul sc (4602678819172646912 : UInt64))), .second, .val (.ref b12), .val (.double d), .second, .val (.double (FP.dmul (FP.l2d ((lo.toInt64) + (hi.toInt64))) (FP.dmul sc (4602678819172646912 : UInt64)))), .second] [(.int (1 : Int32))])) _
    exact retN X16 hx (t := .boolean) Bd.returns (by simp) (hb hby at_120) hr
  · show Q0 Z i0 i1 i2 h0 n0 _ T16.heap _
    rw [e4]
    exact ⟨rfl, Fr.app (Fr.app (Fr.app (Fr.app N0 N1) N2) N3) N4⟩
set_option maxRecDepth 65536 in
set_option maxHeartbeats 40000000 in
theorem comes_1 {Post : Tables → Env → Array Value → State → Outcome → State → Prop} (hpost : ∀ tb e args s v u, (limb_1_1.after args s (.returned v) u = true ∧ limb_1_2.after args s (.returned v) u = true ∧ True) → FrameEnd s (.returned v) u (Jvm.fieldLocs frame_1_writes args s ++ Jvm.arrayLocs frame_1_arrays args s ++ Jvm.staticLocs frame_1_statics s) 16 128 → Post tb e args s (.returned v) u) :
    ArmFor flags0 classFile x code maxLocals ret World_1 tables_1 room_1 Calls_1 rest_1 Pre_1 Post := by
  intro l hfl _ _ p e ha hc hk s m args below hf hA hF happ hP
  obtain ⟨hcalls, hrest, hpre⟩ := hP
  obtain ⟨-, -, -, hnamed, -, -, -, hat⟩ := (Spec.applies_iff hf).mp happ
  obtain ⟨hg, hn⟩ := and_e (Cond.before_iff.mp (show (Jvm.Cond.and given_1 narrow_1).before args s = true from hpre))
  obtain ⟨h1, g0⟩ := and_e hg
  obtain ⟨a0, g1⟩ := and_e g0
  obtain ⟨a1, g2⟩ := and_e g1
  have a2 := g2
  obtain ⟨w0, w1, w2, rfl⟩ : ∃ w0 w1 w2 : Value, args = #[w0, w1, w2] := by
    have hs : args.size = 3 := by simpa [Cond.value, given_1] using h1
    obtain ⟨L⟩ := args
    match L, hs with
    | [w0, w1, w2], _ => exact ⟨w0, w1, w2, rfl⟩
  have hw := fun d (hd : d ∈ tables_1) => atoms_spec (ws := Jvm.Cond.code x code maxLocals ret :: tables_1) hat d (List.mem_cons_of_mem _ hd)
  have hfit : Fit s := fun {y c} hc i hi => by
    obtain ⟨ha, rfl⟩ := Array.getElem?_eq_some_iff.mp hc
    have q := List.all_eq_true.mp ((Array.all_eq_true_iff_forall_mem.mp hF) _ (Array.getElem_mem ha)) i (List.mem_range.mpr hi)
    simpa [Array.getElem?_eq_getElem hi] using q
  obtain ⟨i0, e0⟩ := is_v a0
  obtain rfl : w0 = (.int i0) := Option.some.inj e0
  obtain ⟨i1, e1⟩ := is_v a1
  obtain rfl : w1 = (.int i1) := Option.some.inj e1
  obtain ⟨i2, e2⟩ := is_v a2
  obtain rfl : w2 = (.int i2) := Option.some.inj e2
  obtain ⟨n, o, h1, h2, h3, _, L, rfl, ⟨rfl, N⟩, hq⟩ := rm0 l s _ hw tables_1 i0 i1 i2 s.heap s.heap.size (Nat.le_refl _) p e ha hc hk s m _ below hf ((Spec.applies_iff_loose hf).mp happ).1 ⟨rfl, State.Warmed39.refl s, rfl⟩ trivial
  refine ⟨n, _, h1, h2, h3, hpost _ _ _ _ _ _ ⟨Cond.after_iff.mpr rfl, Cond.after_iff.mpr (eq_i res_at (Term.int_eval (1)) rfl), trivial⟩ ⟨hq.1, hq.2.1, (hq.2.2.sift fun y hy => Or.inr (N y hy)).mono (by decide) (by decide)⟩⟩
theorem main_1_1 : Claimed_1_1 := comes_1 fun _ _ _ _ _ _ h hF => ⟨h.1, hF⟩
theorem main_1_2 : Claimed_1_2 := comes_1 fun _ _ _ _ _ _ h hF => ⟨h.2.1, hF⟩
end Jvm.Pilot.@@N@@
namespace Jvm.Pilot.@@N@@
open Jvm Jvm.ClassFile Sem Op Lib Jvm.Free Jvm.Stand Jvm.Pilot.@@N@@.Jvm.D
/-! MADE BY PROGRAM (witnessworld.py) out of the Statement's table words and the real class files: 16 classes; the members and pool entries that the words name. The judged class is class 1, her method 1. -/
namespace start1
open Jvm.ClassFile
def u (s : String) : CpInfo := .utf8 (stringToUtf16 s)
/-- a pool by its gaps: so many unusable entries, then the entry; so many at the end -/
def gap : Nat → List CpInfo → List CpInfo
  | 0, r => r
  | n + 1, r => .unusable :: gap n r
def poolList (es : List (Nat × CpInfo)) (last : Nat) : List CpInfo := es.foldr (fun e r => gap e.1 (e.2 :: r)) (gap last [])
def pool (es : List (Nat × CpInfo)) (last : Nat) : Array CpInfo := ⟨poolList es last⟩
def fileOf (pool : Array CpInfo) (this : Nat) (attrs : Array Attribute := #[]) (ms : Array MethodInfo := #[]) (fl : Nat := 33) (sup : Nat := 0) (ifs : Array Nat := #[]) (fds : Array FieldInfo := #[]) : ClassFile where
  minorVersion := 0
  majorVersion := 65
  constantPool := pool
  accessFlags := fl
  thisClass := this
  superClass := sup
  interfaces := ifs
  fields := fds
  methods := ms
  attributes := attrs
def plain (name : String) (sup : Option ClassId) : Class where
  name := name
  kind := .ordinary
  loader := none
  accessFlags := 33
  super := sup
  interfaces := #[]
  cf := none
  fields := #[]
  methods := #[]
  instanceTypes := #[]
  staticTypes := #[]
  resolved := #[]
  callSites := []
  init := .initialized
  statics := none
  mirror := none

def pool0 : Array CpInfo := pool [(5, u "<init>"), (0, u "()V"), (1, .class_ 10), (1, u "java/lang/Object")] 113

def k0c0 : Code := { maxStack := 0, maxLocals := 1, code := object_method_1_code, exceptionTable := #[], attributes := #[] }
def k0m0 : Method := { name := "<init>", desc := "()V", sig := { parameters := [], returnType := none }, accessFlags := 1, code := some k0c0 }
/-- java/lang/Object -/
def k0 : Class := { plain "java/lang/Object" none with
  accessFlags := 33
  interfaces := #[]
  cf := some (fileOf pool0 8 #[] #[{ accessFlags := 1, nameIndex := 5, descriptorIndex := 6, attributes := #[] }] 33 0 #[] #[])
  fields := #[]
  methods := #[k0m0]
  instanceTypes := #[]
  staticTypes := #[]
  resolved := Array.replicate 124 none
  statics := none }

def pool1 : Array CpInfo := pool [(2, .class_ 4), (1, u "java/lang/Object"), (0, u "<init>"), (0, u "()V"), (0, .methodref 8 9), (0, .class_ 10), (0, .nameAndType 11 12), (0, u "java/lang/Math"), (0, u "min"), (0, u "(II)I"), (0, .methodref 8 14), (0, .nameAndType 15 12), (0, u "max"), (0, .double 4886405595696988160), (1, .double 4602678819172646912), (1, .class_ 21), (0, u "com/example/tight_reach/tightreach/Interval"), (0, .methodref 20 23), (0, .nameAndType 5 24), (0, u "(DD)V"), (0, .methodref 20 26), (0, .nameAndType 27 28), (0, u "midpoint"), (0, u "()D"), (0, .class_ 30), (0, u "com/example/tight_reach/tightreach/IntervalMidpointPinLaw"), (2, u "law"), (0, u "(III)Z")] 3

def k1m0 : Method := { name := "<init>", desc := "()V", sig := { parameters := [], returnType := none }, accessFlags := 1, code := none }
def k1c1 : Code := { maxStack := 8, maxLocals := 24, code := code, exceptionTable := #[], attributes := #[] }
def k1m1 : Method := { name := "law", desc := "(III)Z", sig := { parameters := [.int, .int, .int], returnType := some .boolean }, accessFlags := 9, code := some k1c1 }
/-- com/example/tight_reach/tightreach/IntervalMidpointPinLaw -/
def k1 : Class := { plain "com/example/tight_reach/tightreach/IntervalMidpointPinLaw" (some 0) with
  accessFlags := 49
  interfaces := #[]
  cf := some (fileOf pool1 29 #[] #[{ accessFlags := 1, nameIndex := 5, descriptorIndex := 6, attributes := #[] }, { accessFlags := 9, nameIndex := 33, descriptorIndex := 34, attributes := #[] }] 49 2 #[] #[])
  fields := #[]
  methods := #[k1m0, k1m1]
  instanceTypes := #[]
  staticTypes := #[]
  resolved := Array.replicate 38 none
  statics := none }

def pool2 : Array CpInfo := pool [(1, .class_ 2), (0, u "java/lang/Math"), (1, .class_ 6), (1, u "java/lang/Object"), (0, u "<init>"), (0, u "()V"), (5, u "(D)D"), (83, .class_ 100), (1, u "java/lang/Math$RandomNumberGeneratorHolder"), (23, u "abs"), (47, u "negativeZeroFloatBits"), (0, u "J"), (2, u "negativeZeroDoubleBits"), (21, u "max"), (2, u "min"), (43, u "$assertionsDisabled"), (0, u "Z"), (88, u "(II)I"), (2, u "twoToTheDoubleScaleDown"), (0, u "D"), (4, u "twoToTheDoubleScaleUp"), (9, u "E"), (3, u "PI"), (2, u "TAU"), (2, u "DEGREES_TO_RADIANS"), (0, u "RADIANS_TO_DEGREES")] 94

def k2m0 : Method := { name := "<init>", desc := "()V", sig := { parameters := [], returnType := none }, accessFlags := 2, code := none }
def k2c1 : Code := { maxStack := 4, maxLocals := 2, code := jdk_29_method_64_code, exceptionTable := #[], attributes := #[] }
def k2m1 : Method := { name := "abs", desc := "(D)D", sig := { parameters := [.double], returnType := some .double }, accessFlags := 9, code := some k2c1 }
def k2c2 : Code := { maxStack := 2, maxLocals := 2, code := jdk_29_method_65_code, exceptionTable := #[], attributes := #[] }
def k2m2 : Method := { name := "max", desc := "(II)I", sig := { parameters := [.int, .int], returnType := some .int }, accessFlags := 9, code := some k2c2 }
def k2c3 : Code := { maxStack := 2, maxLocals := 2, code := jdk_29_method_69_code, exceptionTable := #[], attributes := #[] }
def k2m3 : Method := { name := "min", desc := "(II)I", sig := { parameters := [.int, .int], returnType := some .int }, accessFlags := 9, code := some k2c3 }
/-- java/lang/Math -/
def k2 : Class := { plain "java/lang/Math" (some 0) with
  accessFlags := 49
  interfaces := #[]
  cf := some (fileOf pool2 1 #[.nestMembers #[98]] #[{ accessFlags := 2, nameIndex := 7, descriptorIndex := 8, attributes := #[] }, { accessFlags := 9, nameIndex := 124, descriptorIndex := 14, attributes := #[] }, { accessFlags := 9, nameIndex := 198, descriptorIndex := 335, attributes := #[] }, { accessFlags := 9, nameIndex := 201, descriptorIndex := 335, attributes := #[] }] 49 4 #[] #[{ accessFlags := 25, nameIndex := 354, descriptorIndex := 339, attributes := #[] }, { accessFlags := 25, nameIndex := 358, descriptorIndex := 339, attributes := #[] }, { accessFlags := 25, nameIndex := 361, descriptorIndex := 339, attributes := #[] }, { accessFlags := 26, nameIndex := 364, descriptorIndex := 339, attributes := #[] }, { accessFlags := 26, nameIndex := 365, descriptorIndex := 339, attributes := #[] }, { accessFlags := 26, nameIndex := 172, descriptorIndex := 173, attributes := #[] }, { accessFlags := 26, nameIndex := 176, descriptorIndex := 173, attributes := #[] }, { accessFlags := 8, nameIndex := 344, descriptorIndex := 339, attributes := #[] }, { accessFlags := 8, nameIndex := 338, descriptorIndex := 339, attributes := #[] }, { accessFlags := 4120, nameIndex := 245, descriptorIndex := 246, attributes := #[] }])
  fields := #[{ name := "E", type := .double, accessFlags := 25, slot := 0, constantValue := 0 }, { name := "PI", type := .double, accessFlags := 25, slot := 1, constantValue := 0 }, { name := "TAU", type := .double, accessFlags := 25, slot := 2, constantValue := 0 }, { name := "DEGREES_TO_RADIANS", type := .double, accessFlags := 26, slot := 3, constantValue := 0 }, { name := "RADIANS_TO_DEGREES", type := .double, accessFlags := 26, slot := 4, constantValue := 0 }, { name := "negativeZeroFloatBits", type := .long, accessFlags := 26, slot := 5, constantValue := 0 }, { name := "negativeZeroDoubleBits", type := .long, accessFlags := 26, slot := 6, constantValue := 0 }, { name := "twoToTheDoubleScaleUp", type := .double, accessFlags := 8, slot := 7, constantValue := 0 }, { name := "twoToTheDoubleScaleDown", type := .double, accessFlags := 8, slot := 8, constantValue := 0 }, { name := "$assertionsDisabled", type := .boolean, accessFlags := 4120, slot := 9, constantValue := 0 }]
  methods := #[k2m0, k2m1, k2m2, k2m3]
  instanceTypes := #[]
  staticTypes := #[.double, .double, .double, .double, .double, .long, .long, .double, .double, .boolean]
  resolved := Array.replicate 460 none
  statics := none }

def pool3 : Array CpInfo := pool [(1, .methodref 2 3), (0, .class_ 4), (0, .nameAndType 5 6), (0, u "java/lang/Object"), (0, u "<init>"), (0, u "()V"), (0, .class_ 8), (0, u "java/lang/Record")] 13

def k3c0 : Code := { maxStack := 1, maxLocals := 1, code := jdk_30_method_1_code, exceptionTable := #[], attributes := #[] }
def k3m0 : Method := { name := "<init>", desc := "()V", sig := { parameters := [], returnType := none }, accessFlags := 4, code := some k3c0 }
/-- java/lang/Record -/
def k3 : Class := { plain "java/lang/Record" (some 0) with
  accessFlags := 1057
  interfaces := #[]
  cf := some (fileOf pool3 7 #[] #[{ accessFlags := 4, nameIndex := 5, descriptorIndex := 6, attributes := #[] }] 1057 2 #[] #[])
  fields := #[]
  methods := #[k3m0]
  instanceTypes := #[]
  staticTypes := #[]
  resolved := Array.replicate 22 none
  statics := none }

def pool4 : Array CpInfo := pool [(1, .methodref 2 3), (0, .class_ 4), (0, .nameAndType 5 6), (0, u "java/lang/Record"), (0, u "<init>"), (0, u "()V"), (0, .methodref 8 9), (0, .class_ 10), (0, .nameAndType 11 12), (0, u "java/lang/Double"), (0, u "isFinite"), (0, u "(D)Z"), (14, .class_ 29), (1, u "com/example/tight_reach/tightreach/Interval"), (2, .fieldref 27 33), (0, .nameAndType 34 35), (0, u "lower"), (0, u "D"), (0, .fieldref 27 37), (0, .nameAndType 38 35), (0, u "upper"), (2, u "(DD)V"), (43, .double 4602678819172646912), (3, u "midpoint"), (0, u "()D"), (86, u "HALF_PI"), (0, u "Lcom/example/tight_reach/tightreach/Interval;"), (10, u "PI"), (73, u "SMALLEST_EXACT_ERROR_PRODUCT"), (1, u "LARGEST_EXACT_FRACTION")] 84

def k4c0 : Code := { maxStack := 6, maxLocals := 5, code := prog_8_method_1_code, exceptionTable := #[], attributes := #[] }
def k4m0 : Method := { name := "<init>", desc := "(DD)V", sig := { parameters := [.double, .double], returnType := none }, accessFlags := 1, code := some k4c0 }
def k4c1 : Code := { maxStack := 6, maxLocals := 1, code := prog_8_method_8_code, exceptionTable := #[], attributes := #[] }
def k4m1 : Method := { name := "midpoint", desc := "()D", sig := { parameters := [], returnType := some .double }, accessFlags := 0, code := some k4c1 }
/-- com/example/tight_reach/tightreach/Interval -/
def k4 : Class := { plain "com/example/tight_reach/tightreach/Interval" (some 3) with
  accessFlags := 49
  interfaces := #[]
  cf := some (fileOf pool4 27 #[] #[{ accessFlags := 1, nameIndex := 5, descriptorIndex := 41, attributes := #[] }, { accessFlags := 0, nameIndex := 89, descriptorIndex := 90, attributes := #[] }] 49 2 #[] #[{ accessFlags := 18, nameIndex := 34, descriptorIndex := 35, attributes := #[] }, { accessFlags := 18, nameIndex := 38, descriptorIndex := 35, attributes := #[] }, { accessFlags := 24, nameIndex := 263, descriptorIndex := 35, attributes := #[] }, { accessFlags := 26, nameIndex := 265, descriptorIndex := 35, attributes := #[] }, { accessFlags := 24, nameIndex := 189, descriptorIndex := 178, attributes := #[] }, { accessFlags := 26, nameIndex := 177, descriptorIndex := 178, attributes := #[] }])
  fields := #[{ name := "lower", type := .double, accessFlags := 18, slot := 0, constantValue := 0 }, { name := "upper", type := .double, accessFlags := 18, slot := 1, constantValue := 0 }, { name := "SMALLEST_EXACT_ERROR_PRODUCT", type := .double, accessFlags := 24, slot := 0, constantValue := 0 }, { name := "LARGEST_EXACT_FRACTION", type := .double, accessFlags := 26, slot := 1, constantValue := 0 }, { name := "PI", type := (.object "com/example/tight_reach/tightreach/Interval"), accessFlags := 24, slot := 2, constantValue := 0 }, { name := "HALF_PI", type := (.object "com/example/tight_reach/tightreach/Interval"), accessFlags := 26, slot := 3, constantValue := 0 }]
  methods := #[k4m0, k4m1]
  instanceTypes := #[.double, .double]
  staticTypes := #[.double, .double, (.object "com/example/tight_reach/tightreach/Interval"), (.object "com/example/tight_reach/tightreach/Interval")]
  resolved := Array.replicate 350 none
  statics := none }

def pool5 : Array CpInfo := pool [(1, .class_ 2), (0, u "java/io/Serializable"), (0, .class_ 4), (0, u "java/lang/Object")] 2

/-- java/io/Serializable -/
def k5 : Class := { plain "java/io/Serializable" (some 0) with
  accessFlags := 1537
  interfaces := #[]
  cf := some (fileOf pool5 1 #[] #[] 1537 3 #[] #[])
  fields := #[]
  methods := #[]
  instanceTypes := #[]
  staticTypes := #[]
  resolved := Array.replicate 7 none
  statics := none }

def pool6 : Array CpInfo := pool [(2, .class_ 4), (1, u "java/lang/Object"), (0, u "<init>"), (0, u "()V"), (1, .class_ 10), (1, u "java/lang/Number"), (2, .class_ 14), (0, u "java/io/Serializable"), (0, u "serialVersionUID"), (0, u "J")] 20

def k6m0 : Method := { name := "<init>", desc := "()V", sig := { parameters := [], returnType := none }, accessFlags := 1, code := none }
/-- java/lang/Number -/
def k6 : Class := { plain "java/lang/Number" (some 0) with
  accessFlags := 1057
  interfaces := #[5]
  cf := some (fileOf pool6 8 #[] #[{ accessFlags := 1, nameIndex := 5, descriptorIndex := 6, attributes := #[] }] 1057 2 #[13] #[{ accessFlags := 26, nameIndex := 15, descriptorIndex := 16, attributes := #[] }])
  fields := #[{ name := "serialVersionUID", type := .long, accessFlags := 26, slot := 0, constantValue := 0 }]
  methods := #[k6m0]
  instanceTypes := #[]
  staticTypes := #[.long]
  resolved := Array.replicate 37 none
  statics := none }

def pool7 : Array CpInfo := pool [(1, .class_ 2), (0, u "java/lang/Comparable"), (0, .class_ 4), (0, u "java/lang/Object")] 7

/-- java/lang/Comparable -/
def k7 : Class := { plain "java/lang/Comparable" (some 0) with
  accessFlags := 1537
  interfaces := #[]
  cf := some (fileOf pool7 1 #[] #[] 1537 3 #[] #[])
  fields := #[]
  methods := #[]
  instanceTypes := #[]
  staticTypes := #[]
  resolved := Array.replicate 12 none
  statics := none }

def pool8 : Array CpInfo := pool [(1, .class_ 2), (0, u "java/lang/constant/Constable"), (0, .class_ 4), (0, u "java/lang/Object")] 6

/-- java/lang/constant/Constable -/
def k8 : Class := { plain "java/lang/constant/Constable" (some 0) with
  accessFlags := 1537
  interfaces := #[]
  cf := some (fileOf pool8 1 #[] #[] 1537 3 #[] #[])
  fields := #[]
  methods := #[]
  instanceTypes := #[]
  staticTypes := #[]
  resolved := Array.replicate 11 none
  statics := none }

def pool9 : Array CpInfo := pool [(1, .class_ 2), (0, u "java/lang/constant/ConstantDesc"), (0, .class_ 4), (0, u "java/lang/Object")] 32

/-- java/lang/constant/ConstantDesc -/
def k9 : Class := { plain "java/lang/constant/ConstantDesc" (some 0) with
  accessFlags := 1537
  interfaces := #[]
  cf := some (fileOf pool9 1 #[] #[] 1537 3 #[] #[])
  fields := #[]
  methods := #[]
  instanceTypes := #[]
  staticTypes := #[]
  resolved := Array.replicate 37 none
  statics := none }

def pool10 : Array CpInfo := pool [(1, .class_ 2), (0, u "java/lang/Double"), (10, u "isFinite"), (0, u "(D)Z"), (8, .class_ 25), (1, u "java/lang/Math"), (12, .methodref 23 39), (0, .nameAndType 40 41), (0, u "abs"), (0, u "(D)D"), (69, .double 9218868437227405311), (2, .class_ 116), (1, u "java/lang/Number"), (3, u "value"), (0, u "D"), (51, u "TYPE"), (0, u "Ljava/lang/Class;"), (0, .class_ 176), (0, u "java/lang/Comparable"), (0, .class_ 178), (0, u "java/lang/constant/Constable"), (0, .class_ 180), (0, u "java/lang/constant/ConstantDesc"), (0, u "POSITIVE_INFINITY"), (3, u "NEGATIVE_INFINITY"), (2, u "NaN"), (2, u "MAX_VALUE"), (0, u "MIN_NORMAL"), (0, u "MIN_VALUE"), (2, u "SIZE"), (0, u "I"), (1, u "PRECISION"), (1, u "MAX_EXPONENT"), (1, u "MIN_EXPONENT"), (1, u "BYTES"), (3, u "serialVersionUID"), (0, u "J")] 79

def k10c0 : Code := { maxStack := 4, maxLocals := 2, code := jdk_117_method_8_code, exceptionTable := #[], attributes := #[] }
def k10m0 : Method := { name := "isFinite", desc := "(D)Z", sig := { parameters := [.double], returnType := some .boolean }, accessFlags := 9, code := some k10c0 }
/-- java/lang/Double -/
def k10 : Class := { plain "java/lang/Double" (some 6) with
  accessFlags := 49
  interfaces := #[7, 8, 9]
  cf := some (fileOf pool10 1 #[] #[{ accessFlags := 9, nameIndex := 13, descriptorIndex := 14, attributes := #[] }] 49 114 #[175, 177, 179] #[{ accessFlags := 25, nameIndex := 181, descriptorIndex := 121, attributes := #[] }, { accessFlags := 25, nameIndex := 185, descriptorIndex := 121, attributes := #[] }, { accessFlags := 25, nameIndex := 188, descriptorIndex := 121, attributes := #[] }, { accessFlags := 25, nameIndex := 191, descriptorIndex := 121, attributes := #[] }, { accessFlags := 25, nameIndex := 192, descriptorIndex := 121, attributes := #[] }, { accessFlags := 25, nameIndex := 193, descriptorIndex := 121, attributes := #[] }, { accessFlags := 25, nameIndex := 196, descriptorIndex := 197, attributes := #[] }, { accessFlags := 25, nameIndex := 199, descriptorIndex := 197, attributes := #[] }, { accessFlags := 25, nameIndex := 201, descriptorIndex := 197, attributes := #[] }, { accessFlags := 25, nameIndex := 203, descriptorIndex := 197, attributes := #[] }, { accessFlags := 25, nameIndex := 205, descriptorIndex := 197, attributes := #[] }, { accessFlags := 25, nameIndex := 173, descriptorIndex := 174, attributes := #[] }, { accessFlags := 18, nameIndex := 120, descriptorIndex := 121, attributes := #[] }, { accessFlags := 26, nameIndex := 209, descriptorIndex := 210, attributes := #[] }])
  fields := #[{ name := "POSITIVE_INFINITY", type := .double, accessFlags := 25, slot := 0, constantValue := 0 }, { name := "NEGATIVE_INFINITY", type := .double, accessFlags := 25, slot := 1, constantValue := 0 }, { name := "NaN", type := .double, accessFlags := 25, slot := 2, constantValue := 0 }, { name := "MAX_VALUE", type := .double, accessFlags := 25, slot := 3, constantValue := 0 }, { name := "MIN_NORMAL", type := .double, accessFlags := 25, slot := 4, constantValue := 0 }, { name := "MIN_VALUE", type := .double, accessFlags := 25, slot := 5, constantValue := 0 }, { name := "SIZE", type := .int, accessFlags := 25, slot := 6, constantValue := 0 }, { name := "PRECISION", type := .int, accessFlags := 25, slot := 7, constantValue := 0 }, { name := "MAX_EXPONENT", type := .int, accessFlags := 25, slot := 8, constantValue := 0 }, { name := "MIN_EXPONENT", type := .int, accessFlags := 25, slot := 9, constantValue := 0 }, { name := "BYTES", type := .int, accessFlags := 25, slot := 10, constantValue := 0 }, { name := "TYPE", type := (.object "java/lang/Class"), accessFlags := 25, slot := 11, constantValue := 0 }, { name := "value", type := .double, accessFlags := 18, slot := 0, constantValue := 0 }, { name := "serialVersionUID", type := .long, accessFlags := 26, slot := 12, constantValue := 0 }]
  methods := #[k10m0]
  instanceTypes := #[.double]
  staticTypes := #[.double, .double, .double, .double, .double, .double, .int, .int, .int, .int, .int, (.object "java/lang/Class"), .long]
  resolved := Array.replicate 290 none
  statics := none }

def pool11 : Array CpInfo := pool [(1, u "java/lang/Cloneable"), (0, .class_ 1), (0, u "java/lang/Object"), (0, .class_ 3)] 3

/-- java/lang/Cloneable -/
def k11 : Class := { plain "java/lang/Cloneable" (some 0) with
  accessFlags := 1537
  interfaces := #[]
  cf := some (fileOf pool11 2 #[] #[] 1537 4 #[] #[])
  fields := #[]
  methods := #[]
  instanceTypes := #[]
  staticTypes := #[]
  resolved := Array.replicate 8 none
  statics := none }

/-- the primitive byte -/
def k12 : Class := { plain "byte" none with kind := .primitive 'B', accessFlags := 0x411 }
/-- [B -/
def k13 : Class := { plain "[B" (some 0) with kind := .array 12 .byte, interfaces := #[11, 5], accessFlags := 1041 }

/-- the primitive int -/
def k14 : Class := { plain "int" none with kind := .primitive 'I', accessFlags := 0x411 }
/-- [I -/
def k15 : Class := { plain "[I" (some 0) with kind := .array 14 .int, interfaces := #[11, 5], accessFlags := 1041 }

def heap : Heap := #[]
def classes : Array Class := #[k0, k1, k2, k3, k4, k5, k6, k7, k8, k9, k10, k11, k12, k13, k14, k15]
def interned : List (Array UInt16 × Addr) := []
def slotsUsed : Nat := 0
def theMethod : MethodId := ⟨1, 1⟩
def args0 : Array Value := #[.int 5, .int 6, .int 3]
def aboutOver (below : List Frame) : State where
  vm := { classes := classes, interned := interned.toArray }
  heap := heap
  slotsUsed := slotsUsed
  threads := #[{ frames := .invoking theMethod args0 :: below }]
def below0 : List Frame := [.native { method := ⟨0, 0⟩, args := #[] }]
def about1 : State := aboutOver below0
def p0 : Program := .bare "" "" ""
def e0 : Env := launch0.env 0 0 0
theorem w_frames : about1.frames = Frame.invoking theMethod args0 :: below0 := rfl
set_option maxRecDepth 65536 in
theorem w_args : argsFit about1.vm theMethod args0 = true := by decide +kernel
set_option maxRecDepth 65536 in
theorem w_heap : heapFits about1 = true := by decide +kernel
set_option maxRecDepth 65536 in
theorem w_runnable : about1.curStatus? = some .runnable := by decide +kernel
set_option maxRecDepth 65536 in
theorem w_alone : about1.alone = true := by decide +kernel
set_option maxRecDepth 65536 in
theorem w_named : about1.methodNamed? x = some theMethod := by decide +kernel
set_option maxRecDepth 65536 in
theorem w_hears : about1.hears theMethod below0 = true := by decide +kernel
set_option maxRecDepth 65536 in
theorem w_ripe : about1.ripe theMethod args0 below0 = true := by decide +kernel
theorem w_running : about1.status = .running := rfl
set_option maxRecDepth 65536 in
theorem w_room : about1.hasRoom e0.platform room_1 = true :=
  launch0.hasRoom_least _ room_1 (by decide +kernel) (by decide +kernel) (by decide +kernel) (by decide +kernel) (by decide +kernel) (by decide +kernel)
theorem allAtoms_all (ts : List Jvm.Cond) (a : Array Jvm.Value) (st : Jvm.State) : (allAtoms ts).before a st = ts.all (fun c => c.before a st) := by
  induction ts with
  | nil => rfl
  | cons c t ih =>
    show (Jvm.Cond.and c (allAtoms t)).before a st = _
    rw [Jvm.Cond.before_and, ih, List.all_cons]
def words1 : List Jvm.Cond := Jvm.Cond.code x code maxLocals ret :: tables_1
/-- a 'code' word, met by the world's own term for the bytes: nothing is compared byte by byte -/
theorem code_word {y : MethodName} {bytes : ByteArray} {mx : Nat} {rt : Option FieldType} {a : Array Value} {s : State} {m : MethodId} {meth : Method} {c : Code} (h1 : s.methodNamed? y = some m) (h2 : s.vm.method? m = some meth) (h3 : meth.code = some c) (h4 : c.code = bytes)
    (h5 : (c.maxLocals == mx && c.exceptionTable.isEmpty && decide (c.maxStack ≤ mostOperands) && decide (meth.sig.returnType = rt) && !meth.locks && decide (parseMethodDescriptor y.desc = some meth.sig)) = true) : (Jvm.Cond.code y bytes mx rt).before a s = true := by
  simp only [Bool.and_eq_true, beq_iff_eq, Bool.not_eq_true', decide_eq_true_eq] at h5
  obtain ⟨⟨⟨⟨⟨g1, g2⟩, g3⟩, g4⟩, g5⟩, g6⟩ := h5
  simp [Cond.before, Cond.holds, Cond.value, h1, h2, h3, h4, g1, g2, g3, g4, g5, g6]
def isCode : Jvm.Cond → Bool
  | .code _ _ _ _ => true
  | _ => false
theorem all_split {L : List Jvm.Cond} {P : Jvm.Cond → Bool} (h1 : L.all (fun c => isCode c || P c) = true) (h2 : ∀ c ∈ L.filter isCode, P c = true) : L.all P = true := by
  refine List.all_eq_true.mpr fun c hc => ?_
  have h := List.all_eq_true.mp h1 c hc
  rcases Bool.eq_false_or_eq_true (isCode c) with hi | hi
  · exact h2 c (List.mem_filter.mpr ⟨hc, hi⟩)
  · simpa [hi] using h
set_option maxRecDepth 65536 in
theorem w_c0 : (Jvm.Cond.code x code maxLocals ret).before args0 about1 = true := code_word (m := ⟨1, 1⟩) (meth := k1m1) (c := k1c1) (by decide +kernel) rfl rfl rfl (by decide +kernel)
set_option maxRecDepth 65536 in
theorem w_c1 : (Jvm.Cond.code ({ cls := "java/lang/Math", name := "min", desc := "(II)I" } : Jvm.MethodName) jdk_29_method_69_code (2 : Nat) (Option.some Jvm.ClassFile.FieldType.int)).before args0 about1 = true := code_word (m := ⟨2, 3⟩) (meth := k2m3) (c := k2c3) (by decide +kernel) rfl rfl rfl (by decide +kernel)
set_option maxRecDepth 65536 in
theorem w_c2 : (Jvm.Cond.code ({ cls := "java/lang/Math", name := "max", desc := "(II)I" } : Jvm.MethodName) jdk_29_method_65_code (2 : Nat) (Option.some Jvm.ClassFile.FieldType.int)).before args0 about1 = true := code_word (m := ⟨2, 2⟩) (meth := k2m2) (c := k2c2) (by decide +kernel) rfl rfl rfl (by decide +kernel)
set_option maxRecDepth 65536 in
theorem w_c3 : (Jvm.Cond.code ({ cls := "com/example/tight_reach/tightreach/Interval", name := "<init>", desc := "(DD)V" } : Jvm.MethodName) prog_8_method_1_code (5 : Nat) (Option.none : Option Jvm.ClassFile.FieldType)).before args0 about1 = true := code_word (m := ⟨4, 0⟩) (meth := k4m0) (c := k4c0) (by decide +kernel) rfl rfl rfl (by decide +kernel)
set_option maxRecDepth 65536 in
theorem w_c4 : (Jvm.Cond.code ({ cls := "java/lang/Record", name := "<init>", desc := "()V" } : Jvm.MethodName) jdk_30_method_1_code (1 : Nat) (Option.none : Option Jvm.ClassFile.FieldType)).before args0 about1 = true := code_word (m := ⟨3, 0⟩) (meth := k3m0) (c := k3c0) (by decide +kernel) rfl rfl rfl (by decide +kernel)
set_option maxRecDepth 65536 in
theorem w_c5 : (Jvm.Cond.code ({ cls := "java/lang/Object", name := "<init>", desc := "()V" } : Jvm.MethodName) object_method_1_code (1 : Nat) (Option.none : Option Jvm.ClassFile.FieldType)).before args0 about1 = true := code_word (m := ⟨0, 0⟩) (meth := k0m0) (c := k0c0) (by decide +kernel) rfl rfl rfl (by decide +kernel)
set_option maxRecDepth 65536 in
theorem w_c6 : (Jvm.Cond.code ({ cls := "java/lang/Double", name := "isFinite", desc := "(D)Z" } : Jvm.MethodName) jdk_117_method_8_code (2 : Nat) (Option.some Jvm.ClassFile.FieldType.boolean)).before args0 about1 = true := code_word (m := ⟨10, 0⟩) (meth := k10m0) (c := k10c0) (by decide +kernel) rfl rfl rfl (by decide +kernel)
set_option maxRecDepth 65536 in
theorem w_c7 : (Jvm.Cond.code ({ cls := "java/lang/Math", name := "abs", desc := "(D)D" } : Jvm.MethodName) jdk_29_method_64_code (2 : Nat) (Option.some Jvm.ClassFile.FieldType.double)).before args0 about1 = true := code_word (m := ⟨2, 1⟩) (meth := k2m1) (c := k2c1) (by decide +kernel) rfl rfl rfl (by decide +kernel)
set_option maxRecDepth 65536 in
theorem w_c8 : (Jvm.Cond.code ({ cls := "com/example/tight_reach/tightreach/Interval", name := "midpoint", desc := "()D" } : Jvm.MethodName) prog_8_method_8_code (1 : Nat) (Option.some Jvm.ClassFile.FieldType.double)).before args0 about1 = true := code_word (m := ⟨4, 1⟩) (meth := k4m1) (c := k4c1) (by decide +kernel) rfl rfl rfl (by decide +kernel)
def codes1 : List Jvm.Cond := [Jvm.Cond.code x code maxLocals ret, Jvm.Cond.code ({ cls := "java/lang/Math", name := "min", desc := "(II)I" } : Jvm.MethodName) jdk_29_method_69_code (2 : Nat) (Option.some Jvm.ClassFile.FieldType.int), Jvm.Cond.code ({ cls := "java/lang/Math", name := "max", desc := "(II)I" } : Jvm.MethodName) jdk_29_method_65_code (2 : Nat) (Option.some Jvm.ClassFile.FieldType.int), Jvm.Cond.code ({ cls := "com/example/tight_reach/tightreach/Interval", name := "<init>", desc := "(DD)V" } : Jvm.MethodName) prog_8_method_1_code (5 : Nat) (Option.none : Option Jvm.ClassFile.FieldType), Jvm.Cond.code ({ cls := "java/lang/Record", name := "<init>", desc := "()V" } : Jvm.MethodName) jdk_30_method_1_code (1 : Nat) (Option.none : Option Jvm.ClassFile.FieldType), Jvm.Cond.code ({ cls := "java/lang/Object", name := "<init>", desc := "()V" } : Jvm.MethodName) object_method_1_code (1 : Nat) (Option.none : Option Jvm.ClassFile.FieldType), Jvm.Cond.code ({ cls := "java/lang/Double", name := "isFinite", desc := "(D)Z" } : Jvm.MethodName) jdk_117_method_8_code (2 : Nat) (Option.some Jvm.ClassFile.FieldType.boolean), Jvm.Cond.code ({ cls := "java/lang/Math", name := "abs", desc := "(D)D" } : Jvm.MethodName) jdk_29_method_64_code (2 : Nat) (Option.some Jvm.ClassFile.FieldType.double), Jvm.Cond.code ({ cls := "com/example/tight_reach/tightreach/Interval", name := "midpoint", desc := "()D" } : Jvm.MethodName) prog_8_method_8_code (1 : Nat) (Option.some Jvm.ClassFile.FieldType.double)]
set_option maxRecDepth 65536 in
theorem codes_eq : words1.filter isCode = codes1 := rfl
theorem w_codes : ∀ c ∈ words1.filter isCode, c.before args0 about1 = true := by
  rw [codes_eq]
  intro c hc
  simp only [codes1, List.mem_cons, List.not_mem_nil, or_false] at hc
  rcases hc with rfl | rfl | rfl | rfl | rfl | rfl | rfl | rfl | rfl
  · exact w_c0
  · exact w_c1
  · exact w_c2
  · exact w_c3
  · exact w_c4
  · exact w_c5
  · exact w_c6
  · exact w_c7
  · exact w_c8
set_option maxRecDepth 65536 in
theorem w_t1 : (words1.take 24).all (fun c => isCode c || c.before args0 about1) = true := by decide +kernel
set_option maxRecDepth 65536 in
theorem w_t2 : (words1.drop 24).all (fun c => isCode c || c.before args0 about1) = true := by decide +kernel
theorem w_tables : (allAtoms (Jvm.Cond.code x code maxLocals ret :: tables_1)).before args0 about1 = true := by
  rw [allAtoms_all]
  show words1.all (fun c => c.before args0 about1) = true
  refine all_split ?_ w_codes
  rw [← List.take_append_drop 24 words1, List.all_append, w_t1, w_t2]
  rfl
set_option maxRecDepth 65536 in
theorem w_case : (Jvm.Cond.and given_1 narrow_1).before args0 about1 = true := by decide +kernel
theorem w_applies : (headSpec (Jvm.Cond.code x code maxLocals ret :: tables_1) room_1).applies x e0.platform about1 = true :=
  (Spec.applies_iff w_frames).mpr ⟨w_running, w_runnable, w_alone, w_named, w_hears, w_ripe, w_room, w_tables⟩
theorem atStart : AtStart classFile x code maxLocals ret World_1 tables_1 room_1 Calls_1 rest_1 Pre_1 launch0 p0 e0 about1 theMethod args0 below0 :=
  ⟨lists_1, trivial, launch0.admits_env _ _ _, launch0.least_env, fairChoices_fair.cas, fairChoices_fair.clock, w_frames, w_args, w_heap, w_applies, trivial, trivial, w_case⟩
end start1
theorem witness_1 : WitnessClaimed_1 := ⟨start1.p0, start1.e0, start1.about1, start1.theMethod, start1.args0, start1.below0, start1.atStart⟩
end Jvm.Pilot.@@N@@
