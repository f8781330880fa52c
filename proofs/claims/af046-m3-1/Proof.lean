import JvmDerived
import JvmDerived.Pilot.@@N@@Statement
import JvmDerived.Pilot.@@N@@Code
set_option linter.unusedVariables false
set_option linter.unusedSimpArgs false
@@BLOCK:NumsL.lean.txt@@
namespace Jvm.RoadKit
open Sem ClassFile Op Lib Jvm.Stand Jvm.Free Jvm.LawKit
section New
variable {p : Program} {l : Launch} {e : Env} {R : Room} {s : State} {m : MethodId} {args : Array Value} {below : List Frame} {meth : Method} {c : Code} {T : State} {locs : List Loc} {cells slots : Nat}
theorem retI (X : Stand p l e R s m args below meth c T locs cells slots) (hx : p.tables.exec = Jvm.exec) {pc : Nat} {Ls : Array Slot} {z : Int32} {rest : List Value} (hret : meth.sig.returnType = some .int) (hd : decode c.code pc = .ok (.ireturn, 1)) {fs : List Frame}
    (hl : ∀ (f : JFrame) (acts : List Action), f.method = m → f.locked = none → f.entered = [] → (doReturn e (T.setTop f) acts (some (.int z))).1 = T.setFrames fs) : Steps p.tables e below (T.setTop (mkF m pc Ls (.int z :: rest))) (T.setFrames fs) := by
  have hm' : T.vm.method? m = some meth := X.method'
  have hn : narrow .int (.int z) = .int z := rfl
  show Steps p.tables e below (T.setTop { method := m, pc := pc, locals := Ls, stack := _ :: rest, locked := none }) _
  jvm_step X.here [X.here.top, hx, hd, hm', hret, hn]
  first | (intro acts; rw [hl _ acts rfl rfl rfl]) | rw [hl _ _ rfl rfl rfl]
  exact Steps.refl _
theorem retD (X : Stand p l e R s m args below meth c T locs cells slots) (hx : p.tables.exec = Jvm.exec) {pc : Nat} {Ls : Array Slot} {z : UInt64} {rest : List Value} (hret : meth.sig.returnType = some .double) (hd : decode c.code pc = .ok (.dreturn, 1)) {fs : List Frame}
    (hl : ∀ (f : JFrame) (acts : List Action), f.method = m → f.locked = none → f.entered = [] → (doReturn e (T.setTop f) acts (some (.double z))).1 = T.setFrames fs) : Steps p.tables e below (T.setTop (mkF m pc Ls (.double z :: rest))) (T.setFrames fs) := by
  have hm' : T.vm.method? m = some meth := X.method'
  show Steps p.tables e below (T.setTop { method := m, pc := pc, locals := Ls, stack := _ :: rest, locked := none }) _
  jvm_step X.here [X.here.top, hx, hd, hm', hret, narrow]
  first | (intro acts; rw [hl _ acts rfl rfl rfl]) | (refine ⟨meth, hm', ⟨_, hret, rfl⟩, fun acts => ?_⟩; rw [hl _ acts rfl rfl rfl])
  exact Steps.refl _
theorem retA (X : Stand p l e R s m args below meth c T locs cells slots) (hx : p.tables.exec = Jvm.exec) {pc : Nat} {Ls : Array Slot} {v : Value} {rest : List Value} {t : FieldType} (hret : meth.sig.returnType = some t) (ht : t.isReference = true) (hv : v.isRef = true) (hd : decode c.code pc = .ok (.areturn, 1)) {fs : List Frame}
    (hl : ∀ (f : JFrame) (acts : List Action), f.method = m → f.locked = none → f.entered = [] → (doReturn e (T.setTop f) acts (some v)).1 = T.setFrames fs) : Steps p.tables e below (T.setTop (mkF m pc Ls (v :: rest))) (T.setFrames fs) := by
  have hm' : T.vm.method? m = some meth := X.method'
  show Steps p.tables e below (T.setTop { method := m, pc := pc, locals := Ls, stack := _ :: rest, locked := none }) _
  jvm_step X.here [X.here.top, hx, hd, hm', hret, hv, ht]
  first | (intro acts; rw [hl _ acts rfl rfl rfl]) | (refine ⟨meth, hm', ⟨_, hret, rfl⟩, fun acts => ?_⟩; rw [hl _ acts rfl rfl rfl])
  exact Steps.refl _
theorem own_ref {v : Value} (h : v.isRef = true) : v = .null ∨ ∃ b, v = .ref b := by
  cases v <;> simp [Value.isRef] at h <;> simp
theorem own_narrow {v : Value} {C : String} (h : v.isRef = true) : narrow (.object C) v = v := by
  rcases own_ref h with rfl | ⟨b, rfl⟩ <;> rfl
theorem own_fits {v : Value} {C : String} (h : v.isRef = true) : fits (.object C) v = true := by
  rcases own_ref h with rfl | ⟨b, rfl⟩ <;> rfl
end New
end Jvm.RoadKit
namespace Jvm.OwnF
open Jvm.FP.Core
/-- x is a finite double, of the value M * 2^(e - 1074), exactly -/
def DV (x : UInt64) (M : Int) (e : Nat) : Prop := ∃ s c q, val64 x = .fin s c q ∧ signed s (c * 2 ^ (q + 1074).toNat) = M * ((2 ^ e : Nat) : Int)
theorem DV.dfin {x : UInt64} {M : Int} {e : Nat} (h : DV x M e) : DFin x := by obtain ⟨s, c, q, h, -⟩ := h; exact ⟨s, c, q, h⟩
theorem DV.fin {x : UInt64} {M : Int} {e : Nat} (h : DV x M e) : Jvm.Free.Fl.Fin64 x := Jvm.Free.Fl.fin64_core.mpr h.dfin
theorem DV.noNaN {x : UInt64} {M : Int} {e : Nat} (h : DV x M e) : Jvm.Free.Fl.NoNaN64 x := h.fin.noNaN
theorem qmax_b64 : b64.qmax = 971 := by decide
theorem zv (s : Bool) (c : Nat) (q : Int) : zval b64 (.fin s c q) = signed s (c * 2 ^ (q + 1074).toNat) := by
  show signed s (inUnits c q b64.qmin) = _
  unfold inUnits
  rw [qmin_b64, Int.sub_neg]
theorem two_pow_int (n : Nat) : (0 : Int) < ((2 ^ n : Nat) : Int) := Int.natCast_pos.mpr (Nat.two_pow_pos n)
/-- powers of two on both sides, cancelled -/
theorem cancel {A B x y : Nat} (h : A * 2 ^ x = B * 2 ^ y) : A * 2 ^ ((x : Int) - (y : Int)).toNat = B * 2 ^ ((y : Int) - (x : Int)).toNat := by
  rcases Nat.le_total x y with hl | hl
  · have e1 : ((x : Int) - (y : Int)).toNat = 0 := by omega
    have e2 : ((y : Int) - (x : Int)).toNat = y - x := by omega
    rw [e1, e2]
    have h2 : 2 ^ y = 2 ^ (y - x) * 2 ^ x := by rw [← Nat.pow_add]; congr 1; omega
    rw [h2, ← Nat.mul_assoc] at h
    rw [Nat.eq_of_mul_eq_mul_right (Nat.two_pow_pos x) h]; simp
  · have e1 : ((x : Int) - (y : Int)).toNat = x - y := by omega
    have e2 : ((y : Int) - (x : Int)).toNat = 0 := by omega
    rw [e1, e2]
    have h2 : 2 ^ x = 2 ^ (x - y) * 2 ^ y := by rw [← Nat.pow_add]; congr 1; omega
    rw [h2, ← Nat.mul_assoc] at h
    rw [Nat.eq_of_mul_eq_mul_right (Nat.two_pow_pos y) h]; simp
/-- a magnitude that the format holds is rounded to itself; k: the places by which it is moved up -/
theorem round_at {s : Bool} {c N e k : Nat} {q : Int} (hN : N * 2 ^ k < 2 ^ 53) (hk : k ≤ e) (he : e ≤ 2045 + k) (h : c * 2 ^ (q - ((e : Int) - 1074)).toNat = N * 2 ^ (((e : Int) - 1074) - q).toNat) :
    ∃ c' q', round b64 (.fin s c q) = .fin s c' q' ∧ c' * 2 ^ (q' + 1074).toNat = N * 2 ^ e := by
  have h1 : round b64 (.fin s c q) = round b64 (.fin s N ((e : Int) - 1074)) :=
    roundRatio_congr (by decide) (by decide) (by rw [Nat.mul_one, Nat.mul_one]; exact h)
  have h2 : round b64 (.fin s N ((e : Int) - 1074)) = round b64 (.fin s (N * 2 ^ k) ((e : Int) - 1074 - k)) := by
    refine roundRatio_congr (by decide) (by decide) ?_
    have e1 : ((e : Int) - 1074 - (e - 1074 - k)).toNat = k := by omega
    have e2 : ((e : Int) - 1074 - k - (e - 1074)).toNat = 0 := by omega
    rw [e1, e2]; simp
  obtain ⟨c', q', hr, hu⟩ := round_exact good_b64 s (c := N * 2 ^ k) (q := (e : Int) - 1074 - k) hN (by rw [qmin_b64]; omega) (by rw [qmax_b64]; omega)
  refine ⟨c', q', by rw [h1, h2, hr], ?_⟩
  unfold inUnits at hu
  rw [qmin_b64, Int.sub_neg, Int.sub_neg, show ((e : Int) - 1074 - k + 1074).toNat = e - k by omega] at hu
  rw [hu, Nat.mul_assoc, ← Nat.pow_add]; congr 2; omega
theorem abs_of {s : Bool} {A : Nat} {M : Int} {e : Nat} (h : signed s A = M * ((2 ^ e : Nat) : Int)) : A = M.natAbs * 2 ^ e := by
  have := congrArg Int.natAbs h
  rwa [natAbs_signed, Int.natAbs_mul, Int.natAbs_natCast] at this
theorem sign_of {s : Bool} {A : Nat} {M : Int} {e : Nat} (h : signed s A = M * ((2 ^ e : Nat) : Int)) : signed s M.natAbs = M := by
  have ha := abs_of h
  rw [ha, signed_mul] at h
  exact Int.eq_of_mul_eq_mul_right (Int.ne_of_gt (two_pow_int e)) h
theorem q_low {x : UInt64} {s : Bool} {c : Nat} {q : Int} (h : val64 x = .fin s c q) : -1074 ≤ q := by
  have := val64_fits x
  rw [h] at this
  have h2 := this.2.1
  rw [qmin_b64] at h2; exact h2
theorem dmul_v {x y : UInt64} {M N : Int} {e f : Nat} (k g : Nat) (hx : DV x M e) (hy : DV y N f) (hg : g + 1074 = e + f) (hb : (M * N).natAbs * 2 ^ k < 2 ^ 53) (hk : k ≤ g) (he : g ≤ 2045 + k) : DV (FP.dmul x y) (M * N) g := by
  obtain ⟨s, c, q, hv, hz⟩ := hx
  obtain ⟨t, d, r, hw, hu⟩ := hy
  have q1 := q_low hv
  have r1 := q_low hw
  have a1 := abs_of hz
  have a2 := abs_of hu
  have hp : c * d * 2 ^ ((q + 1074).toNat + (r + 1074).toNat) = (M * N).natAbs * 2 ^ (e + f) := by
    rw [Nat.pow_add, Nat.pow_add, Int.natAbs_mul]
    calc c * d * (2 ^ (q + 1074).toNat * 2 ^ (r + 1074).toNat) = (c * 2 ^ (q + 1074).toNat) * (d * 2 ^ (r + 1074).toNat) := by ac_rfl
      _ = (M.natAbs * 2 ^ e) * (N.natAbs * 2 ^ f) := by rw [a1, a2]
      _ = M.natAbs * N.natAbs * (2 ^ e * 2 ^ f) := by ac_rfl
  have hc := cancel hp
  have hval : val64 (FP.dmul x y) = round b64 (.fin (s != t) (c * d) (q + r)) := by
    rw [show val64 (FP.dmul x y) = round b64 (exactProduct (val64 x) (val64 y)) from val64_dmul x y, hv, hw]; rfl
  obtain ⟨c', q', hr, hn⟩ := round_at (s := s != t) (c := c * d) (q := q + r) (N := (M * N).natAbs) (e := g) (k := k) hb hk he (by
    have e1 : (q + r - ((g : Int) - 1074)).toNat = (((q + 1074).toNat + (r + 1074).toNat : Nat) - ((e + f : Nat) : Int)).toNat := by congr 1; omega
    have e2 : ((g : Int) - 1074 - (q + r)).toNat = (((e + f : Nat) : Int) - ((q + 1074).toNat + (r + 1074).toNat : Nat)).toNat := by congr 1; omega
    rw [e1, e2]; exact hc)
  refine ⟨s != t, c', q', by rw [hval, hr], ?_⟩
  rw [hn, signed_mul, Int.natAbs_mul, signed_xor, sign_of hz, sign_of hu]
theorem ddiv_v {x y : UInt64} {M : Int} {e f : Nat} (k g : Nat) (hx : DV x M e) (hy : DV y 1 f) (hg : g + f = e + 1074) (hb : M.natAbs * 2 ^ k < 2 ^ 53) (hk : k ≤ g) (he : g ≤ 2045 + k) : DV (FP.ddiv x y) M g := by
  obtain ⟨s, c, q, hv, hz⟩ := hx
  obtain ⟨t, d, r, hw, hu⟩ := hy
  have q1 := q_low hv
  have r1 := q_low hw
  have a1 := abs_of hz
  have a2 := abs_of hu
  have a3 : d * 2 ^ (r + 1074).toNat = 2 ^ f := by rw [a2]; simp
  have hd : d ≠ 0 := by
    intro h0; rw [h0, Nat.zero_mul] at a3; have := Nat.two_pow_pos f; omega
  have hval : val64 (FP.ddiv x y) = roundRatio b64 (s != t) c d (q - r) := by
    rw [show val64 (FP.ddiv x y) = quotient b64 (val64 x) (val64 y) from val64_ddiv x y, hv, hw]
    show (if d = 0 then _ else _) = _
    rw [if_neg hd]
  have hp : c * 2 ^ ((q + 1074).toNat + f) = M.natAbs * d * 2 ^ (e + (r + 1074).toNat) := by
    rw [Nat.pow_add, Nat.pow_add, ← a3]
    calc c * (2 ^ (q + 1074).toNat * (d * 2 ^ (r + 1074).toNat)) = (c * 2 ^ (q + 1074).toNat) * (d * 2 ^ (r + 1074).toNat) := by ac_rfl
      _ = (M.natAbs * 2 ^ e) * (d * 2 ^ (r + 1074).toNat) := by rw [a1]
      _ = M.natAbs * d * (2 ^ e * 2 ^ (r + 1074).toNat) := by ac_rfl
  have hc := cancel hp
  have h1 : roundRatio b64 (s != t) c d (q - r) = round b64 (.fin (s != t) M.natAbs ((g : Int) - 1074)) := by
    refine roundRatio_congr (by omega) (by decide) ?_
    have e1 : (q - r - ((g : Int) - 1074)).toNat = (((q + 1074).toNat + f : Nat) - ((e + (r + 1074).toNat : Nat) : Int)).toNat := by congr 1; omega
    have e2 : ((g : Int) - 1074 - (q - r)).toNat = (((e + (r + 1074).toNat : Nat) : Int) - ((q + 1074).toNat + f : Nat)).toNat := by congr 1; omega
    rw [e1, e2, Nat.mul_one]; exact hc
  obtain ⟨c', q', hr, hn⟩ := round_at (s := s != t) (c := M.natAbs) (q := (g : Int) - 1074) (N := M.natAbs) (e := g) (k := k) hb hk he rfl
  refine ⟨s != t, c', q', by rw [hval, h1, hr], ?_⟩
  have ht : signed t 1 = 1 := sign_of hu
  rw [hn, signed_mul]
  have := signed_xor s t M.natAbs 1
  rw [Nat.mul_one, ht, Int.mul_one, sign_of hz] at this
  rw [this]
theorem dadd_v {x y : UInt64} {M N : Int} {e : Nat} (k : Nat) (hx : DV x M e) (hy : DV y N e) (hb : (M + N).natAbs * 2 ^ k < 2 ^ 53) (hk : k ≤ e) (he : e ≤ 2045 + k) : DV (FP.dadd x y) (M + N) e := by
  obtain ⟨s, c, q, hv, hz⟩ := hx
  obtain ⟨t, d, r, hw, hu⟩ := hy
  have f1 := val64_fits x
  have f2 := val64_fits y
  rw [hv] at f1
  rw [hw] at f2
  obtain ⟨sg, n, e0, hs, hq, hsum⟩ := sum_units f1 f2
  rw [zv, zv, hz, hu, ← Int.add_mul] at hsum
  unfold inUnits at hsum
  rw [qmin_b64] at hq
  rw [qmin_b64, Int.sub_neg] at hsum
  have hval : val64 (FP.dadd x y) = round b64 (.fin sg n e0) := by
    rw [show val64 (FP.dadd x y) = round b64 (exactSum (val64 x) (val64 y)) from val64_dadd x y, hv, hw, hs]
  have hc := cancel (abs_of hsum)
  obtain ⟨c', q', hr, hn⟩ := round_at (s := sg) (c := n) (q := e0) (N := (M + N).natAbs) (e := e) (k := k) hb hk he (by
    have e1 : (e0 - ((e : Int) - 1074)).toNat = (((e0 + 1074).toNat : Int) - (e : Int)).toNat := by congr 1; omega
    have e2 : ((e : Int) - 1074 - e0).toNat = ((e : Int) - ((e0 + 1074).toNat : Int)).toNat := by congr 1; omega
    rw [e1, e2]; exact hc)
  refine ⟨sg, c', q', by rw [hval, hr], ?_⟩
  rw [hn, signed_mul, sign_of hsum]
theorem DV.zval {x : UInt64} {M : Int} {e : Nat} (h : DV x M e) : zval b64 (val64 x) = M * ((2 ^ e : Nat) : Int) := by
  obtain ⟨s, c, q, hv, hz⟩ := h
  rw [hv, zv, hz]
theorem DV.nn {x : UInt64} {M : Int} {e : Nat} (h : DV x M e) : val64 x ≠ .nan := by
  obtain ⟨s, c, q, hv, -⟩ := h
  rw [hv]; exact Datum.noConfusion
theorem dcmp_v {x y : UInt64} {M N : Int} {e f : Nat} (hx : DV x M e) (hy : DV y N f) : FP.dcmp x y = some (compare (M * ((2 ^ e : Nat) : Int)) (N * ((2 ^ f : Nat) : Int))) := by
  rw [← hx.zval, ← hy.zval]
  exact order_zval good_b64 (val64_fits x) (val64_fits y) hx.nn hy.nn
theorem DV.eq {x : UInt64} {M N : Int} {e f : Nat} (h : DV x M e) (q : M * ((2 ^ e : Nat) : Int) = N * ((2 ^ f : Nat) : Int)) : DV x N f := by
  obtain ⟨s, c, q, hv, hz⟩ := h
  exact ⟨s, c, q, hv, by rw [hz]; assumption⟩
theorem DV.of_int {x : UInt64} {i : Int} (h : DInt i x) : DV x i 1074 := by
  unfold DInt at h
  have hf := val64_fits x
  generalize hv : val64 x = d at h hf
  cases d with
  | nan => exact h.elim
  | inf s => exact h.elim
  | fin s c q =>
    have hq : -1074 ≤ q := by have := hf.2.1; rw [qmin_b64] at this; exact this
    refine ⟨s, c, q, hv, ?_⟩
    have h' : signed s (c * 2 ^ q.toNat) = i * ((2 ^ (-q).toNat : Nat) : Int) := h
    rcases Int.le_total 0 q with h0 | h0
    · have e1 : (-q).toNat = 0 := by omega
      have e2 : (q + 1074).toNat = q.toNat + 1074 := by omega
      rw [e1] at h'
      rw [e2, Nat.pow_add, ← Nat.mul_assoc, signed_mul, h']; simp
    · have e1 : q.toNat = 0 := by omega
      rw [e1, Nat.pow_zero, Nat.mul_one] at h'
      rw [signed_mul, h', Int.mul_assoc, ← Int.natCast_mul, ← Nat.pow_add, show (-q).toNat + (q + 1074).toNat = 1074 by omega]
theorem i2d_v (a : Int32) : DV (FP.i2d a) a.toInt 1074 := DV.of_int (i2d_int a)
theorem l2d_v {a : Int64} (h : a.toInt.natAbs ≤ 2 ^ 53) : DV (FP.l2d a) a.toInt 1074 := DV.of_int (l2d_int h)
theorem compare_lt {a b : Int} (h : a < b) : compare a b = .lt := by rw [compare_ite, if_pos h]
theorem compare_eq {a b : Int} (h : a = b) : compare a b = .eq := by rw [compare_ite, if_neg (by omega), if_pos h]
theorem compare_gt {a b : Int} (h : b < a) : compare a b = .gt := by rw [compare_ite, if_neg (by omega), if_neg (by omega)]
/-- what dcmpl and dcmpg push, of two finite doubles -/
theorem cmp_lt {x y : UInt64} {M N : Int} {e f : Nat} (hx : DV x M e) (hy : DV y N f) (o : Jvm.ClassFile.CmpOp) (h : M * ((2 ^ e : Nat) : Int) < N * ((2 ^ f : Nat) : Int)) : Jvm.Op.cmpValue (FP.dcmp x y) o = -1 := by
  rw [dcmp_v hx hy, compare_lt h]; rfl
theorem cmp_eq {x y : UInt64} {M N : Int} {e f : Nat} (hx : DV x M e) (hy : DV y N f) (o : Jvm.ClassFile.CmpOp) (h : M * ((2 ^ e : Nat) : Int) = N * ((2 ^ f : Nat) : Int)) : Jvm.Op.cmpValue (FP.dcmp x y) o = 0 := by
  rw [dcmp_v hx hy, compare_eq h]; rfl
theorem cmp_gt {x y : UInt64} {M N : Int} {e f : Nat} (hx : DV x M e) (hy : DV y N f) (o : Jvm.ClassFile.CmpOp) (h : N * ((2 ^ f : Nat) : Int) < M * ((2 ^ e : Nat) : Int)) : Jvm.Op.cmpValue (FP.dcmp x y) o = 1 := by
  rw [dcmp_v hx hy, compare_gt h]; rfl
theorem cmp_ngt {x y : UInt64} {M N : Int} {e f : Nat} (hx : DV x M e) (hy : DV y N f) (o : Jvm.ClassFile.CmpOp) (h : ¬ N * ((2 ^ f : Nat) : Int) < M * ((2 ^ e : Nat) : Int)) : ¬ 0 < Jvm.Op.cmpValue (FP.dcmp x y) o := by
  rcases Int.lt_trichotomy (M * ((2 ^ e : Nat) : Int)) (N * ((2 ^ f : Nat) : Int)) with q | q | q
  · rw [cmp_lt hx hy o q]; decide
  · rw [cmp_eq hx hy o q]; decide
  · exact absurd q h
theorem cmp_nlt {x y : UInt64} {M N : Int} {e f : Nat} (hx : DV x M e) (hy : DV y N f) (o : Jvm.ClassFile.CmpOp) (h : ¬ M * ((2 ^ e : Nat) : Int) < N * ((2 ^ f : Nat) : Int)) : ¬ Jvm.Op.cmpValue (FP.dcmp x y) o < 0 := by
  rcases Int.lt_trichotomy (M * ((2 ^ e : Nat) : Int)) (N * ((2 ^ f : Nat) : Int)) with q | q | q
  · exact absurd q h
  · rw [cmp_eq hx hy o q]; decide
  · rw [cmp_gt hx hy o q]; decide
/-- rounding keeps the order with a double: a product that is no smaller than c, no greater than c -/
theorem prod_fin {x y : UInt64} {M N : Int} {e f : Nat} (hx : DV x M e) (hy : DV y N f) : ∃ s c q, val64 (FP.dmul x y) = round b64 (.fin s c q) ∧ -2148 ≤ q ∧ signed s (inUnits c q (-2148)) = (M * ((2 ^ e : Nat) : Int)) * (N * ((2 ^ f : Nat) : Int)) := by
  have zx := hx.zval
  have zy := hy.zval
  obtain ⟨s, c, q, hv, -⟩ := hx
  obtain ⟨t, d, r, hw, -⟩ := hy
  have f1 := val64_fits x
  have f2 := val64_fits y
  rw [hv] at f1 zx
  rw [hw] at f2 zy
  obtain ⟨h1, h2, h3⟩ := product_units f1 f2
  rw [qmin_b64] at h2 h3
  refine ⟨s != t, c * d, q + r, ?_, h2, ?_⟩
  · rw [show val64 (FP.dmul x y) = round b64 (exactProduct (val64 x) (val64 y)) from val64_dmul x y, hv, hw, h1]
  · rw [show (-2148 : Int) = 2 * -1074 from rfl, h3, signed_xor]
    unfold zval at zx zy
    rw [← zx, ← zy]; rfl
theorem dmul_ge {x y c : UInt64} {M N K : Int} {e f g : Nat} (hx : DV x M e) (hy : DV y N f) (hc : DV c K g) (h : K * ((2 ^ g : Nat) : Int) * ((2 ^ 1074 : Nat) : Int) ≤ (M * ((2 ^ e : Nat) : Int)) * (N * ((2 ^ f : Nat) : Int))) : zval b64 (val64 c) ≤ zval b64 (val64 (FP.dmul x y)) := by
  obtain ⟨s, d, q, hv, hq, hs⟩ := prod_fin hx hy
  rw [hv]
  refine zval_round_ge good_b64 (e0 := -2148) (val64_fits c) hc.nn (by rw [qmin_b64]; decide) hq ?_
  rw [hs, hc.zval, qmin_b64]; exact h
theorem dmul_le {x y c : UInt64} {M N K : Int} {e f g : Nat} (hx : DV x M e) (hy : DV y N f) (hc : DV c K g) (h : (M * ((2 ^ e : Nat) : Int)) * (N * ((2 ^ f : Nat) : Int)) ≤ K * ((2 ^ g : Nat) : Int) * ((2 ^ 1074 : Nat) : Int)) : zval b64 (val64 (FP.dmul x y)) ≤ zval b64 (val64 c) := by
  obtain ⟨s, d, q, hv, hq, hs⟩ := prod_fin hx hy
  rw [hv]
  refine zval_round_le good_b64 (e0 := -2148) (val64_fits c) hc.nn (by rw [qmin_b64]; decide) hq ?_
  rw [hs, hc.zval, qmin_b64]; exact h
theorem cmp_z {x y : UInt64} (hx : Jvm.Free.Fl.NoNaN64 x) (hy : Jvm.Free.Fl.NoNaN64 y) : FP.dcmp x y = some (compare (zval b64 (val64 x)) (zval b64 (val64 y))) :=
  order_zval good_b64 (val64_fits x) (val64_fits y) (Jvm.Free.Fl.val64_no.mp hx) (Jvm.Free.Fl.val64_no.mp hy)
theorem cmp_zge {x y : UInt64} (hx : Jvm.Free.Fl.NoNaN64 x) (hy : Jvm.Free.Fl.NoNaN64 y) (o : Jvm.ClassFile.CmpOp) (h : zval b64 (val64 y) ≤ zval b64 (val64 x)) : ¬ Jvm.Op.cmpValue (FP.dcmp x y) o < 0 := by
  rw [cmp_z hx hy]
  rcases Int.lt_or_eq_of_le h with q | q
  · rw [compare_gt q]; cases o <;> decide
  · rw [compare_eq q.symm]; cases o <;> decide
theorem cmp_zlt {x y : UInt64} (hx : Jvm.Free.Fl.NoNaN64 x) (hy : Jvm.Free.Fl.NoNaN64 y) (o : Jvm.ClassFile.CmpOp) (h : zval b64 (val64 x) < zval b64 (val64 y)) : Jvm.Op.cmpValue (FP.dcmp x y) o < 0 := by
  rw [cmp_z hx hy, compare_lt h]; cases o <;> decide
theorem inf_mul {y : UInt64} {M : Int} {e : Nat} (hy : DV y M e) (hM : 0 < M) : FP.dmul 9218868437227405312 y = 9218868437227405312 := by
  have hi : val64 9218868437227405312 = .inf false := by decide +kernel
  obtain ⟨t, d, r, hw, hz⟩ := hy
  have hs := sign_of hz
  have ha := abs_of hz
  have ht : t = false := by
    cases t with
    | false => rfl
    | true => simp [signed] at hs; omega
  have hd : d ≠ 0 := by
    intro h0; rw [h0, Nat.zero_mul] at ha
    have h1 := Nat.mul_pos (show 0 < M.natAbs by omega) (Nat.two_pow_pos e)
    omega
  have hv : val64 (FP.dmul 9218868437227405312 y) = .inf false := by
    rw [show val64 (FP.dmul 9218868437227405312 y) = round b64 (exactProduct (val64 9218868437227405312) (val64 y)) from val64_dmul _ _, hi, hw, ht]
    show round b64 (if d = 0 then _ else _) = _
    rw [if_neg hd]; rfl
  exact val64_inj (by rw [hv]; exact Datum.noConfusion) (hv.trans hi.symm)
theorem mul_inf {y : UInt64} {M : Int} {e : Nat} (hy : DV y M e) (hM : 0 < M) : FP.dmul y 9218868437227405312 = 9218868437227405312 := by
  rw [show FP.dmul y 9218868437227405312 = FP.dmul 9218868437227405312 y from dmul_comm _ _]; exact inf_mul hy hM
end Jvm.OwnF
namespace Jvm.Pilot.@@N@@
open Jvm Jvm.ClassFile Sem Op Lib Jvm.Free Jvm.Stand Jvm.LawKit Jvm.RoadKit Bundle Jvm.Pilot.@@N@@.Jvm.D
theorem d3_0 : decode method_3_code 0 = .ok (.dconst 1, 1) := by decide +kernel
theorem d3_1 : decode method_3_code 1 = .ok (.dstore_n 1, 1) := by decide +kernel
theorem d3_2 : decode method_3_code 2 = .ok (.iload_n 0, 1) := by decide +kernel
theorem d3_3 : decode method_3_code 3 = .ok (.ifCond .lt 136, 3) := by decide +kernel
theorem d3_6 : decode method_3_code 6 = .ok (.iload_n 0, 1) := by decide +kernel
theorem d3_7 : decode method_3_code 7 = .ok (.iconst 1, 1) := by decide +kernel
theorem d3_8 : decode method_3_code 8 = .ok (.iand, 1) := by decide +kernel
theorem d3_9 : decode method_3_code 9 = .ok (.ifCond .eq 9, 3) := by decide +kernel
theorem d3_12 : decode method_3_code 12 = .ok (.dload_n 1, 1) := by decide +kernel
theorem d3_13 : decode method_3_code 13 = .ok (.ldc2_w 24, 3) := by decide +kernel
theorem d3_16 : decode method_3_code 16 = .ok (.dmul, 1) := by decide +kernel
theorem d3_17 : decode method_3_code 17 = .ok (.dstore_n 1, 1) := by decide +kernel
theorem d3_18 : decode method_3_code 18 = .ok (.iload_n 0, 1) := by decide +kernel
theorem d3_19 : decode method_3_code 19 = .ok (.iconst 2, 1) := by decide +kernel
theorem d3_20 : decode method_3_code 20 = .ok (.iand, 1) := by decide +kernel
theorem d3_21 : decode method_3_code 21 = .ok (.ifCond .eq 9, 3) := by decide +kernel
theorem d3_24 : decode method_3_code 24 = .ok (.dload_n 1, 1) := by decide +kernel
theorem d3_25 : decode method_3_code 25 = .ok (.ldc2_w 26, 3) := by decide +kernel
theorem d3_28 : decode method_3_code 28 = .ok (.dmul, 1) := by decide +kernel
theorem d3_29 : decode method_3_code 29 = .ok (.dstore_n 1, 1) := by decide +kernel
theorem d3_30 : decode method_3_code 30 = .ok (.iload_n 0, 1) := by decide +kernel
theorem d3_31 : decode method_3_code 31 = .ok (.iconst 4, 1) := by decide +kernel
theorem d3_32 : decode method_3_code 32 = .ok (.iand, 1) := by decide +kernel
theorem d3_33 : decode method_3_code 33 = .ok (.ifCond .eq 9, 3) := by decide +kernel
theorem d3_36 : decode method_3_code 36 = .ok (.dload_n 1, 1) := by decide +kernel
theorem d3_37 : decode method_3_code 37 = .ok (.ldc2_w 28, 3) := by decide +kernel
theorem d3_40 : decode method_3_code 40 = .ok (.dmul, 1) := by decide +kernel
theorem d3_41 : decode method_3_code 41 = .ok (.dstore_n 1, 1) := by decide +kernel
theorem d3_42 : decode method_3_code 42 = .ok (.iload_n 0, 1) := by decide +kernel
theorem d3_43 : decode method_3_code 43 = .ok (.bipush 8, 2) := by decide +kernel
theorem d3_45 : decode method_3_code 45 = .ok (.iand, 1) := by decide +kernel
theorem d3_46 : decode method_3_code 46 = .ok (.ifCond .eq 9, 3) := by decide +kernel
theorem d3_49 : decode method_3_code 49 = .ok (.dload_n 1, 1) := by decide +kernel
theorem d3_50 : decode method_3_code 50 = .ok (.ldc2_w 30, 3) := by decide +kernel
theorem d3_53 : decode method_3_code 53 = .ok (.dmul, 1) := by decide +kernel
theorem d3_54 : decode method_3_code 54 = .ok (.dstore_n 1, 1) := by decide +kernel
theorem d3_55 : decode method_3_code 55 = .ok (.iload_n 0, 1) := by decide +kernel
theorem d3_56 : decode method_3_code 56 = .ok (.bipush 16, 2) := by decide +kernel
theorem d3_58 : decode method_3_code 58 = .ok (.iand, 1) := by decide +kernel
theorem d3_59 : decode method_3_code 59 = .ok (.ifCond .eq 9, 3) := by decide +kernel
theorem d3_62 : decode method_3_code 62 = .ok (.dload_n 1, 1) := by decide +kernel
theorem d3_63 : decode method_3_code 63 = .ok (.ldc2_w 32, 3) := by decide +kernel
theorem d3_66 : decode method_3_code 66 = .ok (.dmul, 1) := by decide +kernel
theorem d3_67 : decode method_3_code 67 = .ok (.dstore_n 1, 1) := by decide +kernel
theorem d3_68 : decode method_3_code 68 = .ok (.iload_n 0, 1) := by decide +kernel
theorem d3_69 : decode method_3_code 69 = .ok (.bipush 32, 2) := by decide +kernel
theorem d3_71 : decode method_3_code 71 = .ok (.iand, 1) := by decide +kernel
theorem d3_72 : decode method_3_code 72 = .ok (.ifCond .eq 9, 3) := by decide +kernel
theorem d3_75 : decode method_3_code 75 = .ok (.dload_n 1, 1) := by decide +kernel
theorem d3_76 : decode method_3_code 76 = .ok (.ldc2_w 34, 3) := by decide +kernel
theorem d3_79 : decode method_3_code 79 = .ok (.dmul, 1) := by decide +kernel
theorem d3_80 : decode method_3_code 80 = .ok (.dstore_n 1, 1) := by decide +kernel
theorem d3_81 : decode method_3_code 81 = .ok (.iload_n 0, 1) := by decide +kernel
theorem d3_82 : decode method_3_code 82 = .ok (.bipush 64, 2) := by decide +kernel
theorem d3_84 : decode method_3_code 84 = .ok (.iand, 1) := by decide +kernel
theorem d3_85 : decode method_3_code 85 = .ok (.ifCond .eq 9, 3) := by decide +kernel
theorem d3_88 : decode method_3_code 88 = .ok (.dload_n 1, 1) := by decide +kernel
theorem d3_89 : decode method_3_code 89 = .ok (.ldc2_w 36, 3) := by decide +kernel
theorem d3_92 : decode method_3_code 92 = .ok (.dmul, 1) := by decide +kernel
theorem d3_93 : decode method_3_code 93 = .ok (.dstore_n 1, 1) := by decide +kernel
theorem d3_94 : decode method_3_code 94 = .ok (.iload_n 0, 1) := by decide +kernel
theorem d3_95 : decode method_3_code 95 = .ok (.sipush 128, 3) := by decide +kernel
theorem d3_98 : decode method_3_code 98 = .ok (.iand, 1) := by decide +kernel
theorem d3_99 : decode method_3_code 99 = .ok (.ifCond .eq 9, 3) := by decide +kernel
theorem d3_102 : decode method_3_code 102 = .ok (.dload_n 1, 1) := by decide +kernel
theorem d3_103 : decode method_3_code 103 = .ok (.ldc2_w 38, 3) := by decide +kernel
theorem d3_106 : decode method_3_code 106 = .ok (.dmul, 1) := by decide +kernel
theorem d3_107 : decode method_3_code 107 = .ok (.dstore_n 1, 1) := by decide +kernel
theorem d3_108 : decode method_3_code 108 = .ok (.iload_n 0, 1) := by decide +kernel
theorem d3_109 : decode method_3_code 109 = .ok (.sipush 256, 3) := by decide +kernel
theorem d3_112 : decode method_3_code 112 = .ok (.iand, 1) := by decide +kernel
theorem d3_113 : decode method_3_code 113 = .ok (.ifCond .eq 9, 3) := by decide +kernel
theorem d3_116 : decode method_3_code 116 = .ok (.dload_n 1, 1) := by decide +kernel
theorem d3_117 : decode method_3_code 117 = .ok (.ldc2_w 40, 3) := by decide +kernel
theorem d3_120 : decode method_3_code 120 = .ok (.dmul, 1) := by decide +kernel
theorem d3_121 : decode method_3_code 121 = .ok (.dstore_n 1, 1) := by decide +kernel
theorem d3_122 : decode method_3_code 122 = .ok (.iload_n 0, 1) := by decide +kernel
theorem d3_123 : decode method_3_code 123 = .ok (.sipush 512, 3) := by decide +kernel
theorem d3_126 : decode method_3_code 126 = .ok (.iand, 1) := by decide +kernel
theorem d3_127 : decode method_3_code 127 = .ok (.ifCond .eq 159, 3) := by decide +kernel
theorem d3_130 : decode method_3_code 130 = .ok (.dload_n 1, 1) := by decide +kernel
theorem d3_131 : decode method_3_code 131 = .ok (.ldc2_w 42, 3) := by decide +kernel
theorem d3_134 : decode method_3_code 134 = .ok (.dmul, 1) := by decide +kernel
theorem d3_135 : decode method_3_code 135 = .ok (.dstore_n 1, 1) := by decide +kernel
theorem d3_136 : decode method_3_code 136 = .ok (.goto 150, 3) := by decide +kernel
theorem d3_139 : decode method_3_code 139 = .ok (.iload_n 0, 1) := by decide +kernel
theorem d3_140 : decode method_3_code 140 = .ok (.ineg, 1) := by decide +kernel
theorem d3_141 : decode method_3_code 141 = .ok (.istore_n 3, 1) := by decide +kernel
theorem d3_142 : decode method_3_code 142 = .ok (.iload_n 3, 1) := by decide +kernel
theorem d3_143 : decode method_3_code 143 = .ok (.iconst 1, 1) := by decide +kernel
theorem d3_144 : decode method_3_code 144 = .ok (.iand, 1) := by decide +kernel
theorem d3_145 : decode method_3_code 145 = .ok (.ifCond .eq 9, 3) := by decide +kernel
theorem d3_148 : decode method_3_code 148 = .ok (.dload_n 1, 1) := by decide +kernel
theorem d3_149 : decode method_3_code 149 = .ok (.ldc2_w 44, 3) := by decide +kernel
theorem d3_152 : decode method_3_code 152 = .ok (.dmul, 1) := by decide +kernel
theorem d3_153 : decode method_3_code 153 = .ok (.dstore_n 1, 1) := by decide +kernel
theorem d3_154 : decode method_3_code 154 = .ok (.iload_n 3, 1) := by decide +kernel
theorem d3_155 : decode method_3_code 155 = .ok (.iconst 2, 1) := by decide +kernel
theorem d3_156 : decode method_3_code 156 = .ok (.iand, 1) := by decide +kernel
theorem d3_157 : decode method_3_code 157 = .ok (.ifCond .eq 9, 3) := by decide +kernel
theorem d3_160 : decode method_3_code 160 = .ok (.dload_n 1, 1) := by decide +kernel
theorem d3_161 : decode method_3_code 161 = .ok (.ldc2_w 46, 3) := by decide +kernel
theorem d3_164 : decode method_3_code 164 = .ok (.dmul, 1) := by decide +kernel
theorem d3_165 : decode method_3_code 165 = .ok (.dstore_n 1, 1) := by decide +kernel
theorem d3_166 : decode method_3_code 166 = .ok (.iload_n 3, 1) := by decide +kernel
theorem d3_167 : decode method_3_code 167 = .ok (.iconst 4, 1) := by decide +kernel
theorem d3_168 : decode method_3_code 168 = .ok (.iand, 1) := by decide +kernel
theorem d3_169 : decode method_3_code 169 = .ok (.ifCond .eq 9, 3) := by decide +kernel
theorem d3_172 : decode method_3_code 172 = .ok (.dload_n 1, 1) := by decide +kernel
theorem d3_173 : decode method_3_code 173 = .ok (.ldc2_w 48, 3) := by decide +kernel
theorem d3_176 : decode method_3_code 176 = .ok (.dmul, 1) := by decide +kernel
theorem d3_177 : decode method_3_code 177 = .ok (.dstore_n 1, 1) := by decide +kernel
theorem d3_178 : decode method_3_code 178 = .ok (.iload_n 3, 1) := by decide +kernel
theorem d3_179 : decode method_3_code 179 = .ok (.bipush 8, 2) := by decide +kernel
theorem d3_181 : decode method_3_code 181 = .ok (.iand, 1) := by decide +kernel
theorem d3_182 : decode method_3_code 182 = .ok (.ifCond .eq 9, 3) := by decide +kernel
theorem d3_185 : decode method_3_code 185 = .ok (.dload_n 1, 1) := by decide +kernel
theorem d3_186 : decode method_3_code 186 = .ok (.ldc2_w 50, 3) := by decide +kernel
theorem d3_189 : decode method_3_code 189 = .ok (.dmul, 1) := by decide +kernel
theorem d3_190 : decode method_3_code 190 = .ok (.dstore_n 1, 1) := by decide +kernel
theorem d3_191 : decode method_3_code 191 = .ok (.iload_n 3, 1) := by decide +kernel
theorem d3_192 : decode method_3_code 192 = .ok (.bipush 16, 2) := by decide +kernel
theorem d3_194 : decode method_3_code 194 = .ok (.iand, 1) := by decide +kernel
theorem d3_195 : decode method_3_code 195 = .ok (.ifCond .eq 9, 3) := by decide +kernel
theorem d3_198 : decode method_3_code 198 = .ok (.dload_n 1, 1) := by decide +kernel
theorem d3_199 : decode method_3_code 199 = .ok (.ldc2_w 52, 3) := by decide +kernel
theorem d3_202 : decode method_3_code 202 = .ok (.dmul, 1) := by decide +kernel
theorem d3_203 : decode method_3_code 203 = .ok (.dstore_n 1, 1) := by decide +kernel
theorem d3_204 : decode method_3_code 204 = .ok (.iload_n 3, 1) := by decide +kernel
theorem d3_205 : decode method_3_code 205 = .ok (.bipush 32, 2) := by decide +kernel
theorem d3_207 : decode method_3_code 207 = .ok (.iand, 1) := by decide +kernel
theorem d3_208 : decode method_3_code 208 = .ok (.ifCond .eq 9, 3) := by decide +kernel
theorem d3_211 : decode method_3_code 211 = .ok (.dload_n 1, 1) := by decide +kernel
theorem d3_212 : decode method_3_code 212 = .ok (.ldc2_w 54, 3) := by decide +kernel
theorem d3_215 : decode method_3_code 215 = .ok (.dmul, 1) := by decide +kernel
theorem d3_216 : decode method_3_code 216 = .ok (.dstore_n 1, 1) := by decide +kernel
theorem d3_217 : decode method_3_code 217 = .ok (.iload_n 3, 1) := by decide +kernel
theorem d3_218 : decode method_3_code 218 = .ok (.bipush 64, 2) := by decide +kernel
theorem d3_220 : decode method_3_code 220 = .ok (.iand, 1) := by decide +kernel
theorem d3_221 : decode method_3_code 221 = .ok (.ifCond .eq 9, 3) := by decide +kernel
theorem d3_224 : decode method_3_code 224 = .ok (.dload_n 1, 1) := by decide +kernel
theorem d3_225 : decode method_3_code 225 = .ok (.ldc2_w 56, 3) := by decide +kernel
theorem d3_228 : decode method_3_code 228 = .ok (.dmul, 1) := by decide +kernel
theorem d3_229 : decode method_3_code 229 = .ok (.dstore_n 1, 1) := by decide +kernel
theorem d3_230 : decode method_3_code 230 = .ok (.iload_n 3, 1) := by decide +kernel
theorem d3_231 : decode method_3_code 231 = .ok (.sipush 128, 3) := by decide +kernel
theorem d3_234 : decode method_3_code 234 = .ok (.iand, 1) := by decide +kernel
theorem d3_235 : decode method_3_code 235 = .ok (.ifCond .eq 9, 3) := by decide +kernel
theorem d3_238 : decode method_3_code 238 = .ok (.dload_n 1, 1) := by decide +kernel
theorem d3_239 : decode method_3_code 239 = .ok (.ldc2_w 58, 3) := by decide +kernel
theorem d3_242 : decode method_3_code 242 = .ok (.dmul, 1) := by decide +kernel
theorem d3_243 : decode method_3_code 243 = .ok (.dstore_n 1, 1) := by decide +kernel
theorem d3_244 : decode method_3_code 244 = .ok (.iload_n 3, 1) := by decide +kernel
theorem d3_245 : decode method_3_code 245 = .ok (.sipush 256, 3) := by decide +kernel
theorem d3_248 : decode method_3_code 248 = .ok (.iand, 1) := by decide +kernel
theorem d3_249 : decode method_3_code 249 = .ok (.ifCond .eq 9, 3) := by decide +kernel
theorem d3_252 : decode method_3_code 252 = .ok (.dload_n 1, 1) := by decide +kernel
theorem d3_253 : decode method_3_code 253 = .ok (.ldc2_w 60, 3) := by decide +kernel
theorem d3_256 : decode method_3_code 256 = .ok (.dmul, 1) := by decide +kernel
theorem d3_257 : decode method_3_code 257 = .ok (.dstore_n 1, 1) := by decide +kernel
theorem d3_258 : decode method_3_code 258 = .ok (.iload_n 3, 1) := by decide +kernel
theorem d3_259 : decode method_3_code 259 = .ok (.sipush 512, 3) := by decide +kernel
theorem d3_262 : decode method_3_code 262 = .ok (.iand, 1) := by decide +kernel
theorem d3_263 : decode method_3_code 263 = .ok (.ifCond .eq 9, 3) := by decide +kernel
theorem d3_266 : decode method_3_code 266 = .ok (.dload_n 1, 1) := by decide +kernel
theorem d3_267 : decode method_3_code 267 = .ok (.ldc2_w 62, 3) := by decide +kernel
theorem d3_270 : decode method_3_code 270 = .ok (.dmul, 1) := by decide +kernel
theorem d3_271 : decode method_3_code 271 = .ok (.dstore_n 1, 1) := by decide +kernel
theorem d3_272 : decode method_3_code 272 = .ok (.iload_n 3, 1) := by decide +kernel
theorem d3_273 : decode method_3_code 273 = .ok (.sipush 1024, 3) := by decide +kernel
theorem d3_276 : decode method_3_code 276 = .ok (.iand, 1) := by decide +kernel
theorem d3_277 : decode method_3_code 277 = .ok (.ifCond .eq 9, 3) := by decide +kernel
theorem d3_280 : decode method_3_code 280 = .ok (.dload_n 1, 1) := by decide +kernel
theorem d3_281 : decode method_3_code 281 = .ok (.ldc2_w 64, 3) := by decide +kernel
theorem d3_284 : decode method_3_code 284 = .ok (.dmul, 1) := by decide +kernel
theorem d3_285 : decode method_3_code 285 = .ok (.dstore_n 1, 1) := by decide +kernel
theorem d3_286 : decode method_3_code 286 = .ok (.dload_n 1, 1) := by decide +kernel
theorem d3_287 : decode method_3_code 287 = .ok (.dreturn, 1) := by decide +kernel
theorem d34_0 : decode prog_34_method_10_code 0 = .ok (.dload_n 0, 1) := by decide +kernel
theorem d34_1 : decode prog_34_method_10_code 1 = .ok (.dload_n 2, 1) := by decide +kernel
theorem d34_2 : decode prog_34_method_10_code 2 = .ok (.dmul, 1) := by decide +kernel
theorem d34_3 : decode prog_34_method_10_code 3 = .ok (.ldc2_w 85, 3) := by decide +kernel
theorem d34_6 : decode prog_34_method_10_code 6 = .ok (.dcmp .g, 1) := by decide +kernel
theorem d34_7 : decode prog_34_method_10_code 7 = .ok (.ifCond .ge 7, 3) := by decide +kernel
theorem d34_10 : decode prog_34_method_10_code 10 = .ok (.iconst 1, 1) := by decide +kernel
theorem d34_11 : decode prog_34_method_10_code 11 = .ok (.goto 4, 3) := by decide +kernel
theorem d34_14 : decode prog_34_method_10_code 14 = .ok (.iconst 0, 1) := by decide +kernel
theorem d34_15 : decode prog_34_method_10_code 15 = .ok (.ireturn, 1) := by decide +kernel
theorem pn0 : plainName "com/example/tight_reach/tightreach/RoundedProductsMayUnderflowPinLaw" = true := by first | (simp [plainName, overriddenIn]; done) | decide +kernel
theorem pn1 : plainName "com/example/tight_reach/tightreach/RoundedProducts" = true := by first | (simp [plainName, overriddenIn]; done) | decide +kernel
theorem pd0 : parseMethodDescriptor "(I)D" = some ⟨[.int], some .double⟩ := by decide +kernel
theorem pd1 : parseMethodDescriptor "(DD)Z" = some ⟨[.double, .double], some .boolean⟩ := by decide +kernel
open Jvm.OwnF Jvm.FP.Core
theorem own_c1074 : DV 4607182418800017408 1 1074 := ⟨false, 2 ^ 52, -52, by decide +kernel, by decide +kernel⟩
theorem own_c1075 : DV 4611686018427387904 1 1075 := ⟨false, 2 ^ 52, -51, by decide +kernel, by decide +kernel⟩
theorem own_c1076 : DV 4616189618054758400 1 1076 := ⟨false, 2 ^ 52, -50, by decide +kernel, by decide +kernel⟩
theorem own_c1078 : DV 4625196817309499392 1 1078 := ⟨false, 2 ^ 52, -48, by decide +kernel, by decide +kernel⟩
theorem own_c1082 : DV 4643211215818981376 1 1082 := ⟨false, 2 ^ 52, -44, by decide +kernel, by decide +kernel⟩
theorem own_c1090 : DV 4679240012837945344 1 1090 := ⟨false, 2 ^ 52, -36, by decide +kernel, by decide +kernel⟩
theorem own_c1106 : DV 4751297606875873280 1 1106 := ⟨false, 2 ^ 52, -20, by decide +kernel, by decide +kernel⟩
theorem own_c1138 : DV 4895412794951729152 1 1138 := ⟨false, 2 ^ 52, 12, by decide +kernel, by decide +kernel⟩
theorem own_c1202 : DV 5183643171103440896 1 1202 := ⟨false, 2 ^ 52, 76, by decide +kernel, by decide +kernel⟩
theorem own_c1330 : DV 5760103923406864384 1 1330 := ⟨false, 2 ^ 52, 204, by decide +kernel, by decide +kernel⟩
theorem own_c1586 : DV 6913025428013711360 1 1586 := ⟨false, 2 ^ 52, 460, by decide +kernel, by decide +kernel⟩
theorem own_c1073 : DV 4602678819172646912 1 1073 := ⟨false, 2 ^ 52, -53, by decide +kernel, by decide +kernel⟩
theorem own_c1072 : DV 4598175219545276416 1 1072 := ⟨false, 2 ^ 52, -54, by decide +kernel, by decide +kernel⟩
theorem own_c1070 : DV 4589168020290535424 1 1070 := ⟨false, 2 ^ 52, -56, by decide +kernel, by decide +kernel⟩
theorem own_c1066 : DV 4571153621781053440 1 1066 := ⟨false, 2 ^ 52, -60, by decide +kernel, by decide +kernel⟩
theorem own_c1058 : DV 4535124824762089472 1 1058 := ⟨false, 2 ^ 52, -68, by decide +kernel, by decide +kernel⟩
theorem own_c1042 : DV 4463067230724161536 1 1042 := ⟨false, 2 ^ 52, -84, by decide +kernel, by decide +kernel⟩
theorem own_c1010 : DV 4318952042648305664 1 1010 := ⟨false, 2 ^ 52, -116, by decide +kernel, by decide +kernel⟩
theorem own_c946 : DV 4030721666496593920 1 946 := ⟨false, 2 ^ 52, -180, by decide +kernel, by decide +kernel⟩
theorem own_c818 : DV 3454260914193170432 1 818 := ⟨false, 2 ^ 52, -308, by decide +kernel, by decide +kernel⟩
theorem own_c562 : DV 2301339409586323456 1 562 := ⟨false, 2 ^ 52, -564, by decide +kernel, by decide +kernel⟩
theorem own_c50 : DV 1125899906842624 1 50 := ⟨false, 2 ^ 50, -1074, by decide +kernel, by decide +kernel⟩
theorem own_c114 : DV 283726776524341248 1 114 := ⟨false, 2 ^ 52, -1012, by decide +kernel, by decide +kernel⟩
theorem own_c113 : DV 279223176896970752 1 113 := ⟨false, 2 ^ 52, -1013, by decide +kernel, by decide +kernel⟩
theorem own_bit (n k : Nat) (hn : n < 2048) (hk : k < 11) : (Int32.ofNat n &&& Int32.ofNat (2 ^ k) = 0) ↔ n / 2 ^ k % 2 = 0 := by
  have h2 : 2 ^ k ≤ 2 ^ 10 := Nat.pow_le_pow_right (by decide) (by omega)
  rw [← Int32.toBitVec_inj, Int32.toBitVec_and, ← BitVec.toNat_inj, BitVec.toNat_and]
  show (BitVec.ofNat 32 n).toNat &&& (BitVec.ofNat 32 (2 ^ k)).toNat = (BitVec.ofNat 32 0).toNat ↔ _
  rw [BitVec.toNat_ofNat, BitVec.toNat_ofNat, BitVec.toNat_ofNat, Nat.mod_eq_of_lt (show n < 2 ^ 32 by omega), Nat.mod_eq_of_lt (show 2 ^ k < 2 ^ 32 by omega)]
  show n &&& 2 ^ k = 0 ↔ _
  constructor
  · intro h
    have q := congrArg (fun z => z.testBit k) h
    simp only [Nat.testBit_and, Nat.testBit_two_pow_self, Bool.and_true, Nat.zero_testBit] at q
    rw [Nat.testBit_eq_decide_div_mod_eq] at q
    have := of_decide_eq_false q
    omega
  · intro h
    refine Nat.eq_of_testBit_eq fun i => ?_
    rw [Nat.testBit_and, Nat.testBit_two_pow, Nat.zero_testBit]
    by_cases e : k = i
    · subst e
      rw [Nat.testBit_eq_decide_div_mod_eq, h]; rfl
    · simp [e]
theorem own_bits (n : Nat) (hn : n < 2048) : ∃ b0 b1 b2 b3 b4 b5 b6 b7 b8 b9 b10 : Nat, (b0 ≤ 1 ∧ b1 ≤ 1 ∧ b2 ≤ 1 ∧ b3 ≤ 1 ∧ b4 ≤ 1 ∧ b5 ≤ 1 ∧ b6 ≤ 1 ∧ b7 ≤ 1 ∧ b8 ≤ 1 ∧ b9 ≤ 1 ∧ b10 ≤ 1) ∧ n = 1 * b0 + 2 * b1 + 4 * b2 + 8 * b3 + 16 * b4 + 32 * b5 + 64 * b6 + 128 * b7 + 256 * b8 + 512 * b9 + 1024 * b10 ∧ ((Int32.ofNat n &&& 1 = 0 ↔ b0 = 0) ∧ (Int32.ofNat n &&& 2 = 0 ↔ b1 = 0) ∧ (Int32.ofNat n &&& 4 = 0 ↔ b2 = 0) ∧ (Int32.ofNat n &&& 8 = 0 ↔ b3 = 0) ∧ (Int32.ofNat n &&& 16 = 0 ↔ b4 = 0) ∧ (Int32.ofNat n &&& 32 = 0 ↔ b5 = 0) ∧ (Int32.ofNat n &&& 64 = 0 ↔ b6 = 0) ∧ (Int32.ofNat n &&& 128 = 0 ↔ b7 = 0) ∧ (Int32.ofNat n &&& 256 = 0 ↔ b8 = 0) ∧ (Int32.ofNat n &&& 512 = 0 ↔ b9 = 0) ∧ (Int32.ofNat n &&& 1024 = 0 ↔ b10 = 0)) :=
  ⟨n / 1 % 2, n / 2 % 2, n / 4 % 2, n / 8 % 2, n / 16 % 2, n / 32 % 2, n / 64 % 2, n / 128 % 2, n / 256 % 2, n / 512 % 2, n / 1024 % 2, ⟨by omega, by omega, by omega, by omega, by omega, by omega, by omega, by omega, by omega, by omega, by omega⟩, by omega, own_bit n 0 hn (by decide), own_bit n 1 hn (by decide), own_bit n 2 hn (by decide), own_bit n 3 hn (by decide), own_bit n 4 hn (by decide), own_bit n 5 hn (by decide), own_bit n 6 hn (by decide), own_bit n 7 hn (by decide), own_bit n 8 hn (by decide), own_bit n 9 hn (by decide), own_bit n 10 hn (by decide)⟩
theorem own_nneg (n : Nat) (s0 : Int32) (h : n < 1024) (hs : s0 = Int32.ofNat n) : ¬ s0 < 0 := by
  rw [hs, Int32.lt_iff_toInt_lt, Int32.toInt_ofNat_of_lt (by omega)]; rw [show (0 : Int32).toInt = 0 from rfl]; omega
theorem own_negi (n : Nat) (h : n ≤ 1074) : (-Int32.ofNat n).toInt = -(n : Int) := by
  rw [Int32.toInt_neg, Int32.toInt_ofNat_of_lt (by omega)]
  exact Int.bmod_eq_of_le (by omega) (by omega)
theorem own_neg (n : Nat) (s0 : Int32) (h1 : 1 ≤ n) (h : n ≤ 1074) (hs : s0 = -Int32.ofNat n) : s0 < 0 := by
  rw [hs, Int32.lt_iff_toInt_lt, own_negi n h]; rw [show (0 : Int32).toInt = 0 from rfl]; omega

theorem own_subi {a b : Int32} (low : -2 ^ 31 ≤ a.toInt - b.toInt) (high : a.toInt - b.toInt < 2 ^ 31) : (a - b).toInt = a.toInt - b.toInt := by
  rw [Int32.toInt_sub]; exact Int.bmod_eq_of_le (by omega) (by omega)

theorem own_m (i : Int32) (m : Int64) (h : ((i &&& (1048575 : Int32)) + (1 : Int32)).toInt64 = m) : ∃ M : Int, m.toInt = M ∧ 1 ≤ M ∧ M ≤ 1048576 := by
  have e1 : (i &&& 1048575).toInt = i.toInt % 2 ^ 20 := Jvm.Kit.i32_mask i 1048575 (k := 20) (by decide) (by decide)
  have e2 : ((i &&& 1048575) + (1 : Int32)).toInt = (i &&& 1048575).toInt + (1 : Int32).toInt := Jvm.Kit.i32_add (by show _ ≤ _ + (1 : Int); omega) (by show _ + (1 : Int) < _; omega)
  rw [show (1 : Int32).toInt = 1 from rfl] at e2
  refine ⟨m.toInt, rfl, ?_, ?_⟩ <;> rw [← h, Int32.toInt_toInt64, e2] <;> omega
theorem own_s (i s : Int32) (h : (i &&& (2047 : Int32)) - (1074 : Int32) = s) : ∃ E : Nat, E < 2048 ∧ s.toInt = (E : Int) - 1074 ∧ ((∃ n, n < 1024 ∧ s = Int32.ofNat n ∧ E = 1074 + n) ∨ (∃ n, 1 ≤ n ∧ n ≤ 1074 ∧ s = -Int32.ofNat n ∧ E + n = 1074)) := by
  have e1 : (i &&& 2047).toInt = i.toInt % 2 ^ 11 := Jvm.Kit.i32_mask i 2047 (k := 11) (by decide) (by decide)
  have e2 : s.toInt = (i &&& 2047).toInt - 1074 := by
    rw [← h, own_subi (by show _ ≤ _ - (1074 : Int); omega) (by show _ - (1074 : Int) < _; omega)]; rfl
  refine ⟨(i &&& 2047).toInt.toNat, by omega, by omega, ?_⟩
  by_cases hl : 1074 ≤ (i &&& 2047).toInt
  · refine Or.inl ⟨(i &&& 2047).toInt.toNat - 1074, by omega, ?_, by omega⟩
    rw [← Int32.toInt_inj, e2, Int32.toInt_ofNat_of_lt (by omega)]; omega
  · refine Or.inr ⟨1074 - (i &&& 2047).toInt.toNat, by omega, by omega, ?_, by omega⟩
    rw [← Int32.toInt_inj, e2, own_negi _ (by omega)]; omega
theorem own_left {m : Int64} {M : Int} {p : UInt64} {E : Nat} (hm : m.toInt = M) (hl : 1 ≤ M) (hu : M ≤ 1048576) (hE : E < 2048) (hp : DV p 1 E) : DV (FP.dmul (FP.l2d m) p) M E := by
  have h1 : DV (FP.l2d m) M 1074 := hm ▸ l2d_v (by rw [hm]; omega)
  by_cases h2 : 2 ≤ E
  · have := dmul_v 2 E h1 hp (by omega) (by rw [Int.mul_one]; omega) h2 (by omega)
    rwa [Int.mul_one] at this
  · have := dmul_v 0 E h1 hp (by omega) (by rw [Int.mul_one]; omega) (by omega) (by omega)
    rwa [Int.mul_one] at this
theorem own_k {s1 s2 k : Int32} {E1 E2 : Nat} (hk : (((-960) : Int32) - s1) - s2 = k) (h1 : E1 < 2048) (h2 : E2 < 2048) (e1 : s1.toInt = (E1 : Int) - 1074) (e2 : s2.toInt = (E2 : Int) - 1074) : k.toInt = 1188 - (E1 : Int) - (E2 : Int) := by
  have q1 : ((-960 : Int32) - s1).toInt = -960 - s1.toInt := own_subi (a := -960) (by show -2147483648 ≤ (-960 : Int) - _; omega) (by show (-960 : Int) - _ < 2147483648; omega)
  have q2 : (((-960 : Int32) - s1) - s2).toInt = ((-960 : Int32) - s1).toInt - s2.toInt := own_subi (by rw [q1]; omega) (by rw [q1]; omega)
  rw [← hk, q2, q1]; omega
theorem own_pw {a b : Nat} (h : a ≤ b) : ((2 ^ a : Nat) : Int) ≤ ((2 ^ b : Nat) : Int) := Int.ofNat_le.mpr (Nat.pow_le_pow_right (by decide) h)
theorem own_prod {M N : Int} {e f : Nat} : (M * ((2 ^ e : Nat) : Int)) * (N * ((2 ^ f : Nat) : Int)) = (M * N) * ((2 ^ (e + f) : Nat) : Int) := by
  rw [Nat.pow_add, Int.natCast_mul]; ac_rfl
theorem own_one {g h : Nat} : (1 : Int) * ((2 ^ g : Nat) : Int) * ((2 ^ h : Nat) : Int) = ((2 ^ (g + h) : Nat) : Int) := by
  rw [Int.one_mul, Nat.pow_add, Int.natCast_mul]
theorem own_mm1 {M1 M2 : Int} (l1 : 1 ≤ M1) (l2 : 1 ≤ M2) : 1 ≤ M1 * M2 := by
  have h := Int.mul_le_mul_of_nonneg_left l2 (show 0 ≤ M1 by omega)
  rw [Int.mul_one] at h; omega
theorem own_high {x y : UInt64} {M1 M2 : Int} {E1 E2 : Nat} {k : Int32} (hx : DV x M1 E1) (hy : DV y M2 E2) (l1 : 1 ≤ M1) (l2 : 1 ≤ M2) (hk : k.toInt = 1188 - (E1 : Int) - (E2 : Int)) (h0 : ¬ 0 < k) : ¬ cmpValue (FP.dcmp (FP.dmul x y) 283726776524341248) .g < 0 := by
  rw [Int32.lt_iff_toInt_lt, hk, show (0 : Int32).toInt = 0 from rfl] at h0
  refine cmp_zge (Jvm.Free.Fl.dmul_out hx.fin hy.fin) own_c114.noNaN _ (dmul_ge hx hy own_c114 ?_)
  rw [own_prod, own_one]
  have h1 : ((2 ^ (114 + 1074) : Nat) : Int) ≤ ((2 ^ (E1 + E2) : Nat) : Int) := own_pw (by omega)
  have h2 : 1 ≤ M1 * M2 := own_mm1 l1 l2
  have h3 := Int.mul_le_mul_of_nonneg_right h2 (Int.le_of_lt (two_pow_int (E1 + E2)))
  rw [Int.one_mul] at h3
  exact Int.le_trans h1 h3
theorem own_mm {M1 M2 : Int} (l1 : 1 ≤ M1) (u1 : M1 ≤ 1048576) (l2 : 1 ≤ M2) (u2 : M2 ≤ 1048576) : 1 ≤ M1 * M2 ∧ M1 * M2 ≤ 1099511627776 := by
  constructor
  · exact own_mm1 l1 l2
  · exact Int.le_trans (Int.mul_le_mul u1 u2 (by omega) (by decide)) (by decide)
theorem own_low {x y : UInt64} {M1 M2 : Int} {E1 E2 : Nat} {k : Int32} (hx : DV x M1 E1) (hy : DV y M2 E2) (l1 : 1 ≤ M1) (u1 : M1 ≤ 1048576) (l2 : 1 ≤ M2) (u2 : M2 ≤ 1048576) (hk : k.toInt = 1188 - (E1 : Int) - (E2 : Int)) (h0 : ¬ k < 63) : cmpValue (FP.dcmp (FP.dmul x y) 283726776524341248) .g < 0 := by
  rw [Int32.lt_iff_toInt_lt, hk, show (63 : Int32).toInt = 63 from rfl] at h0
  refine cmp_zlt (Jvm.Free.Fl.dmul_out hx.fin hy.fin) own_c114.noNaN _ (Int.lt_of_le_of_lt (dmul_le hx hy own_c113 ?_) (by rw [own_c113.zval, own_c114.zval]; decide +kernel))
  rw [own_prod, own_one]
  obtain ⟨h1, h2⟩ := own_mm l1 u1 l2 u2
  have h3 := Int.mul_le_mul_of_nonneg_right h2 (Int.le_of_lt (two_pow_int (E1 + E2)))
  have h4 : (1099511627776 : Int) * ((2 ^ (E1 + E2) : Nat) : Int) = ((2 ^ (40 + (E1 + E2)) : Nat) : Int) := by
    rw [Nat.pow_add 2 40 (E1 + E2), Int.natCast_mul, show ((2 ^ 40 : Nat) : Int) = 1099511627776 by decide]
  rw [h4] at h3
  exact Int.le_trans h3 (own_pw (by omega))
theorem own_shl (k : Int32) (n : Nat) (hk : k.toInt = n) (hn : n < 63) : ((1 : Int64) <<< (k &&& 0x3f).toInt64).toInt = ((2 ^ n : Nat) : Int) := by
  have h : ∀ n, n < 63 → ((1 : Int64) <<< ((Int32.ofNat n) &&& 0x3f).toInt64).toInt = ((2 ^ n : Nat) : Int) := by decide +kernel
  have e : k = Int32.ofNat n := by rw [← Int32.toInt_inj, hk, Int32.toInt_ofNat_of_lt (by omega)]
  rw [e]; exact h n hn
theorem own_mid {x y : UInt64} {m1 m2 : Int64} {M1 M2 : Int} {E1 E2 : Nat} {k : Int32} (hx : DV x M1 E1) (hy : DV y M2 E2) (hm1 : m1.toInt = M1) (hm2 : m2.toInt = M2) (l1 : 1 ≤ M1) (u1 : M1 ≤ 1048576) (l2 : 1 ≤ M2) (u2 : M2 ≤ 1048576) (hk : k.toInt = 1188 - (E1 : Int) - (E2 : Int)) (h0 : 0 < k) (h63 : k < 63) :
    True ∧ (lcmpW (m1 * m2) ((1 : Int64) <<< (k &&& 0x3f).toInt64) < 0 ↔ cmpValue (FP.dcmp (FP.dmul x y) 283726776524341248) .g < 0) := by
  refine ⟨trivial, ?_⟩
  rw [Int32.lt_iff_toInt_lt, hk] at h63 h0
  rw [show (63 : Int32).toInt = 63 from rfl] at h63
  rw [show (0 : Int32).toInt = 0 from rfl] at h0
  obtain ⟨h1, h2⟩ := own_mm l1 u1 l2 u2
  have hp : DV (FP.dmul x y) (M1 * M2) (E1 + E2 - 1074) := dmul_v 0 _ hx hy (by omega) (by omega) (by omega) (by omega)
  have hs := own_shl k (1188 - E1 - E2) (by omega) (by omega)
  have hm : (m1 * m2).toInt = M1 * M2 := by rw [Jvm.FP.Core.int64_mul (by rw [hm1, hm2]; omega) (by rw [hm1, hm2]; omega), hm1, hm2]
  rw [lw_lt, Int64.lt_iff_toInt_lt, hs, hm]
  have e : ((2 ^ 114 : Nat) : Int) = ((2 ^ (1188 - E1 - E2) : Nat) : Int) * ((2 ^ (E1 + E2 - 1074) : Nat) : Int) := by
    rw [← Int.natCast_mul, ← Nat.pow_add, show 1188 - E1 - E2 + (E1 + E2 - 1074) = 114 by omega]
  have hpos := two_pow_int (E1 + E2 - 1074)
  constructor
  · intro h
    rw [cmp_lt hp own_c114 _ (by rw [Int.one_mul, e]; exact Int.mul_lt_mul_of_pos_right h hpos)]; decide
  · intro h
    refine Decidable.byContradiction fun q => ?_
    refine cmp_nlt hp own_c114 .g ?_ h
    rw [Int.one_mul, e]
    intro r
    exact q (Int.lt_of_mul_lt_mul_right r (Int.le_of_lt hpos))

def Q3 (Z : State) (s0 : Int32) (E : Nat) (h0 : Heap) (n0 : Nat) (v : Option Value) (h : Heap) (L : List Loc) : Prop := (∃ d : UInt64, v = some (.double d) ∧ DV d 1 E) ∧ Fr n0 L ∧ h = h0
theorem ef3 (m : MethodId) (s0 : Int32) : entryFrame m #[(.int s0)] 4 = mkF m 0 #[.val (.int s0), .unset, .unset, .unset] [] := by first | (simp [entryFrame, mkF, argsToLocals, Value.category, List.replicate]; done) | rfl
set_option maxRecDepth 65536 in
set_option maxHeartbeats 40000000 in
theorem rm3 (l : Launch) (Z : State) (a0 : Array Value) (hw : ∀ d ∈ tables_1, d.before a0 Z = true) (ws : List Jvm.Cond) (s0 : Int32) (E : Nat) (h0 : Heap) (n0 : Nat) (Z0 : n0 ≤ h0.size) (hs : (∃ n, n < 1024 ∧ s0 = Int32.ofNat n ∧ E = 1074 + n) ∨ (∃ n, 1 ≤ n ∧ n ≤ 1074 ∧ s0 = -Int32.ofNat n ∧ E + n = 1074)) :
    MetFree l (⟨"com/example/tight_reach/tightreach/RoundedProductsMayUnderflowPinLaw", "pow2", "(I)D"⟩ : MethodName) (head1 (Jvm.Cond.code (⟨"com/example/tight_reach/tightreach/RoundedProductsMayUnderflowPinLaw", "pow2", "(I)D"⟩ : MethodName) method_3_code 4 (some .double) :: ws) ({ frames := 0, cells := 0, slots := 0, locals := 0 } : Room)) (fun aa UU => aa = #[(.int s0)] ∧ Z.Warmed39 UU.vm ∧ UU.heap = h0) (fun _ _ _ _ _ => True) (fun _ UU oo UT => ∃ vv LL, oo = .returned vv ∧ Q3 Z s0 E h0 n0 vv UT.heap LL ∧ FrameEnd UU oo UT LL ({ frames := 0, cells := 0, slots := 0, locals := 0 } : Room).cells ({ frames := 0, cells := 0, slots := 0, locals := 0 } : Room).slots) := by
  refine MetFree.of_bodySF (plainFor_of_name pn0) hisR ?_
  intro p e s m args below meth c s₁ Bd hml0 hP hK
  obtain ⟨rfl, hZ, hh⟩ := hP
  have hx := Bd.exec
  have hby := Bd.bytes
  have hml : c.maxLocals = 4 := hml0
  have hown : s.vm.findClass "com/example/tight_reach/tightreach/RoundedProductsMayUnderflowPinLaw" = some m.cls := findClass_of_methodNamed Bd.named
  have hnm := (name_of_methodNamed Bd.named Bd.method).1
  have X0 : Stand p l e ({ frames := 0, cells := 0, slots := 0, locals := 0 } : Room) s m #[(.int s0)] below meth c s₁ [] 0 0 := Stand.of_body Bd
  have e0 : s₁.heap = h0 := by rw [← hh, Bd.state]; rfl
  have N0 := Fr.nil n0
  have c0 : Steps p.tables e below (s₁.setTop (entryFrame m #[(.int s0)] 4)) (s₁.setTop (mkF m 0 #[.val (.int s0), .unset, .unset, .unset] [])) := castTop (ef3 m s0) (Steps.refl _)
  show ∃ s₂ oo, Steps p.tables e below (s₁.setTop (entryFrame m #[(.int s0)] 4)) s₂ ∧ _ ∧ _ ∧ _
  generalize s₁.setTop (entryFrame m #[(.int s0)] 4) = S0 at c0 ⊢
  have c1 : Steps p.tables e below S0 (s₁.setTop (mkF m 3 #[.val (.int s0), .val (.double (4607182418800017408 : UInt64)), .second, .unset] [(.int s0)])) := by
    refine c0.trans ?_
    show Steps p.tables e below (s₁.setTop (mkF m 0 #[.val (.int s0), .unset, .unset, .unset] [])) _
    refine XS.dconst1 X0.here hx rfl (v := 4607182418800017408) (hb hby d3_0) rfl ?_
    show Steps p.tables e below (s₁.setTop (mkF m 1 #[.val (.int s0), .unset, .unset, .unset] [(.double (4607182418800017408 : UInt64))])) _
    refine XS.dstoreN X0.here hx rfl (hb hby d3_1) rfl (l' := #[.val (.int s0), .val (.double (4607182418800017408 : UInt64)), .second, .unset]) rfl ?_
    show Steps p.tables e below (s₁.setTop (mkF m 2 #[.val (.int s0), .val (.double (4607182418800017408 : UInt64)), .second, .unset] [])) _
    refine XS.iloadN X0.here hx rfl (hb hby d3_2) rfl ?_
    exact Steps.refl _
  rcases hs with ⟨n, hn1, hn2, hn3⟩ | ⟨n, hn1, hn2, hn3, hn4⟩
  · obtain ⟨b0, b1, b2, b3, b4, b5, b6, b7, b8, b9, b10, ⟨l0, l1, l2, l3, l4, l5, l6, l7, l8, l9, l10⟩, hsum, hbit⟩ := own_bits n (by omega)
    rw [← hn2] at hbit
    have hb10 : b10 = 0 := by omega
    have c2 : Steps p.tables e below S0 (s₁.setTop (mkF m 6 #[.val (.int s0), .val (.double (4607182418800017408 : UInt64)), .second, .unset] [])) := by
      refine c1.trans ?_
      show Steps p.tables e below (s₁.setTop (mkF m 3 #[.val (.int s0), .val (.double (4607182418800017408 : UInt64)), .second, .unset] [(.int s0)])) _
      refine XS.ifNo X0.here hx rfl (hb hby d3_3) rfl ((if0 _ _).trans (flt (own_nneg n s0 hn1 hn2)).1) ?_
      exact Steps.refl _
    obtain ⟨E1, hE1⟩ : ∃ z : Nat, z = 1074 + 1 * b0 := ⟨_, rfl⟩
    obtain ⟨d1, hd1, c3⟩ : ∃ d1 : UInt64, DV d1 1 E1 ∧ Steps p.tables e below S0 (s₁.setTop (mkF m 18 #[.val (.int s0), .val (.double d1), .second, .unset] [])) := by
      by_cases hbt : b0 = 0
      · have hd : DV (4607182418800017408 : UInt64) 1 E1 := by
          rw [show E1 = 1074 by omega]; exact own_c1074
        refine ⟨_, hd, c2.trans ?_⟩
        show Steps p.tables e below (s₁.setTop (mkF m 6 #[.val (.int s0), .val (.double (4607182418800017408 : UInt64)), .second, .unset] [])) _
        refine XS.iloadN X0.here hx rfl (hb hby d3_6) rfl ?_
        show Steps p.tables e below (s₁.setTop (mkF m 7 #[.val (.int s0), .val (.double (4607182418800017408 : UInt64)), .second, .unset] [(.int s0)])) _
        refine XS.iconst X0.here hx rfl (hb hby d3_7) ?_
        show Steps p.tables e below (s₁.setTop (mkF m 8 #[.val (.int s0), .val (.double (4607182418800017408 : UInt64)), .second, .unset] [(.int (1 : Int32)), (.int s0)])) _
        refine XS.iand X0.here hx rfl (hb hby d3_8) rfl ?_
        show Steps p.tables e below (s₁.setTop (mkF m 9 #[.val (.int s0), .val (.double (4607182418800017408 : UInt64)), .second, .unset] [(.int (s0 &&& (1 : Int32)))])) _
        refine XS.ifYes X0.here hx rfl (pc0 := 9) (pc' := 18) rfl (hb hby d3_9) rfl ((if0 _ _).trans (teq ((hbit.1).mpr hbt)).1) (by decide) (by decide) ?_
        exact Steps.refl _
      · have hd : DV (FP.dmul (4607182418800017408 : UInt64) (4611686018427387904 : UInt64)) 1 E1 := by
          have := dmul_v 52 E1 own_c1074 own_c1075 (by omega) (by decide) (by omega) (by omega)
          rwa [Int.mul_one] at this
        refine ⟨_, hd, c2.trans ?_⟩
        show Steps p.tables e below (s₁.setTop (mkF m 6 #[.val (.int s0), .val (.double (4607182418800017408 : UInt64)), .second, .unset] [])) _
        refine XS.iloadN X0.here hx rfl (hb hby d3_6) rfl ?_
        show Steps p.tables e below (s₁.setTop (mkF m 7 #[.val (.int s0), .val (.double (4607182418800017408 : UInt64)), .second, .unset] [(.int s0)])) _
        refine XS.iconst X0.here hx rfl (hb hby d3_7) ?_
        show Steps p.tables e below (s₁.setTop (mkF m 8 #[.val (.int s0), .val (.double (4607182418800017408 : UInt64)), .second, .unset] [(.int (1 : Int32)), (.int s0)])) _
        refine XS.iand X0.here hx rfl (hb hby d3_8) rfl ?_
        show Steps p.tables e below (s₁.setTop (mkF m 9 #[.val (.int s0), .val (.double (4607182418800017408 : UInt64)), .second, .unset] [(.int (s0 &&& (1 : Int32)))])) _
        refine XS.ifNo X0.here hx rfl (hb hby d3_9) rfl ((if0 _ _).trans (feq (fun q => hbt ((hbit.1).mp q))).1) ?_
        show Steps p.tables e below (s₁.setTop (mkF m 12 #[.val (.int s0), .val (.double (4607182418800017408 : UInt64)), .second, .unset] [])) _
        refine XS.dloadN X0.here hx rfl (hb hby d3_12) rfl ?_
        show Steps p.tables e below (s₁.setTop (mkF m 13 #[.val (.int s0), .val (.double (4607182418800017408 : UInt64)), .second, .unset] [(.double (4607182418800017408 : UInt64))])) _
        refine X0.ldc2DoubleC hx hown (mvT hZ (hw _ (List.mem_of_getElem? (i := 22) rfl))) (g := (mkF m 13 #[.val (.int s0), .val (.double (4607182418800017408 : UInt64)), .second, .unset] [(.double (4607182418800017408 : UInt64))])) rfl (hb hby d3_13) _ ?_
        show Steps p.tables e below (s₁.setTop (mkF m 16 #[.val (.int s0), .val (.double (4607182418800017408 : UInt64)), .second, .unset] [(.double (4611686018427387904 : UInt64)), (.double (4607182418800017408 : UInt64))])) _
        refine XS.dmulS X0.here hx rfl (v := (FP.dmul (4607182418800017408 : UInt64) (4611686018427387904 : UInt64))) (hb hby d3_16) rfl hd.noNaN rfl ?_
        show Steps p.tables e below (s₁.setTop (mkF m 17 #[.val (.int s0), .val (.double (4607182418800017408 : UInt64)), .second, .unset] [(.double (FP.dmul (4607182418800017408 : UInt64) (4611686018427387904 : UInt64)))])) _
        refine XS.dstoreN X0.here hx rfl (hb hby d3_17) rfl (l' := #[.val (.int s0), .val (.double (FP.dmul (4607182418800017408 : UInt64) (4611686018427387904 : UInt64))), .second, .unset]) rfl ?_
        exact Steps.refl _
    obtain ⟨E2, hE2⟩ : ∃ z : Nat, z = E1 + 2 * b1 := ⟨_, rfl⟩
    obtain ⟨d2, hd2, c4⟩ : ∃ d2 : UInt64, DV d2 1 E2 ∧ Steps p.tables e below S0 (s₁.setTop (mkF m 30 #[.val (.int s0), .val (.double d2), .second, .unset] [])) := by
      by_cases hbt : b1 = 0
      · have hd : DV d1 1 E2 := by
          rw [show E2 = E1 by omega]; exact hd1
        refine ⟨_, hd, c3.trans ?_⟩
        show Steps p.tables e below (s₁.setTop (mkF m 18 #[.val (.int s0), .val (.double d1), .second, .unset] [])) _
        refine XS.iloadN X0.here hx rfl (hb hby d3_18) rfl ?_
        show Steps p.tables e below (s₁.setTop (mkF m 19 #[.val (.int s0), .val (.double d1), .second, .unset] [(.int s0)])) _
        refine XS.iconst X0.here hx rfl (hb hby d3_19) ?_
        show Steps p.tables e below (s₁.setTop (mkF m 20 #[.val (.int s0), .val (.double d1), .second, .unset] [(.int (2 : Int32)), (.int s0)])) _
        refine XS.iand X0.here hx rfl (hb hby d3_20) rfl ?_
        show Steps p.tables e below (s₁.setTop (mkF m 21 #[.val (.int s0), .val (.double d1), .second, .unset] [(.int (s0 &&& (2 : Int32)))])) _
        refine XS.ifYes X0.here hx rfl (pc0 := 21) (pc' := 30) rfl (hb hby d3_21) rfl ((if0 _ _).trans (teq ((hbit.2.1).mpr hbt)).1) (by decide) (by decide) ?_
        exact Steps.refl _
      · have hd : DV (FP.dmul d1 (4616189618054758400 : UInt64)) 1 E2 := by
          have := dmul_v 52 E2 hd1 own_c1076 (by omega) (by decide) (by omega) (by omega)
          rwa [Int.mul_one] at this
        refine ⟨_, hd, c3.trans ?_⟩
        show Steps p.tables e below (s₁.setTop (mkF m 18 #[.val (.int s0), .val (.double d1), .second, .unset] [])) _
        refine XS.iloadN X0.here hx rfl (hb hby d3_18) rfl ?_
        show Steps p.tables e below (s₁.setTop (mkF m 19 #[.val (.int s0), .val (.double d1), .second, .unset] [(.int s0)])) _
        refine XS.iconst X0.here hx rfl (hb hby d3_19) ?_
        show Steps p.tables e below (s₁.setTop (mkF m 20 #[.val (.int s0), .val (.double d1), .second, .unset] [(.int (2 : Int32)), (.int s0)])) _
        refine XS.iand X0.here hx rfl (hb hby d3_20) rfl ?_
        show Steps p.tables e below (s₁.setTop (mkF m 21 #[.val (.int s0), .val (.double d1), .second, .unset] [(.int (s0 &&& (2 : Int32)))])) _
        refine XS.ifNo X0.here hx rfl (hb hby d3_21) rfl ((if0 _ _).trans (feq (fun q => hbt ((hbit.2.1).mp q))).1) ?_
        show Steps p.tables e below (s₁.setTop (mkF m 24 #[.val (.int s0), .val (.double d1), .second, .unset] [])) _
        refine XS.dloadN X0.here hx rfl (hb hby d3_24) rfl ?_
        show Steps p.tables e below (s₁.setTop (mkF m 25 #[.val (.int s0), .val (.double d1), .second, .unset] [(.double d1)])) _
        refine X0.ldc2DoubleC hx hown (mvT hZ (hw _ (List.mem_of_getElem? (i := 29) rfl))) (g := (mkF m 25 #[.val (.int s0), .val (.double d1), .second, .unset] [(.double d1)])) rfl (hb hby d3_25) _ ?_
        show Steps p.tables e below (s₁.setTop (mkF m 28 #[.val (.int s0), .val (.double d1), .second, .unset] [(.double (4616189618054758400 : UInt64)), (.double d1)])) _
        refine XS.dmulS X0.here hx rfl (v := (FP.dmul d1 (4616189618054758400 : UInt64))) (hb hby d3_28) rfl hd.noNaN rfl ?_
        show Steps p.tables e below (s₁.setTop (mkF m 29 #[.val (.int s0), .val (.double d1), .second, .unset] [(.double (FP.dmul d1 (4616189618054758400 : UInt64)))])) _
        refine XS.dstoreN X0.here hx rfl (hb hby d3_29) rfl (l' := #[.val (.int s0), .val (.double (FP.dmul d1 (4616189618054758400 : UInt64))), .second, .unset]) rfl ?_
        exact Steps.refl _
    obtain ⟨E3, hE3⟩ : ∃ z : Nat, z = E2 + 4 * b2 := ⟨_, rfl⟩
    obtain ⟨d3, hd3, c5⟩ : ∃ d3 : UInt64, DV d3 1 E3 ∧ Steps p.tables e below S0 (s₁.setTop (mkF m 42 #[.val (.int s0), .val (.double d3), .second, .unset] [])) := by
      by_cases hbt : b2 = 0
      · have hd : DV d2 1 E3 := by
          rw [show E3 = E2 by omega]; exact hd2
        refine ⟨_, hd, c4.trans ?_⟩
        show Steps p.tables e below (s₁.setTop (mkF m 30 #[.val (.int s0), .val (.double d2), .second, .unset] [])) _
        refine XS.iloadN X0.here hx rfl (hb hby d3_30) rfl ?_
        show Steps p.tables e below (s₁.setTop (mkF m 31 #[.val (.int s0), .val (.double d2), .second, .unset] [(.int s0)])) _
        refine XS.iconst X0.here hx rfl (hb hby d3_31) ?_
        show Steps p.tables e below (s₁.setTop (mkF m 32 #[.val (.int s0), .val (.double d2), .second, .unset] [(.int (4 : Int32)), (.int s0)])) _
        refine XS.iand X0.here hx rfl (hb hby d3_32) rfl ?_
        show Steps p.tables e below (s₁.setTop (mkF m 33 #[.val (.int s0), .val (.double d2), .second, .unset] [(.int (s0 &&& (4 : Int32)))])) _
        refine XS.ifYes X0.here hx rfl (pc0 := 33) (pc' := 42) rfl (hb hby d3_33) rfl ((if0 _ _).trans (teq ((hbit.2.2.1).mpr hbt)).1) (by decide) (by decide) ?_
        exact Steps.refl _
      · have hd : DV (FP.dmul d2 (4625196817309499392 : UInt64)) 1 E3 := by
          have := dmul_v 52 E3 hd2 own_c1078 (by omega) (by decide) (by omega) (by omega)
          rwa [Int.mul_one] at this
        refine ⟨_, hd, c4.trans ?_⟩
        show Steps p.tables e below (s₁.setTop (mkF m 30 #[.val (.int s0), .val (.double d2), .second, .unset] [])) _
        refine XS.iloadN X0.here hx rfl (hb hby d3_30) rfl ?_
        show Steps p.tables e below (s₁.setTop (mkF m 31 #[.val (.int s0), .val (.double d2), .second, .unset] [(.int s0)])) _
        refine XS.iconst X0.here hx rfl (hb hby d3_31) ?_
        show Steps p.tables e below (s₁.setTop (mkF m 32 #[.val (.int s0), .val (.double d2), .second, .unset] [(.int (4 : Int32)), (.int s0)])) _
        refine XS.iand X0.here hx rfl (hb hby d3_32) rfl ?_
        show Steps p.tables e below (s₁.setTop (mkF m 33 #[.val (.int s0), .val (.double d2), .second, .unset] [(.int (s0 &&& (4 : Int32)))])) _
        refine XS.ifNo X0.here hx rfl (hb hby d3_33) rfl ((if0 _ _).trans (feq (fun q => hbt ((hbit.2.2.1).mp q))).1) ?_
        show Steps p.tables e below (s₁.setTop (mkF m 36 #[.val (.int s0), .val (.double d2), .second, .unset] [])) _
        refine XS.dloadN X0.here hx rfl (hb hby d3_36) rfl ?_
        show Steps p.tables e below (s₁.setTop (mkF m 37 #[.val (.int s0), .val (.double d2), .second, .unset] [(.double d2)])) _
        refine X0.ldc2DoubleC hx hown (mvT hZ (hw _ (List.mem_of_getElem? (i := 23) rfl))) (g := (mkF m 37 #[.val (.int s0), .val (.double d2), .second, .unset] [(.double d2)])) rfl (hb hby d3_37) _ ?_
        show Steps p.tables e below (s₁.setTop (mkF m 40 #[.val (.int s0), .val (.double d2), .second, .unset] [(.double (4625196817309499392 : UInt64)), (.double d2)])) _
        refine XS.dmulS X0.here hx rfl (v := (FP.dmul d2 (4625196817309499392 : UInt64))) (hb hby d3_40) rfl hd.noNaN rfl ?_
        show Steps p.tables e below (s₁.setTop (mkF m 41 #[.val (.int s0), .val (.double d2), .second, .unset] [(.double (FP.dmul d2 (4625196817309499392 : UInt64)))])) _
        refine XS.dstoreN X0.here hx rfl (hb hby d3_41) rfl (l' := #[.val (.int s0), .val (.double (FP.dmul d2 (4625196817309499392 : UInt64))), .second, .unset]) rfl ?_
        exact Steps.refl _
    obtain ⟨E4, hE4⟩ : ∃ z : Nat, z = E3 + 8 * b3 := ⟨_, rfl⟩
    obtain ⟨d4, hd4, c6⟩ : ∃ d4 : UInt64, DV d4 1 E4 ∧ Steps p.tables e below S0 (s₁.setTop (mkF m 55 #[.val (.int s0), .val (.double d4), .second, .unset] [])) := by
      by_cases hbt : b3 = 0
      · have hd : DV d3 1 E4 := by
          rw [show E4 = E3 by omega]; exact hd3
        refine ⟨_, hd, c5.trans ?_⟩
        show Steps p.tables e below (s₁.setTop (mkF m 42 #[.val (.int s0), .val (.double d3), .second, .unset] [])) _
        refine XS.iloadN X0.here hx rfl (hb hby d3_42) rfl ?_
        show Steps p.tables e below (s₁.setTop (mkF m 43 #[.val (.int s0), .val (.double d3), .second, .unset] [(.int s0)])) _
        refine XS.bipush X0.here hx rfl (hb hby d3_43) ?_
        show Steps p.tables e below (s₁.setTop (mkF m 45 #[.val (.int s0), .val (.double d3), .second, .unset] [(.int (8 : Int32)), (.int s0)])) _
        refine XS.iand X0.here hx rfl (hb hby d3_45) rfl ?_
        show Steps p.tables e below (s₁.setTop (mkF m 46 #[.val (.int s0), .val (.double d3), .second, .unset] [(.int (s0 &&& (8 : Int32)))])) _
        refine XS.ifYes X0.here hx rfl (pc0 := 46) (pc' := 55) rfl (hb hby d3_46) rfl ((if0 _ _).trans (teq ((hbit.2.2.2.1).mpr hbt)).1) (by decide) (by decide) ?_
        exact Steps.refl _
      · have hd : DV (FP.dmul d3 (4643211215818981376 : UInt64)) 1 E4 := by
          have := dmul_v 52 E4 hd3 own_c1082 (by omega) (by decide) (by omega) (by omega)
          rwa [Int.mul_one] at this
        refine ⟨_, hd, c5.trans ?_⟩
        show Steps p.tables e below (s₁.setTop (mkF m 42 #[.val (.int s0), .val (.double d3), .second, .unset] [])) _
        refine XS.iloadN X0.here hx rfl (hb hby d3_42) rfl ?_
        show Steps p.tables e below (s₁.setTop (mkF m 43 #[.val (.int s0), .val (.double d3), .second, .unset] [(.int s0)])) _
        refine XS.bipush X0.here hx rfl (hb hby d3_43) ?_
        show Steps p.tables e below (s₁.setTop (mkF m 45 #[.val (.int s0), .val (.double d3), .second, .unset] [(.int (8 : Int32)), (.int s0)])) _
        refine XS.iand X0.here hx rfl (hb hby d3_45) rfl ?_
        show Steps p.tables e below (s₁.setTop (mkF m 46 #[.val (.int s0), .val (.double d3), .second, .unset] [(.int (s0 &&& (8 : Int32)))])) _
        refine XS.ifNo X0.here hx rfl (hb hby d3_46) rfl ((if0 _ _).trans (feq (fun q => hbt ((hbit.2.2.2.1).mp q))).1) ?_
        show Steps p.tables e below (s₁.setTop (mkF m 49 #[.val (.int s0), .val (.double d3), .second, .unset] [])) _
        refine XS.dloadN X0.here hx rfl (hb hby d3_49) rfl ?_
        show Steps p.tables e below (s₁.setTop (mkF m 50 #[.val (.int s0), .val (.double d3), .second, .unset] [(.double d3)])) _
        refine X0.ldc2DoubleC hx hown (mvT hZ (hw _ (List.mem_of_getElem? (i := 24) rfl))) (g := (mkF m 50 #[.val (.int s0), .val (.double d3), .second, .unset] [(.double d3)])) rfl (hb hby d3_50) _ ?_
        show Steps p.tables e below (s₁.setTop (mkF m 53 #[.val (.int s0), .val (.double d3), .second, .unset] [(.double (4643211215818981376 : UInt64)), (.double d3)])) _
        refine XS.dmulS X0.here hx rfl (v := (FP.dmul d3 (4643211215818981376 : UInt64))) (hb hby d3_53) rfl hd.noNaN rfl ?_
        show Steps p.tables e below (s₁.setTop (mkF m 54 #[.val (.int s0), .val (.double d3), .second, .unset] [(.double (FP.dmul d3 (4643211215818981376 : UInt64)))])) _
        refine XS.dstoreN X0.here hx rfl (hb hby d3_54) rfl (l' := #[.val (.int s0), .val (.double (FP.dmul d3 (4643211215818981376 : UInt64))), .second, .unset]) rfl ?_
        exact Steps.refl _
    obtain ⟨E5, hE5⟩ : ∃ z : Nat, z = E4 + 16 * b4 := ⟨_, rfl⟩
    obtain ⟨d5, hd5, c7⟩ : ∃ d5 : UInt64, DV d5 1 E5 ∧ Steps p.tables e below S0 (s₁.setTop (mkF m 68 #[.val (.int s0), .val (.double d5), .second, .unset] [])) := by
      by_cases hbt : b4 = 0
      · have hd : DV d4 1 E5 := by
          rw [show E5 = E4 by omega]; exact hd4
        refine ⟨_, hd, c6.trans ?_⟩
        show Steps p.tables e below (s₁.setTop (mkF m 55 #[.val (.int s0), .val (.double d4), .second, .unset] [])) _
        refine XS.iloadN X0.here hx rfl (hb hby d3_55) rfl ?_
        show Steps p.tables e below (s₁.setTop (mkF m 56 #[.val (.int s0), .val (.double d4), .second, .unset] [(.int s0)])) _
        refine XS.bipush X0.here hx rfl (hb hby d3_56) ?_
        show Steps p.tables e below (s₁.setTop (mkF m 58 #[.val (.int s0), .val (.double d4), .second, .unset] [(.int (16 : Int32)), (.int s0)])) _
        refine XS.iand X0.here hx rfl (hb hby d3_58) rfl ?_
        show Steps p.tables e below (s₁.setTop (mkF m 59 #[.val (.int s0), .val (.double d4), .second, .unset] [(.int (s0 &&& (16 : Int32)))])) _
        refine XS.ifYes X0.here hx rfl (pc0 := 59) (pc' := 68) rfl (hb hby d3_59) rfl ((if0 _ _).trans (teq ((hbit.2.2.2.2.1).mpr hbt)).1) (by decide) (by decide) ?_
        exact Steps.refl _
      · have hd : DV (FP.dmul d4 (4679240012837945344 : UInt64)) 1 E5 := by
          have := dmul_v 52 E5 hd4 own_c1090 (by omega) (by decide) (by omega) (by omega)
          rwa [Int.mul_one] at this
        refine ⟨_, hd, c6.trans ?_⟩
        show Steps p.tables e below (s₁.setTop (mkF m 55 #[.val (.int s0), .val (.double d4), .second, .unset] [])) _
        refine XS.iloadN X0.here hx rfl (hb hby d3_55) rfl ?_
        show Steps p.tables e below (s₁.setTop (mkF m 56 #[.val (.int s0), .val (.double d4), .second, .unset] [(.int s0)])) _
        refine XS.bipush X0.here hx rfl (hb hby d3_56) ?_
        show Steps p.tables e below (s₁.setTop (mkF m 58 #[.val (.int s0), .val (.double d4), .second, .unset] [(.int (16 : Int32)), (.int s0)])) _
        refine XS.iand X0.here hx rfl (hb hby d3_58) rfl ?_
        show Steps p.tables e below (s₁.setTop (mkF m 59 #[.val (.int s0), .val (.double d4), .second, .unset] [(.int (s0 &&& (16 : Int32)))])) _
        refine XS.ifNo X0.here hx rfl (hb hby d3_59) rfl ((if0 _ _).trans (feq (fun q => hbt ((hbit.2.2.2.2.1).mp q))).1) ?_
        show Steps p.tables e below (s₁.setTop (mkF m 62 #[.val (.int s0), .val (.double d4), .second, .unset] [])) _
        refine XS.dloadN X0.here hx rfl (hb hby d3_62) rfl ?_
        show Steps p.tables e below (s₁.setTop (mkF m 63 #[.val (.int s0), .val (.double d4), .second, .unset] [(.double d4)])) _
        refine X0.ldc2DoubleC hx hown (mvT hZ (hw _ (List.mem_of_getElem? (i := 31) rfl))) (g := (mkF m 63 #[.val (.int s0), .val (.double d4), .second, .unset] [(.double d4)])) rfl (hb hby d3_63) _ ?_
        show Steps p.tables e below (s₁.setTop (mkF m 66 #[.val (.int s0), .val (.double d4), .second, .unset] [(.double (4679240012837945344 : UInt64)), (.double d4)])) _
        refine XS.dmulS X0.here hx rfl (v := (FP.dmul d4 (4679240012837945344 : UInt64))) (hb hby d3_66) rfl hd.noNaN rfl ?_
        show Steps p.tables e below (s₁.setTop (mkF m 67 #[.val (.int s0), .val (.double d4), .second, .unset] [(.double (FP.dmul d4 (4679240012837945344 : UInt64)))])) _
        refine XS.dstoreN X0.here hx rfl (hb hby d3_67) rfl (l' := #[.val (.int s0), .val (.double (FP.dmul d4 (4679240012837945344 : UInt64))), .second, .unset]) rfl ?_
        exact Steps.refl _
    obtain ⟨E6, hE6⟩ : ∃ z : Nat, z = E5 + 32 * b5 := ⟨_, rfl⟩
    obtain ⟨d6, hd6, c8⟩ : ∃ d6 : UInt64, DV d6 1 E6 ∧ Steps p.tables e below S0 (s₁.setTop (mkF m 81 #[.val (.int s0), .val (.double d6), .second, .unset] [])) := by
      by_cases hbt : b5 = 0
      · have hd : DV d5 1 E6 := by
          rw [show E6 = E5 by omega]; exact hd5
        refine ⟨_, hd, c7.trans ?_⟩
        show Steps p.tables e below (s₁.setTop (mkF m 68 #[.val (.int s0), .val (.double d5), .second, .unset] [])) _
        refine XS.iloadN X0.here hx rfl (hb hby d3_68) rfl ?_
        show Steps p.tables e below (s₁.setTop (mkF m 69 #[.val (.int s0), .val (.double d5), .second, .unset] [(.int s0)])) _
        refine XS.bipush X0.here hx rfl (hb hby d3_69) ?_
        show Steps p.tables e below (s₁.setTop (mkF m 71 #[.val (.int s0), .val (.double d5), .second, .unset] [(.int (32 : Int32)), (.int s0)])) _
        refine XS.iand X0.here hx rfl (hb hby d3_71) rfl ?_
        show Steps p.tables e below (s₁.setTop (mkF m 72 #[.val (.int s0), .val (.double d5), .second, .unset] [(.int (s0 &&& (32 : Int32)))])) _
        refine XS.ifYes X0.here hx rfl (pc0 := 72) (pc' := 81) rfl (hb hby d3_72) rfl ((if0 _ _).trans (teq ((hbit.2.2.2.2.2.1).mpr hbt)).1) (by decide) (by decide) ?_
        exact Steps.refl _
      · have hd : DV (FP.dmul d5 (4751297606875873280 : UInt64)) 1 E6 := by
          have := dmul_v 52 E6 hd5 own_c1106 (by omega) (by decide) (by omega) (by omega)
          rwa [Int.mul_one] at this
        refine ⟨_, hd, c7.trans ?_⟩
        show Steps p.tables e below (s₁.setTop (mkF m 68 #[.val (.int s0), .val (.double d5), .second, .unset] [])) _
        refine XS.iloadN X0.here hx rfl (hb hby d3_68) rfl ?_
        show Steps p.tables e below (s₁.setTop (mkF m 69 #[.val (.int s0), .val (.double d5), .second, .unset] [(.int s0)])) _
        refine XS.bipush X0.here hx rfl (hb hby d3_69) ?_
        show Steps p.tables e below (s₁.setTop (mkF m 71 #[.val (.int s0), .val (.double d5), .second, .unset] [(.int (32 : Int32)), (.int s0)])) _
        refine XS.iand X0.here hx rfl (hb hby d3_71) rfl ?_
        show Steps p.tables e below (s₁.setTop (mkF m 72 #[.val (.int s0), .val (.double d5), .second, .unset] [(.int (s0 &&& (32 : Int32)))])) _
        refine XS.ifNo X0.here hx rfl (hb hby d3_72) rfl ((if0 _ _).trans (feq (fun q => hbt ((hbit.2.2.2.2.2.1).mp q))).1) ?_
        show Steps p.tables e below (s₁.setTop (mkF m 75 #[.val (.int s0), .val (.double d5), .second, .unset] [])) _
        refine XS.dloadN X0.here hx rfl (hb hby d3_75) rfl ?_
        show Steps p.tables e below (s₁.setTop (mkF m 76 #[.val (.int s0), .val (.double d5), .second, .unset] [(.double d5)])) _
        refine X0.ldc2DoubleC hx hown (mvT hZ (hw _ (List.mem_of_getElem? (i := 30) rfl))) (g := (mkF m 76 #[.val (.int s0), .val (.double d5), .second, .unset] [(.double d5)])) rfl (hb hby d3_76) _ ?_
        show Steps p.tables e below (s₁.setTop (mkF m 79 #[.val (.int s0), .val (.double d5), .second, .unset] [(.double (4751297606875873280 : UInt64)), (.double d5)])) _
        refine XS.dmulS X0.here hx rfl (v := (FP.dmul d5 (4751297606875873280 : UInt64))) (hb hby d3_79) rfl hd.noNaN rfl ?_
        show Steps p.tables e below (s₁.setTop (mkF m 80 #[.val (.int s0), .val (.double d5), .second, .unset] [(.double (FP.dmul d5 (4751297606875873280 : UInt64)))])) _
        refine XS.dstoreN X0.here hx rfl (hb hby d3_80) rfl (l' := #[.val (.int s0), .val (.double (FP.dmul d5 (4751297606875873280 : UInt64))), .second, .unset]) rfl ?_
        exact Steps.refl _
    obtain ⟨E7, hE7⟩ : ∃ z : Nat, z = E6 + 64 * b6 := ⟨_, rfl⟩
    obtain ⟨d7, hd7, c9⟩ : ∃ d7 : UInt64, DV d7 1 E7 ∧ Steps p.tables e below S0 (s₁.setTop (mkF m 94 #[.val (.int s0), .val (.double d7), .second, .unset] [])) := by
      by_cases hbt : b6 = 0
      · have hd : DV d6 1 E7 := by
          rw [show E7 = E6 by omega]; exact hd6
        refine ⟨_, hd, c8.trans ?_⟩
        show Steps p.tables e below (s₁.setTop (mkF m 81 #[.val (.int s0), .val (.double d6), .second, .unset] [])) _
        refine XS.iloadN X0.here hx rfl (hb hby d3_81) rfl ?_
        show Steps p.tables e below (s₁.setTop (mkF m 82 #[.val (.int s0), .val (.double d6), .second, .unset] [(.int s0)])) _
        refine XS.bipush X0.here hx rfl (hb hby d3_82) ?_
        show Steps p.tables e below (s₁.setTop (mkF m 84 #[.val (.int s0), .val (.double d6), .second, .unset] [(.int (64 : Int32)), (.int s0)])) _
        refine XS.iand X0.here hx rfl (hb hby d3_84) rfl ?_
        show Steps p.tables e below (s₁.setTop (mkF m 85 #[.val (.int s0), .val (.double d6), .second, .unset] [(.int (s0 &&& (64 : Int32)))])) _
        refine XS.ifYes X0.here hx rfl (pc0 := 85) (pc' := 94) rfl (hb hby d3_85) rfl ((if0 _ _).trans (teq ((hbit.2.2.2.2.2.2.1).mpr hbt)).1) (by decide) (by decide) ?_
        exact Steps.refl _
      · have hd : DV (FP.dmul d6 (4895412794951729152 : UInt64)) 1 E7 := by
          have := dmul_v 52 E7 hd6 own_c1138 (by omega) (by decide) (by omega) (by omega)
          rwa [Int.mul_one] at this
        refine ⟨_, hd, c8.trans ?_⟩
        show Steps p.tables e below (s₁.setTop (mkF m 81 #[.val (.int s0), .val (.double d6), .second, .unset] [])) _
        refine XS.iloadN X0.here hx rfl (hb hby d3_81) rfl ?_
        show Steps p.tables e below (s₁.setTop (mkF m 82 #[.val (.int s0), .val (.double d6), .second, .unset] [(.int s0)])) _
        refine XS.bipush X0.here hx rfl (hb hby d3_82) ?_
        show Steps p.tables e below (s₁.setTop (mkF m 84 #[.val (.int s0), .val (.double d6), .second, .unset] [(.int (64 : Int32)), (.int s0)])) _
        refine XS.iand X0.here hx rfl (hb hby d3_84) rfl ?_
        show Steps p.tables e below (s₁.setTop (mkF m 85 #[.val (.int s0), .val (.double d6), .second, .unset] [(.int (s0 &&& (64 : Int32)))])) _
        refine XS.ifNo X0.here hx rfl (hb hby d3_85) rfl ((if0 _ _).trans (feq (fun q => hbt ((hbit.2.2.2.2.2.2.1).mp q))).1) ?_
        show Steps p.tables e below (s₁.setTop (mkF m 88 #[.val (.int s0), .val (.double d6), .second, .unset] [])) _
        refine XS.dloadN X0.here hx rfl (hb hby d3_88) rfl ?_
        show Steps p.tables e below (s₁.setTop (mkF m 89 #[.val (.int s0), .val (.double d6), .second, .unset] [(.double d6)])) _
        refine X0.ldc2DoubleC hx hown (mvT hZ (hw _ (List.mem_of_getElem? (i := 25) rfl))) (g := (mkF m 89 #[.val (.int s0), .val (.double d6), .second, .unset] [(.double d6)])) rfl (hb hby d3_89) _ ?_
        show Steps p.tables e below (s₁.setTop (mkF m 92 #[.val (.int s0), .val (.double d6), .second, .unset] [(.double (4895412794951729152 : UInt64)), (.double d6)])) _
        refine XS.dmulS X0.here hx rfl (v := (FP.dmul d6 (4895412794951729152 : UInt64))) (hb hby d3_92) rfl hd.noNaN rfl ?_
        show Steps p.tables e below (s₁.setTop (mkF m 93 #[.val (.int s0), .val (.double d6), .second, .unset] [(.double (FP.dmul d6 (4895412794951729152 : UInt64)))])) _
        refine XS.dstoreN X0.here hx rfl (hb hby d3_93) rfl (l' := #[.val (.int s0), .val (.double (FP.dmul d6 (4895412794951729152 : UInt64))), .second, .unset]) rfl ?_
        exact Steps.refl _
    obtain ⟨E8, hE8⟩ : ∃ z : Nat, z = E7 + 128 * b7 := ⟨_, rfl⟩
    obtain ⟨d8, hd8, c10⟩ : ∃ d8 : UInt64, DV d8 1 E8 ∧ Steps p.tables e below S0 (s₁.setTop (mkF m 108 #[.val (.int s0), .val (.double d8), .second, .unset] [])) := by
      by_cases hbt : b7 = 0
      · have hd : DV d7 1 E8 := by
          rw [show E8 = E7 by omega]; exact hd7
        refine ⟨_, hd, c9.trans ?_⟩
        show Steps p.tables e below (s₁.setTop (mkF m 94 #[.val (.int s0), .val (.double d7), .second, .unset] [])) _
        refine XS.iloadN X0.here hx rfl (hb hby d3_94) rfl ?_
        show Steps p.tables e below (s₁.setTop (mkF m 95 #[.val (.int s0), .val (.double d7), .second, .unset] [(.int s0)])) _
        refine XS.sipush X0.here hx rfl (hb hby d3_95) ?_
        show Steps p.tables e below (s₁.setTop (mkF m 98 #[.val (.int s0), .val (.double d7), .second, .unset] [(.int (128 : Int32)), (.int s0)])) _
        refine XS.iand X0.here hx rfl (hb hby d3_98) rfl ?_
        show Steps p.tables e below (s₁.setTop (mkF m 99 #[.val (.int s0), .val (.double d7), .second, .unset] [(.int (s0 &&& (128 : Int32)))])) _
        refine XS.ifYes X0.here hx rfl (pc0 := 99) (pc' := 108) rfl (hb hby d3_99) rfl ((if0 _ _).trans (teq ((hbit.2.2.2.2.2.2.2.1).mpr hbt)).1) (by decide) (by decide) ?_
        exact Steps.refl _
      · have hd : DV (FP.dmul d7 (5183643171103440896 : UInt64)) 1 E8 := by
          have := dmul_v 52 E8 hd7 own_c1202 (by omega) (by decide) (by omega) (by omega)
          rwa [Int.mul_one] at this
        refine ⟨_, hd, c9.trans ?_⟩
        show Steps p.tables e below (s₁.setTop (mkF m 94 #[.val (.int s0), .val (.double d7), .second, .unset] [])) _
        refine XS.iloadN X0.here hx rfl (hb hby d3_94) rfl ?_
        show Steps p.tables e below (s₁.setTop (mkF m 95 #[.val (.int s0), .val (.double d7), .second, .unset] [(.int s0)])) _
        refine XS.sipush X0.here hx rfl (hb hby d3_95) ?_
        show Steps p.tables e below (s₁.setTop (mkF m 98 #[.val (.int s0), .val (.double d7), .second, .unset] [(.int (128 : Int32)), (.int s0)])) _
        refine XS.iand X0.here hx rfl (hb hby d3_98) rfl ?_
        show Steps p.tables e below (s₁.setTop (mkF m 99 #[.val (.int s0), .val (.double d7), .second, .unset] [(.int (s0 &&& (128 : Int32)))])) _
        refine XS.ifNo X0.here hx rfl (hb hby d3_99) rfl ((if0 _ _).trans (feq (fun q => hbt ((hbit.2.2.2.2.2.2.2.1).mp q))).1) ?_
        show Steps p.tables e below (s₁.setTop (mkF m 102 #[.val (.int s0), .val (.double d7), .second, .unset] [])) _
        refine XS.dloadN X0.here hx rfl (hb hby d3_102) rfl ?_
        show Steps p.tables e below (s₁.setTop (mkF m 103 #[.val (.int s0), .val (.double d7), .second, .unset] [(.double d7)])) _
        refine X0.ldc2DoubleC hx hown (mvT hZ (hw _ (List.mem_of_getElem? (i := 26) rfl))) (g := (mkF m 103 #[.val (.int s0), .val (.double d7), .second, .unset] [(.double d7)])) rfl (hb hby d3_103) _ ?_
        show Steps p.tables e below (s₁.setTop (mkF m 106 #[.val (.int s0), .val (.double d7), .second, .unset] [(.double (5183643171103440896 : UInt64)), (.double d7)])) _
        refine XS.dmulS X0.here hx rfl (v := (FP.dmul d7 (5183643171103440896 : UInt64))) (hb hby d3_106) rfl hd.noNaN rfl ?_
        show Steps p.tables e below (s₁.setTop (mkF m 107 #[.val (.int s0), .val (.double d7), .second, .unset] [(.double (FP.dmul d7 (5183643171103440896 : UInt64)))])) _
        refine XS.dstoreN X0.here hx rfl (hb hby d3_107) rfl (l' := #[.val (.int s0), .val (.double (FP.dmul d7 (5183643171103440896 : UInt64))), .second, .unset]) rfl ?_
        exact Steps.refl _
    obtain ⟨E9, hE9⟩ : ∃ z : Nat, z = E8 + 256 * b8 := ⟨_, rfl⟩
    obtain ⟨d9, hd9, c11⟩ : ∃ d9 : UInt64, DV d9 1 E9 ∧ Steps p.tables e below S0 (s₁.setTop (mkF m 122 #[.val (.int s0), .val (.double d9), .second, .unset] [])) := by
      by_cases hbt : b8 = 0
      · have hd : DV d8 1 E9 := by
          rw [show E9 = E8 by omega]; exact hd8
        refine ⟨_, hd, c10.trans ?_⟩
        show Steps p.tables e below (s₁.setTop (mkF m 108 #[.val (.int s0), .val (.double d8), .second, .unset] [])) _
        refine XS.iloadN X0.here hx rfl (hb hby d3_108) rfl ?_
        show Steps p.tables e below (s₁.setTop (mkF m 109 #[.val (.int s0), .val (.double d8), .second, .unset] [(.int s0)])) _
        refine XS.sipush X0.here hx rfl (hb hby d3_109) ?_
        show Steps p.tables e below (s₁.setTop (mkF m 112 #[.val (.int s0), .val (.double d8), .second, .unset] [(.int (256 : Int32)), (.int s0)])) _
        refine XS.iand X0.here hx rfl (hb hby d3_112) rfl ?_
        show Steps p.tables e below (s₁.setTop (mkF m 113 #[.val (.int s0), .val (.double d8), .second, .unset] [(.int (s0 &&& (256 : Int32)))])) _
        refine XS.ifYes X0.here hx rfl (pc0 := 113) (pc' := 122) rfl (hb hby d3_113) rfl ((if0 _ _).trans (teq ((hbit.2.2.2.2.2.2.2.2.1).mpr hbt)).1) (by decide) (by decide) ?_
        exact Steps.refl _
      · have hd : DV (FP.dmul d8 (5760103923406864384 : UInt64)) 1 E9 := by
          have := dmul_v 52 E9 hd8 own_c1330 (by omega) (by decide) (by omega) (by omega)
          rwa [Int.mul_one] at this
        refine ⟨_, hd, c10.trans ?_⟩
        show Steps p.tables e below (s₁.setTop (mkF m 108 #[.val (.int s0), .val (.double d8), .second, .unset] [])) _
        refine XS.iloadN X0.here hx rfl (hb hby d3_108) rfl ?_
        show Steps p.tables e below (s₁.setTop (mkF m 109 #[.val (.int s0), .val (.double d8), .second, .unset] [(.int s0)])) _
        refine XS.sipush X0.here hx rfl (hb hby d3_109) ?_
        show Steps p.tables e below (s₁.setTop (mkF m 112 #[.val (.int s0), .val (.double d8), .second, .unset] [(.int (256 : Int32)), (.int s0)])) _
        refine XS.iand X0.here hx rfl (hb hby d3_112) rfl ?_
        show Steps p.tables e below (s₁.setTop (mkF m 113 #[.val (.int s0), .val (.double d8), .second, .unset] [(.int (s0 &&& (256 : Int32)))])) _
        refine XS.ifNo X0.here hx rfl (hb hby d3_113) rfl ((if0 _ _).trans (feq (fun q => hbt ((hbit.2.2.2.2.2.2.2.2.1).mp q))).1) ?_
        show Steps p.tables e below (s₁.setTop (mkF m 116 #[.val (.int s0), .val (.double d8), .second, .unset] [])) _
        refine XS.dloadN X0.here hx rfl (hb hby d3_116) rfl ?_
        show Steps p.tables e below (s₁.setTop (mkF m 117 #[.val (.int s0), .val (.double d8), .second, .unset] [(.double d8)])) _
        refine X0.ldc2DoubleC hx hown (mvT hZ (hw _ (List.mem_of_getElem? (i := 27) rfl))) (g := (mkF m 117 #[.val (.int s0), .val (.double d8), .second, .unset] [(.double d8)])) rfl (hb hby d3_117) _ ?_
        show Steps p.tables e below (s₁.setTop (mkF m 120 #[.val (.int s0), .val (.double d8), .second, .unset] [(.double (5760103923406864384 : UInt64)), (.double d8)])) _
        refine XS.dmulS X0.here hx rfl (v := (FP.dmul d8 (5760103923406864384 : UInt64))) (hb hby d3_120) rfl hd.noNaN rfl ?_
        show Steps p.tables e below (s₁.setTop (mkF m 121 #[.val (.int s0), .val (.double d8), .second, .unset] [(.double (FP.dmul d8 (5760103923406864384 : UInt64)))])) _
        refine XS.dstoreN X0.here hx rfl (hb hby d3_121) rfl (l' := #[.val (.int s0), .val (.double (FP.dmul d8 (5760103923406864384 : UInt64))), .second, .unset]) rfl ?_
        exact Steps.refl _
    obtain ⟨E10, hE10⟩ : ∃ z : Nat, z = E9 + 512 * b9 := ⟨_, rfl⟩
    obtain ⟨d10, hd10, c12⟩ : ∃ d10 : UInt64, DV d10 1 E10 ∧ Steps p.tables e below S0 (s₁.setTop (mkF m 286 #[.val (.int s0), .val (.double d10), .second, .unset] [])) := by
      by_cases hbt : b9 = 0
      · have hd : DV d9 1 E10 := by
          rw [show E10 = E9 by omega]; exact hd9
        refine ⟨_, hd, c11.trans ?_⟩
        show Steps p.tables e below (s₁.setTop (mkF m 122 #[.val (.int s0), .val (.double d9), .second, .unset] [])) _
        refine XS.iloadN X0.here hx rfl (hb hby d3_122) rfl ?_
        show Steps p.tables e below (s₁.setTop (mkF m 123 #[.val (.int s0), .val (.double d9), .second, .unset] [(.int s0)])) _
        refine XS.sipush X0.here hx rfl (hb hby d3_123) ?_
        show Steps p.tables e below (s₁.setTop (mkF m 126 #[.val (.int s0), .val (.double d9), .second, .unset] [(.int (512 : Int32)), (.int s0)])) _
        refine XS.iand X0.here hx rfl (hb hby d3_126) rfl ?_
        show Steps p.tables e below (s₁.setTop (mkF m 127 #[.val (.int s0), .val (.double d9), .second, .unset] [(.int (s0 &&& (512 : Int32)))])) _
        refine XS.ifYes X0.here hx rfl (pc0 := 127) (pc' := 286) rfl (hb hby d3_127) rfl ((if0 _ _).trans (teq ((hbit.2.2.2.2.2.2.2.2.2.1).mpr hbt)).1) (by decide) (by decide) ?_
        exact Steps.refl _
      · have hd : DV (FP.dmul d9 (6913025428013711360 : UInt64)) 1 E10 := by
          have := dmul_v 52 E10 hd9 own_c1586 (by omega) (by decide) (by omega) (by omega)
          rwa [Int.mul_one] at this
        refine ⟨_, hd, c11.trans ?_⟩
        show Steps p.tables e below (s₁.setTop (mkF m 122 #[.val (.int s0), .val (.double d9), .second, .unset] [])) _
        refine XS.iloadN X0.here hx rfl (hb hby d3_122) rfl ?_
        show Steps p.tables e below (s₁.setTop (mkF m 123 #[.val (.int s0), .val (.double d9), .second, .unset] [(.int s0)])) _
        refine XS.sipush X0.here hx rfl (hb hby d3_123) ?_
        show Steps p.tables e below (s₁.setTop (mkF m 126 #[.val (.int s0), .val (.double d9), .second, .unset] [(.int (512 : Int32)), (.int s0)])) _
        refine XS.iand X0.here hx rfl (hb hby d3_126) rfl ?_
        show Steps p.tables e below (s₁.setTop (mkF m 127 #[.val (.int s0), .val (.double d9), .second, .unset] [(.int (s0 &&& (512 : Int32)))])) _
        refine XS.ifNo X0.here hx rfl (hb hby d3_127) rfl ((if0 _ _).trans (feq (fun q => hbt ((hbit.2.2.2.2.2.2.2.2.2.1).mp q))).1) ?_
        show Steps p.tables e below (s₁.setTop (mkF m 130 #[.val (.int s0), .val (.double d9), .second, .unset] [])) _
        refine XS.dloadN X0.here hx rfl (hb hby d3_130) rfl ?_
        show Steps p.tables e below (s₁.setTop (mkF m 131 #[.val (.int s0), .val (.double d9), .second, .unset] [(.double d9)])) _
        refine X0.ldc2DoubleC hx hown (mvT hZ (hw _ (List.mem_of_getElem? (i := 28) rfl))) (g := (mkF m 131 #[.val (.int s0), .val (.double d9), .second, .unset] [(.double d9)])) rfl (hb hby d3_131) _ ?_
        show Steps p.tables e below (s₁.setTop (mkF m 134 #[.val (.int s0), .val (.double d9), .second, .unset] [(.double (6913025428013711360 : UInt64)), (.double d9)])) _
        refine XS.dmulS X0.here hx rfl (v := (FP.dmul d9 (6913025428013711360 : UInt64))) (hb hby d3_134) rfl hd.noNaN rfl ?_
        show Steps p.tables e below (s₁.setTop (mkF m 135 #[.val (.int s0), .val (.double d9), .second, .unset] [(.double (FP.dmul d9 (6913025428013711360 : UInt64)))])) _
        refine XS.dstoreN X0.here hx rfl (hb hby d3_135) rfl (l' := #[.val (.int s0), .val (.double (FP.dmul d9 (6913025428013711360 : UInt64))), .second, .unset]) rfl ?_
        show Steps p.tables e below (s₁.setTop (mkF m 136 #[.val (.int s0), .val (.double (FP.dmul d9 (6913025428013711360 : UInt64))), .second, .unset] [])) _
        refine XS.goto X0.here hx rfl (pc0 := 136) (pc' := 286) rfl (hb hby d3_136) (by decide) (by decide) ?_
        exact Steps.refl _
    have c13 : Steps p.tables e below S0 (s₁.setTop (mkF m 287 #[.val (.int s0), .val (.double d10), .second, .unset] [(.double d10)])) := by
      refine c12.trans ?_
      show Steps p.tables e below (s₁.setTop (mkF m 286 #[.val (.int s0), .val (.double d10), .second, .unset] [])) _
      refine XS.dloadN X0.here hx rfl (hb hby d3_286) rfl ?_
      exact Steps.refl _
    obtain ⟨fs, hr, hrun, hended, hW, hsame⟩ := X0.leave (v := some (.double d10)) (fun h => by rw [Bd.returns] at h; cases h)
    refine ⟨_, _, c13.trans ?_, hrun, hended, _, _, rfl, ?_, ⟨_, rfl⟩, hW, hsame.mono (by decide) (by decide)⟩
    · show Steps p.tables e below (s₁.setTop (mkF m 287 #[.val (.int s0), .val (.double d10), .second, .unset] [(.double d10)])) _
      exact retD X0 hx Bd.returns (hb hby d3_287) hr
    · show Q3 Z s0 E h0 n0 _ s₁.heap _
      rw [e0]
      exact ⟨⟨_, rfl, by rw [show E = E10 by omega]; exact hd10⟩, N0, rfl⟩
  · obtain ⟨b0, b1, b2, b3, b4, b5, b6, b7, b8, b9, b10, ⟨l0, l1, l2, l3, l4, l5, l6, l7, l8, l9, l10⟩, hsum, hbit⟩ := own_bits n (by omega)
    have hng : -s0 = Int32.ofNat n := by rw [hn3]; simp
    rw [← hng] at hbit
    have c14 : Steps p.tables e below S0 (s₁.setTop (mkF m 142 #[.val (.int s0), .val (.double (4607182418800017408 : UInt64)), .second, .val (.int (-s0))] [])) := by
      refine c1.trans ?_
      show Steps p.tables e below (s₁.setTop (mkF m 3 #[.val (.int s0), .val (.double (4607182418800017408 : UInt64)), .second, .unset] [(.int s0)])) _
      refine XS.ifYes X0.here hx rfl (pc0 := 3) (pc' := 139) rfl (hb hby d3_3) rfl ((if0 _ _).trans (tlt (own_neg n s0 hn1 hn2 hn3)).1) (by decide) (by decide) ?_
      show Steps p.tables e below (s₁.setTop (mkF m 139 #[.val (.int s0), .val (.double (4607182418800017408 : UInt64)), .second, .unset] [])) _
      refine XS.iloadN X0.here hx rfl (hb hby d3_139) rfl ?_
      show Steps p.tables e below (s₁.setTop (mkF m 140 #[.val (.int s0), .val (.double (4607182418800017408 : UInt64)), .second, .unset] [(.int s0)])) _
      refine XS.ineg X0.here hx rfl (hb hby d3_140) rfl ?_
      show Steps p.tables e below (s₁.setTop (mkF m 141 #[.val (.int s0), .val (.double (4607182418800017408 : UInt64)), .second, .unset] [(.int (-s0))])) _
      refine XS.istoreN X0.here hx rfl (hb hby d3_141) rfl (l' := #[.val (.int s0), .val (.double (4607182418800017408 : UInt64)), .second, .val (.int (-s0))]) rfl ?_
      exact Steps.refl _
    obtain ⟨E1, hE1⟩ : ∃ z : Nat, z = 1074 - 1 * b0 := ⟨_, rfl⟩
    obtain ⟨d1, hd1, c15⟩ : ∃ d1 : UInt64, DV d1 1 E1 ∧ Steps p.tables e below S0 (s₁.setTop (mkF m 154 #[.val (.int s0), .val (.double d1), .second, .val (.int (-s0))] [])) := by
      by_cases hbt : b0 = 0
      · have hd : DV (4607182418800017408 : UInt64) 1 E1 := by
          rw [show E1 = 1074 by omega]; exact own_c1074
        refine ⟨_, hd, c14.trans ?_⟩
        show Steps p.tables e below (s₁.setTop (mkF m 142 #[.val (.int s0), .val (.double (4607182418800017408 : UInt64)), .second, .val (.int (-s0))] [])) _
        refine XS.iloadN X0.here hx rfl (hb hby d3_142) rfl ?_
        show Steps p.tables e below (s₁.setTop (mkF m 143 #[.val (.int s0), .val (.double (4607182418800017408 : UInt64)), .second, .val (.int (-s0))] [(.int (-s0))])) _
        refine XS.iconst X0.here hx rfl (hb hby d3_143) ?_
        show Steps p.tables e below (s₁.setTop (mkF m 144 #[.val (.int s0), .val (.double (4607182418800017408 : UInt64)), .second, .val (.int (-s0))] [(.int (1 : Int32)), (.int (-s0))])) _
        refine XS.iand X0.here hx rfl (hb hby d3_144) rfl ?_
        show Steps p.tables e below (s₁.setTop (mkF m 145 #[.val (.int s0), .val (.double (4607182418800017408 : UInt64)), .second, .val (.int (-s0))] [(.int ((-s0) &&& (1 : Int32)))])) _
        refine XS.ifYes X0.here hx rfl (pc0 := 145) (pc' := 154) rfl (hb hby d3_145) rfl ((if0 _ _).trans (teq ((hbit.1).mpr hbt)).1) (by decide) (by decide) ?_
        exact Steps.refl _
      · have hd : DV (FP.dmul (4607182418800017408 : UInt64) (4602678819172646912 : UInt64)) 1 E1 := by
          have := dmul_v 0 E1 own_c1074 own_c1073 (by omega) (by decide) (by omega) (by omega)
          rwa [Int.mul_one] at this
        refine ⟨_, hd, c14.trans ?_⟩
        show Steps p.tables e below (s₁.setTop (mkF m 142 #[.val (.int s0), .val (.double (4607182418800017408 : UInt64)), .second, .val (.int (-s0))] [])) _
        refine XS.iloadN X0.here hx rfl (hb hby d3_142) rfl ?_
        show Steps p.tables e below (s₁.setTop (mkF m 143 #[.val (.int s0), .val (.double (4607182418800017408 : UInt64)), .second, .val (.int (-s0))] [(.int (-s0))])) _
        refine XS.iconst X0.here hx rfl (hb hby d3_143) ?_
        show Steps p.tables e below (s₁.setTop (mkF m 144 #[.val (.int s0), .val (.double (4607182418800017408 : UInt64)), .second, .val (.int (-s0))] [(.int (1 : Int32)), (.int (-s0))])) _
        refine XS.iand X0.here hx rfl (hb hby d3_144) rfl ?_
        show Steps p.tables e below (s₁.setTop (mkF m 145 #[.val (.int s0), .val (.double (4607182418800017408 : UInt64)), .second, .val (.int (-s0))] [(.int ((-s0) &&& (1 : Int32)))])) _
        refine XS.ifNo X0.here hx rfl (hb hby d3_145) rfl ((if0 _ _).trans (feq (fun q => hbt ((hbit.1).mp q))).1) ?_
        show Steps p.tables e below (s₁.setTop (mkF m 148 #[.val (.int s0), .val (.double (4607182418800017408 : UInt64)), .second, .val (.int (-s0))] [])) _
        refine XS.dloadN X0.here hx rfl (hb hby d3_148) rfl ?_
        show Steps p.tables e below (s₁.setTop (mkF m 149 #[.val (.int s0), .val (.double (4607182418800017408 : UInt64)), .second, .val (.int (-s0))] [(.double (4607182418800017408 : UInt64))])) _
        refine X0.ldc2DoubleC hx hown (mvT hZ (hw _ (List.mem_of_getElem? (i := 5) rfl))) (g := (mkF m 149 #[.val (.int s0), .val (.double (4607182418800017408 : UInt64)), .second, .val (.int (-s0))] [(.double (4607182418800017408 : UInt64))])) rfl (hb hby d3_149) _ ?_
        show Steps p.tables e below (s₁.setTop (mkF m 152 #[.val (.int s0), .val (.double (4607182418800017408 : UInt64)), .second, .val (.int (-s0))] [(.double (4602678819172646912 : UInt64)), (.double (4607182418800017408 : UInt64))])) _
        refine XS.dmulS X0.here hx rfl (v := (FP.dmul (4607182418800017408 : UInt64) (4602678819172646912 : UInt64))) (hb hby d3_152) rfl hd.noNaN rfl ?_
        show Steps p.tables e below (s₁.setTop (mkF m 153 #[.val (.int s0), .val (.double (4607182418800017408 : UInt64)), .second, .val (.int (-s0))] [(.double (FP.dmul (4607182418800017408 : UInt64) (4602678819172646912 : UInt64)))])) _
        refine XS.dstoreN X0.here hx rfl (hb hby d3_153) rfl (l' := #[.val (.int s0), .val (.double (FP.dmul (4607182418800017408 : UInt64) (4602678819172646912 : UInt64))), .second, .val (.int (-s0))]) rfl ?_
        exact Steps.refl _
    obtain ⟨E2, hE2⟩ : ∃ z : Nat, z = E1 - 2 * b1 := ⟨_, rfl⟩
    obtain ⟨d2, hd2, c16⟩ : ∃ d2 : UInt64, DV d2 1 E2 ∧ Steps p.tables e below S0 (s₁.setTop (mkF m 166 #[.val (.int s0), .val (.double d2), .second, .val (.int (-s0))] [])) := by
      by_cases hbt : b1 = 0
      · have hd : DV d1 1 E2 := by
          rw [show E2 = E1 by omega]; exact hd1
        refine ⟨_, hd, c15.trans ?_⟩
        show Steps p.tables e below (s₁.setTop (mkF m 154 #[.val (.int s0), .val (.double d1), .second, .val (.int (-s0))] [])) _
        refine XS.iloadN X0.here hx rfl (hb hby d3_154) rfl ?_
        show Steps p.tables e below (s₁.setTop (mkF m 155 #[.val (.int s0), .val (.double d1), .second, .val (.int (-s0))] [(.int (-s0))])) _
        refine XS.iconst X0.here hx rfl (hb hby d3_155) ?_
        show Steps p.tables e below (s₁.setTop (mkF m 156 #[.val (.int s0), .val (.double d1), .second, .val (.int (-s0))] [(.int (2 : Int32)), (.int (-s0))])) _
        refine XS.iand X0.here hx rfl (hb hby d3_156) rfl ?_
        show Steps p.tables e below (s₁.setTop (mkF m 157 #[.val (.int s0), .val (.double d1), .second, .val (.int (-s0))] [(.int ((-s0) &&& (2 : Int32)))])) _
        refine XS.ifYes X0.here hx rfl (pc0 := 157) (pc' := 166) rfl (hb hby d3_157) rfl ((if0 _ _).trans (teq ((hbit.2.1).mpr hbt)).1) (by decide) (by decide) ?_
        exact Steps.refl _
      · have hd : DV (FP.dmul d1 (4598175219545276416 : UInt64)) 1 E2 := by
          have := dmul_v 0 E2 hd1 own_c1072 (by omega) (by decide) (by omega) (by omega)
          rwa [Int.mul_one] at this
        refine ⟨_, hd, c15.trans ?_⟩
        show Steps p.tables e below (s₁.setTop (mkF m 154 #[.val (.int s0), .val (.double d1), .second, .val (.int (-s0))] [])) _
        refine XS.iloadN X0.here hx rfl (hb hby d3_154) rfl ?_
        show Steps p.tables e below (s₁.setTop (mkF m 155 #[.val (.int s0), .val (.double d1), .second, .val (.int (-s0))] [(.int (-s0))])) _
        refine XS.iconst X0.here hx rfl (hb hby d3_155) ?_
        show Steps p.tables e below (s₁.setTop (mkF m 156 #[.val (.int s0), .val (.double d1), .second, .val (.int (-s0))] [(.int (2 : Int32)), (.int (-s0))])) _
        refine XS.iand X0.here hx rfl (hb hby d3_156) rfl ?_
        show Steps p.tables e below (s₁.setTop (mkF m 157 #[.val (.int s0), .val (.double d1), .second, .val (.int (-s0))] [(.int ((-s0) &&& (2 : Int32)))])) _
        refine XS.ifNo X0.here hx rfl (hb hby d3_157) rfl ((if0 _ _).trans (feq (fun q => hbt ((hbit.2.1).mp q))).1) ?_
        show Steps p.tables e below (s₁.setTop (mkF m 160 #[.val (.int s0), .val (.double d1), .second, .val (.int (-s0))] [])) _
        refine XS.dloadN X0.here hx rfl (hb hby d3_160) rfl ?_
        show Steps p.tables e below (s₁.setTop (mkF m 161 #[.val (.int s0), .val (.double d1), .second, .val (.int (-s0))] [(.double d1)])) _
        refine X0.ldc2DoubleC hx hown (mvT hZ (hw _ (List.mem_of_getElem? (i := 6) rfl))) (g := (mkF m 161 #[.val (.int s0), .val (.double d1), .second, .val (.int (-s0))] [(.double d1)])) rfl (hb hby d3_161) _ ?_
        show Steps p.tables e below (s₁.setTop (mkF m 164 #[.val (.int s0), .val (.double d1), .second, .val (.int (-s0))] [(.double (4598175219545276416 : UInt64)), (.double d1)])) _
        refine XS.dmulS X0.here hx rfl (v := (FP.dmul d1 (4598175219545276416 : UInt64))) (hb hby d3_164) rfl hd.noNaN rfl ?_
        show Steps p.tables e below (s₁.setTop (mkF m 165 #[.val (.int s0), .val (.double d1), .second, .val (.int (-s0))] [(.double (FP.dmul d1 (4598175219545276416 : UInt64)))])) _
        refine XS.dstoreN X0.here hx rfl (hb hby d3_165) rfl (l' := #[.val (.int s0), .val (.double (FP.dmul d1 (4598175219545276416 : UInt64))), .second, .val (.int (-s0))]) rfl ?_
        exact Steps.refl _
    obtain ⟨E3, hE3⟩ : ∃ z : Nat, z = E2 - 4 * b2 := ⟨_, rfl⟩
    obtain ⟨d3, hd3, c17⟩ : ∃ d3 : UInt64, DV d3 1 E3 ∧ Steps p.tables e below S0 (s₁.setTop (mkF m 178 #[.val (.int s0), .val (.double d3), .second, .val (.int (-s0))] [])) := by
      by_cases hbt : b2 = 0
      · have hd : DV d2 1 E3 := by
          rw [show E3 = E2 by omega]; exact hd2
        refine ⟨_, hd, c16.trans ?_⟩
        show Steps p.tables e below (s₁.setTop (mkF m 166 #[.val (.int s0), .val (.double d2), .second, .val (.int (-s0))] [])) _
        refine XS.iloadN X0.here hx rfl (hb hby d3_166) rfl ?_
        show Steps p.tables e below (s₁.setTop (mkF m 167 #[.val (.int s0), .val (.double d2), .second, .val (.int (-s0))] [(.int (-s0))])) _
        refine XS.iconst X0.here hx rfl (hb hby d3_167) ?_
        show Steps p.tables e below (s₁.setTop (mkF m 168 #[.val (.int s0), .val (.double d2), .second, .val (.int (-s0))] [(.int (4 : Int32)), (.int (-s0))])) _
        refine XS.iand X0.here hx rfl (hb hby d3_168) rfl ?_
        show Steps p.tables e below (s₁.setTop (mkF m 169 #[.val (.int s0), .val (.double d2), .second, .val (.int (-s0))] [(.int ((-s0) &&& (4 : Int32)))])) _
        refine XS.ifYes X0.here hx rfl (pc0 := 169) (pc' := 178) rfl (hb hby d3_169) rfl ((if0 _ _).trans (teq ((hbit.2.2.1).mpr hbt)).1) (by decide) (by decide) ?_
        exact Steps.refl _
      · have hd : DV (FP.dmul d2 (4589168020290535424 : UInt64)) 1 E3 := by
          have := dmul_v 0 E3 hd2 own_c1070 (by omega) (by decide) (by omega) (by omega)
          rwa [Int.mul_one] at this
        refine ⟨_, hd, c16.trans ?_⟩
        show Steps p.tables e below (s₁.setTop (mkF m 166 #[.val (.int s0), .val (.double d2), .second, .val (.int (-s0))] [])) _
        refine XS.iloadN X0.here hx rfl (hb hby d3_166) rfl ?_
        show Steps p.tables e below (s₁.setTop (mkF m 167 #[.val (.int s0), .val (.double d2), .second, .val (.int (-s0))] [(.int (-s0))])) _
        refine XS.iconst X0.here hx rfl (hb hby d3_167) ?_
        show Steps p.tables e below (s₁.setTop (mkF m 168 #[.val (.int s0), .val (.double d2), .second, .val (.int (-s0))] [(.int (4 : Int32)), (.int (-s0))])) _
        refine XS.iand X0.here hx rfl (hb hby d3_168) rfl ?_
        show Steps p.tables e below (s₁.setTop (mkF m 169 #[.val (.int s0), .val (.double d2), .second, .val (.int (-s0))] [(.int ((-s0) &&& (4 : Int32)))])) _
        refine XS.ifNo X0.here hx rfl (hb hby d3_169) rfl ((if0 _ _).trans (feq (fun q => hbt ((hbit.2.2.1).mp q))).1) ?_
        show Steps p.tables e below (s₁.setTop (mkF m 172 #[.val (.int s0), .val (.double d2), .second, .val (.int (-s0))] [])) _
        refine XS.dloadN X0.here hx rfl (hb hby d3_172) rfl ?_
        show Steps p.tables e below (s₁.setTop (mkF m 173 #[.val (.int s0), .val (.double d2), .second, .val (.int (-s0))] [(.double d2)])) _
        refine X0.ldc2DoubleC hx hown (mvT hZ (hw _ (List.mem_of_getElem? (i := 7) rfl))) (g := (mkF m 173 #[.val (.int s0), .val (.double d2), .second, .val (.int (-s0))] [(.double d2)])) rfl (hb hby d3_173) _ ?_
        show Steps p.tables e below (s₁.setTop (mkF m 176 #[.val (.int s0), .val (.double d2), .second, .val (.int (-s0))] [(.double (4589168020290535424 : UInt64)), (.double d2)])) _
        refine XS.dmulS X0.here hx rfl (v := (FP.dmul d2 (4589168020290535424 : UInt64))) (hb hby d3_176) rfl hd.noNaN rfl ?_
        show Steps p.tables e below (s₁.setTop (mkF m 177 #[.val (.int s0), .val (.double d2), .second, .val (.int (-s0))] [(.double (FP.dmul d2 (4589168020290535424 : UInt64)))])) _
        refine XS.dstoreN X0.here hx rfl (hb hby d3_177) rfl (l' := #[.val (.int s0), .val (.double (FP.dmul d2 (4589168020290535424 : UInt64))), .second, .val (.int (-s0))]) rfl ?_
        exact Steps.refl _
    obtain ⟨E4, hE4⟩ : ∃ z : Nat, z = E3 - 8 * b3 := ⟨_, rfl⟩
    obtain ⟨d4, hd4, c18⟩ : ∃ d4 : UInt64, DV d4 1 E4 ∧ Steps p.tables e below S0 (s₁.setTop (mkF m 191 #[.val (.int s0), .val (.double d4), .second, .val (.int (-s0))] [])) := by
      by_cases hbt : b3 = 0
      · have hd : DV d3 1 E4 := by
          rw [show E4 = E3 by omega]; exact hd3
        refine ⟨_, hd, c17.trans ?_⟩
        show Steps p.tables e below (s₁.setTop (mkF m 178 #[.val (.int s0), .val (.double d3), .second, .val (.int (-s0))] [])) _
        refine XS.iloadN X0.here hx rfl (hb hby d3_178) rfl ?_
        show Steps p.tables e below (s₁.setTop (mkF m 179 #[.val (.int s0), .val (.double d3), .second, .val (.int (-s0))] [(.int (-s0))])) _
        refine XS.bipush X0.here hx rfl (hb hby d3_179) ?_
        show Steps p.tables e below (s₁.setTop (mkF m 181 #[.val (.int s0), .val (.double d3), .second, .val (.int (-s0))] [(.int (8 : Int32)), (.int (-s0))])) _
        refine XS.iand X0.here hx rfl (hb hby d3_181) rfl ?_
        show Steps p.tables e below (s₁.setTop (mkF m 182 #[.val (.int s0), .val (.double d3), .second, .val (.int (-s0))] [(.int ((-s0) &&& (8 : Int32)))])) _
        refine XS.ifYes X0.here hx rfl (pc0 := 182) (pc' := 191) rfl (hb hby d3_182) rfl ((if0 _ _).trans (teq ((hbit.2.2.2.1).mpr hbt)).1) (by decide) (by decide) ?_
        exact Steps.refl _
      · have hd : DV (FP.dmul d3 (4571153621781053440 : UInt64)) 1 E4 := by
          have := dmul_v 0 E4 hd3 own_c1066 (by omega) (by decide) (by omega) (by omega)
          rwa [Int.mul_one] at this
        refine ⟨_, hd, c17.trans ?_⟩
        show Steps p.tables e below (s₁.setTop (mkF m 178 #[.val (.int s0), .val (.double d3), .second, .val (.int (-s0))] [])) _
        refine XS.iloadN X0.here hx rfl (hb hby d3_178) rfl ?_
        show Steps p.tables e below (s₁.setTop (mkF m 179 #[.val (.int s0), .val (.double d3), .second, .val (.int (-s0))] [(.int (-s0))])) _
        refine XS.bipush X0.here hx rfl (hb hby d3_179) ?_
        show Steps p.tables e below (s₁.setTop (mkF m 181 #[.val (.int s0), .val (.double d3), .second, .val (.int (-s0))] [(.int (8 : Int32)), (.int (-s0))])) _
        refine XS.iand X0.here hx rfl (hb hby d3_181) rfl ?_
        show Steps p.tables e below (s₁.setTop (mkF m 182 #[.val (.int s0), .val (.double d3), .second, .val (.int (-s0))] [(.int ((-s0) &&& (8 : Int32)))])) _
        refine XS.ifNo X0.here hx rfl (hb hby d3_182) rfl ((if0 _ _).trans (feq (fun q => hbt ((hbit.2.2.2.1).mp q))).1) ?_
        show Steps p.tables e below (s₁.setTop (mkF m 185 #[.val (.int s0), .val (.double d3), .second, .val (.int (-s0))] [])) _
        refine XS.dloadN X0.here hx rfl (hb hby d3_185) rfl ?_
        show Steps p.tables e below (s₁.setTop (mkF m 186 #[.val (.int s0), .val (.double d3), .second, .val (.int (-s0))] [(.double d3)])) _
        refine X0.ldc2DoubleC hx hown (mvT hZ (hw _ (List.mem_of_getElem? (i := 8) rfl))) (g := (mkF m 186 #[.val (.int s0), .val (.double d3), .second, .val (.int (-s0))] [(.double d3)])) rfl (hb hby d3_186) _ ?_
        show Steps p.tables e below (s₁.setTop (mkF m 189 #[.val (.int s0), .val (.double d3), .second, .val (.int (-s0))] [(.double (4571153621781053440 : UInt64)), (.double d3)])) _
        refine XS.dmulS X0.here hx rfl (v := (FP.dmul d3 (4571153621781053440 : UInt64))) (hb hby d3_189) rfl hd.noNaN rfl ?_
        show Steps p.tables e below (s₁.setTop (mkF m 190 #[.val (.int s0), .val (.double d3), .second, .val (.int (-s0))] [(.double (FP.dmul d3 (4571153621781053440 : UInt64)))])) _
        refine XS.dstoreN X0.here hx rfl (hb hby d3_190) rfl (l' := #[.val (.int s0), .val (.double (FP.dmul d3 (4571153621781053440 : UInt64))), .second, .val (.int (-s0))]) rfl ?_
        exact Steps.refl _
    obtain ⟨E5, hE5⟩ : ∃ z : Nat, z = E4 - 16 * b4 := ⟨_, rfl⟩
    obtain ⟨d5, hd5, c19⟩ : ∃ d5 : UInt64, DV d5 1 E5 ∧ Steps p.tables e below S0 (s₁.setTop (mkF m 204 #[.val (.int s0), .val (.double d5), .second, .val (.int (-s0))] [])) := by
      by_cases hbt : b4 = 0
      · have hd : DV d4 1 E5 := by
          rw [show E5 = E4 by omega]; exact hd4
        refine ⟨_, hd, c18.trans ?_⟩
        show Steps p.tables e below (s₁.setTop (mkF m 191 #[.val (.int s0), .val (.double d4), .second, .val (.int (-s0))] [])) _
        refine XS.iloadN X0.here hx rfl (hb hby d3_191) rfl ?_
        show Steps p.tables e below (s₁.setTop (mkF m 192 #[.val (.int s0), .val (.double d4), .second, .val (.int (-s0))] [(.int (-s0))])) _
        refine XS.bipush X0.here hx rfl (hb hby d3_192) ?_
        show Steps p.tables e below (s₁.setTop (mkF m 194 #[.val (.int s0), .val (.double d4), .second, .val (.int (-s0))] [(.int (16 : Int32)), (.int (-s0))])) _
        refine XS.iand X0.here hx rfl (hb hby d3_194) rfl ?_
        show Steps p.tables e below (s₁.setTop (mkF m 195 #[.val (.int s0), .val (.double d4), .second, .val (.int (-s0))] [(.int ((-s0) &&& (16 : Int32)))])) _
        refine XS.ifYes X0.here hx rfl (pc0 := 195) (pc' := 204) rfl (hb hby d3_195) rfl ((if0 _ _).trans (teq ((hbit.2.2.2.2.1).mpr hbt)).1) (by decide) (by decide) ?_
        exact Steps.refl _
      · have hd : DV (FP.dmul d4 (4535124824762089472 : UInt64)) 1 E5 := by
          have := dmul_v 0 E5 hd4 own_c1058 (by omega) (by decide) (by omega) (by omega)
          rwa [Int.mul_one] at this
        refine ⟨_, hd, c18.trans ?_⟩
        show Steps p.tables e below (s₁.setTop (mkF m 191 #[.val (.int s0), .val (.double d4), .second, .val (.int (-s0))] [])) _
        refine XS.iloadN X0.here hx rfl (hb hby d3_191) rfl ?_
        show Steps p.tables e below (s₁.setTop (mkF m 192 #[.val (.int s0), .val (.double d4), .second, .val (.int (-s0))] [(.int (-s0))])) _
        refine XS.bipush X0.here hx rfl (hb hby d3_192) ?_
        show Steps p.tables e below (s₁.setTop (mkF m 194 #[.val (.int s0), .val (.double d4), .second, .val (.int (-s0))] [(.int (16 : Int32)), (.int (-s0))])) _
        refine XS.iand X0.here hx rfl (hb hby d3_194) rfl ?_
        show Steps p.tables e below (s₁.setTop (mkF m 195 #[.val (.int s0), .val (.double d4), .second, .val (.int (-s0))] [(.int ((-s0) &&& (16 : Int32)))])) _
        refine XS.ifNo X0.here hx rfl (hb hby d3_195) rfl ((if0 _ _).trans (feq (fun q => hbt ((hbit.2.2.2.2.1).mp q))).1) ?_
        show Steps p.tables e below (s₁.setTop (mkF m 198 #[.val (.int s0), .val (.double d4), .second, .val (.int (-s0))] [])) _
        refine XS.dloadN X0.here hx rfl (hb hby d3_198) rfl ?_
        show Steps p.tables e below (s₁.setTop (mkF m 199 #[.val (.int s0), .val (.double d4), .second, .val (.int (-s0))] [(.double d4)])) _
        refine X0.ldc2DoubleC hx hown (mvT hZ (hw _ (List.mem_of_getElem? (i := 11) rfl))) (g := (mkF m 199 #[.val (.int s0), .val (.double d4), .second, .val (.int (-s0))] [(.double d4)])) rfl (hb hby d3_199) _ ?_
        show Steps p.tables e below (s₁.setTop (mkF m 202 #[.val (.int s0), .val (.double d4), .second, .val (.int (-s0))] [(.double (4535124824762089472 : UInt64)), (.double d4)])) _
        refine XS.dmulS X0.here hx rfl (v := (FP.dmul d4 (4535124824762089472 : UInt64))) (hb hby d3_202) rfl hd.noNaN rfl ?_
        show Steps p.tables e below (s₁.setTop (mkF m 203 #[.val (.int s0), .val (.double d4), .second, .val (.int (-s0))] [(.double (FP.dmul d4 (4535124824762089472 : UInt64)))])) _
        refine XS.dstoreN X0.here hx rfl (hb hby d3_203) rfl (l' := #[.val (.int s0), .val (.double (FP.dmul d4 (4535124824762089472 : UInt64))), .second, .val (.int (-s0))]) rfl ?_
        exact Steps.refl _
    obtain ⟨E6, hE6⟩ : ∃ z : Nat, z = E5 - 32 * b5 := ⟨_, rfl⟩
    obtain ⟨d6, hd6, c20⟩ : ∃ d6 : UInt64, DV d6 1 E6 ∧ Steps p.tables e below S0 (s₁.setTop (mkF m 217 #[.val (.int s0), .val (.double d6), .second, .val (.int (-s0))] [])) := by
      by_cases hbt : b5 = 0
      · have hd : DV d5 1 E6 := by
          rw [show E6 = E5 by omega]; exact hd5
        refine ⟨_, hd, c19.trans ?_⟩
        show Steps p.tables e below (s₁.setTop (mkF m 204 #[.val (.int s0), .val (.double d5), .second, .val (.int (-s0))] [])) _
        refine XS.iloadN X0.here hx rfl (hb hby d3_204) rfl ?_
        show Steps p.tables e below (s₁.setTop (mkF m 205 #[.val (.int s0), .val (.double d5), .second, .val (.int (-s0))] [(.int (-s0))])) _
        refine XS.bipush X0.here hx rfl (hb hby d3_205) ?_
        show Steps p.tables e below (s₁.setTop (mkF m 207 #[.val (.int s0), .val (.double d5), .second, .val (.int (-s0))] [(.int (32 : Int32)), (.int (-s0))])) _
        refine XS.iand X0.here hx rfl (hb hby d3_207) rfl ?_
        show Steps p.tables e below (s₁.setTop (mkF m 208 #[.val (.int s0), .val (.double d5), .second, .val (.int (-s0))] [(.int ((-s0) &&& (32 : Int32)))])) _
        refine XS.ifYes X0.here hx rfl (pc0 := 208) (pc' := 217) rfl (hb hby d3_208) rfl ((if0 _ _).trans (teq ((hbit.2.2.2.2.2.1).mpr hbt)).1) (by decide) (by decide) ?_
        exact Steps.refl _
      · have hd : DV (FP.dmul d5 (4463067230724161536 : UInt64)) 1 E6 := by
          have := dmul_v 0 E6 hd5 own_c1042 (by omega) (by decide) (by omega) (by omega)
          rwa [Int.mul_one] at this
        refine ⟨_, hd, c19.trans ?_⟩
        show Steps p.tables e below (s₁.setTop (mkF m 204 #[.val (.int s0), .val (.double d5), .second, .val (.int (-s0))] [])) _
        refine XS.iloadN X0.here hx rfl (hb hby d3_204) rfl ?_
        show Steps p.tables e below (s₁.setTop (mkF m 205 #[.val (.int s0), .val (.double d5), .second, .val (.int (-s0))] [(.int (-s0))])) _
        refine XS.bipush X0.here hx rfl (hb hby d3_205) ?_
        show Steps p.tables e below (s₁.setTop (mkF m 207 #[.val (.int s0), .val (.double d5), .second, .val (.int (-s0))] [(.int (32 : Int32)), (.int (-s0))])) _
        refine XS.iand X0.here hx rfl (hb hby d3_207) rfl ?_
        show Steps p.tables e below (s₁.setTop (mkF m 208 #[.val (.int s0), .val (.double d5), .second, .val (.int (-s0))] [(.int ((-s0) &&& (32 : Int32)))])) _
        refine XS.ifNo X0.here hx rfl (hb hby d3_208) rfl ((if0 _ _).trans (feq (fun q => hbt ((hbit.2.2.2.2.2.1).mp q))).1) ?_
        show Steps p.tables e below (s₁.setTop (mkF m 211 #[.val (.int s0), .val (.double d5), .second, .val (.int (-s0))] [])) _
        refine XS.dloadN X0.here hx rfl (hb hby d3_211) rfl ?_
        show Steps p.tables e below (s₁.setTop (mkF m 212 #[.val (.int s0), .val (.double d5), .second, .val (.int (-s0))] [(.double d5)])) _
        refine X0.ldc2DoubleC hx hown (mvT hZ (hw _ (List.mem_of_getElem? (i := 9) rfl))) (g := (mkF m 212 #[.val (.int s0), .val (.double d5), .second, .val (.int (-s0))] [(.double d5)])) rfl (hb hby d3_212) _ ?_
        show Steps p.tables e below (s₁.setTop (mkF m 215 #[.val (.int s0), .val (.double d5), .second, .val (.int (-s0))] [(.double (4463067230724161536 : UInt64)), (.double d5)])) _
        refine XS.dmulS X0.here hx rfl (v := (FP.dmul d5 (4463067230724161536 : UInt64))) (hb hby d3_215) rfl hd.noNaN rfl ?_
        show Steps p.tables e below (s₁.setTop (mkF m 216 #[.val (.int s0), .val (.double d5), .second, .val (.int (-s0))] [(.double (FP.dmul d5 (4463067230724161536 : UInt64)))])) _
        refine XS.dstoreN X0.here hx rfl (hb hby d3_216) rfl (l' := #[.val (.int s0), .val (.double (FP.dmul d5 (4463067230724161536 : UInt64))), .second, .val (.int (-s0))]) rfl ?_
        exact Steps.refl _
    obtain ⟨E7, hE7⟩ : ∃ z : Nat, z = E6 - 64 * b6 := ⟨_, rfl⟩
    obtain ⟨d7, hd7, c21⟩ : ∃ d7 : UInt64, DV d7 1 E7 ∧ Steps p.tables e below S0 (s₁.setTop (mkF m 230 #[.val (.int s0), .val (.double d7), .second, .val (.int (-s0))] [])) := by
      by_cases hbt : b6 = 0
      · have hd : DV d6 1 E7 := by
          rw [show E7 = E6 by omega]; exact hd6
        refine ⟨_, hd, c20.trans ?_⟩
        show Steps p.tables e below (s₁.setTop (mkF m 217 #[.val (.int s0), .val (.double d6), .second, .val (.int (-s0))] [])) _
        refine XS.iloadN X0.here hx rfl (hb hby d3_217) rfl ?_
        show Steps p.tables e below (s₁.setTop (mkF m 218 #[.val (.int s0), .val (.double d6), .second, .val (.int (-s0))] [(.int (-s0))])) _
        refine XS.bipush X0.here hx rfl (hb hby d3_218) ?_
        show Steps p.tables e below (s₁.setTop (mkF m 220 #[.val (.int s0), .val (.double d6), .second, .val (.int (-s0))] [(.int (64 : Int32)), (.int (-s0))])) _
        refine XS.iand X0.here hx rfl (hb hby d3_220) rfl ?_
        show Steps p.tables e below (s₁.setTop (mkF m 221 #[.val (.int s0), .val (.double d6), .second, .val (.int (-s0))] [(.int ((-s0) &&& (64 : Int32)))])) _
        refine XS.ifYes X0.here hx rfl (pc0 := 221) (pc' := 230) rfl (hb hby d3_221) rfl ((if0 _ _).trans (teq ((hbit.2.2.2.2.2.2.1).mpr hbt)).1) (by decide) (by decide) ?_
        exact Steps.refl _
      · have hd : DV (FP.dmul d6 (4318952042648305664 : UInt64)) 1 E7 := by
          have := dmul_v 0 E7 hd6 own_c1010 (by omega) (by decide) (by omega) (by omega)
          rwa [Int.mul_one] at this
        refine ⟨_, hd, c20.trans ?_⟩
        show Steps p.tables e below (s₁.setTop (mkF m 217 #[.val (.int s0), .val (.double d6), .second, .val (.int (-s0))] [])) _
        refine XS.iloadN X0.here hx rfl (hb hby d3_217) rfl ?_
        show Steps p.tables e below (s₁.setTop (mkF m 218 #[.val (.int s0), .val (.double d6), .second, .val (.int (-s0))] [(.int (-s0))])) _
        refine XS.bipush X0.here hx rfl (hb hby d3_218) ?_
        show Steps p.tables e below (s₁.setTop (mkF m 220 #[.val (.int s0), .val (.double d6), .second, .val (.int (-s0))] [(.int (64 : Int32)), (.int (-s0))])) _
        refine XS.iand X0.here hx rfl (hb hby d3_220) rfl ?_
        show Steps p.tables e below (s₁.setTop (mkF m 221 #[.val (.int s0), .val (.double d6), .second, .val (.int (-s0))] [(.int ((-s0) &&& (64 : Int32)))])) _
        refine XS.ifNo X0.here hx rfl (hb hby d3_221) rfl ((if0 _ _).trans (feq (fun q => hbt ((hbit.2.2.2.2.2.2.1).mp q))).1) ?_
        show Steps p.tables e below (s₁.setTop (mkF m 224 #[.val (.int s0), .val (.double d6), .second, .val (.int (-s0))] [])) _
        refine XS.dloadN X0.here hx rfl (hb hby d3_224) rfl ?_
        show Steps p.tables e below (s₁.setTop (mkF m 225 #[.val (.int s0), .val (.double d6), .second, .val (.int (-s0))] [(.double d6)])) _
        refine X0.ldc2DoubleC hx hown (mvT hZ (hw _ (List.mem_of_getElem? (i := 18) rfl))) (g := (mkF m 225 #[.val (.int s0), .val (.double d6), .second, .val (.int (-s0))] [(.double d6)])) rfl (hb hby d3_225) _ ?_
        show Steps p.tables e below (s₁.setTop (mkF m 228 #[.val (.int s0), .val (.double d6), .second, .val (.int (-s0))] [(.double (4318952042648305664 : UInt64)), (.double d6)])) _
        refine XS.dmulS X0.here hx rfl (v := (FP.dmul d6 (4318952042648305664 : UInt64))) (hb hby d3_228) rfl hd.noNaN rfl ?_
        show Steps p.tables e below (s₁.setTop (mkF m 229 #[.val (.int s0), .val (.double d6), .second, .val (.int (-s0))] [(.double (FP.dmul d6 (4318952042648305664 : UInt64)))])) _
        refine XS.dstoreN X0.here hx rfl (hb hby d3_229) rfl (l' := #[.val (.int s0), .val (.double (FP.dmul d6 (4318952042648305664 : UInt64))), .second, .val (.int (-s0))]) rfl ?_
        exact Steps.refl _
    obtain ⟨E8, hE8⟩ : ∃ z : Nat, z = E7 - 128 * b7 := ⟨_, rfl⟩
    obtain ⟨d8, hd8, c22⟩ : ∃ d8 : UInt64, DV d8 1 E8 ∧ Steps p.tables e below S0 (s₁.setTop (mkF m 244 #[.val (.int s0), .val (.double d8), .second, .val (.int (-s0))] [])) := by
      by_cases hbt : b7 = 0
      · have hd : DV d7 1 E8 := by
          rw [show E8 = E7 by omega]; exact hd7
        refine ⟨_, hd, c21.trans ?_⟩
        show Steps p.tables e below (s₁.setTop (mkF m 230 #[.val (.int s0), .val (.double d7), .second, .val (.int (-s0))] [])) _
        refine XS.iloadN X0.here hx rfl (hb hby d3_230) rfl ?_
        show Steps p.tables e below (s₁.setTop (mkF m 231 #[.val (.int s0), .val (.double d7), .second, .val (.int (-s0))] [(.int (-s0))])) _
        refine XS.sipush X0.here hx rfl (hb hby d3_231) ?_
        show Steps p.tables e below (s₁.setTop (mkF m 234 #[.val (.int s0), .val (.double d7), .second, .val (.int (-s0))] [(.int (128 : Int32)), (.int (-s0))])) _
        refine XS.iand X0.here hx rfl (hb hby d3_234) rfl ?_
        show Steps p.tables e below (s₁.setTop (mkF m 235 #[.val (.int s0), .val (.double d7), .second, .val (.int (-s0))] [(.int ((-s0) &&& (128 : Int32)))])) _
        refine XS.ifYes X0.here hx rfl (pc0 := 235) (pc' := 244) rfl (hb hby d3_235) rfl ((if0 _ _).trans (teq ((hbit.2.2.2.2.2.2.2.1).mpr hbt)).1) (by decide) (by decide) ?_
        exact Steps.refl _
      · have hd : DV (FP.dmul d7 (4030721666496593920 : UInt64)) 1 E8 := by
          have := dmul_v 0 E8 hd7 own_c946 (by omega) (by decide) (by omega) (by omega)
          rwa [Int.mul_one] at this
        refine ⟨_, hd, c21.trans ?_⟩
        show Steps p.tables e below (s₁.setTop (mkF m 230 #[.val (.int s0), .val (.double d7), .second, .val (.int (-s0))] [])) _
        refine XS.iloadN X0.here hx rfl (hb hby d3_230) rfl ?_
        show Steps p.tables e below (s₁.setTop (mkF m 231 #[.val (.int s0), .val (.double d7), .second, .val (.int (-s0))] [(.int (-s0))])) _
        refine XS.sipush X0.here hx rfl (hb hby d3_231) ?_
        show Steps p.tables e below (s₁.setTop (mkF m 234 #[.val (.int s0), .val (.double d7), .second, .val (.int (-s0))] [(.int (128 : Int32)), (.int (-s0))])) _
        refine XS.iand X0.here hx rfl (hb hby d3_234) rfl ?_
        show Steps p.tables e below (s₁.setTop (mkF m 235 #[.val (.int s0), .val (.double d7), .second, .val (.int (-s0))] [(.int ((-s0) &&& (128 : Int32)))])) _
        refine XS.ifNo X0.here hx rfl (hb hby d3_235) rfl ((if0 _ _).trans (feq (fun q => hbt ((hbit.2.2.2.2.2.2.2.1).mp q))).1) ?_
        show Steps p.tables e below (s₁.setTop (mkF m 238 #[.val (.int s0), .val (.double d7), .second, .val (.int (-s0))] [])) _
        refine XS.dloadN X0.here hx rfl (hb hby d3_238) rfl ?_
        show Steps p.tables e below (s₁.setTop (mkF m 239 #[.val (.int s0), .val (.double d7), .second, .val (.int (-s0))] [(.double d7)])) _
        refine X0.ldc2DoubleC hx hown (mvT hZ (hw _ (List.mem_of_getElem? (i := 19) rfl))) (g := (mkF m 239 #[.val (.int s0), .val (.double d7), .second, .val (.int (-s0))] [(.double d7)])) rfl (hb hby d3_239) _ ?_
        show Steps p.tables e below (s₁.setTop (mkF m 242 #[.val (.int s0), .val (.double d7), .second, .val (.int (-s0))] [(.double (4030721666496593920 : UInt64)), (.double d7)])) _
        refine XS.dmulS X0.here hx rfl (v := (FP.dmul d7 (4030721666496593920 : UInt64))) (hb hby d3_242) rfl hd.noNaN rfl ?_
        show Steps p.tables e below (s₁.setTop (mkF m 243 #[.val (.int s0), .val (.double d7), .second, .val (.int (-s0))] [(.double (FP.dmul d7 (4030721666496593920 : UInt64)))])) _
        refine XS.dstoreN X0.here hx rfl (hb hby d3_243) rfl (l' := #[.val (.int s0), .val (.double (FP.dmul d7 (4030721666496593920 : UInt64))), .second, .val (.int (-s0))]) rfl ?_
        exact Steps.refl _
    obtain ⟨E9, hE9⟩ : ∃ z : Nat, z = E8 - 256 * b8 := ⟨_, rfl⟩
    obtain ⟨d9, hd9, c23⟩ : ∃ d9 : UInt64, DV d9 1 E9 ∧ Steps p.tables e below S0 (s₁.setTop (mkF m 258 #[.val (.int s0), .val (.double d9), .second, .val (.int (-s0))] [])) := by
      by_cases hbt : b8 = 0
      · have hd : DV d8 1 E9 := by
          rw [show E9 = E8 by omega]; exact hd8
        refine ⟨_, hd, c22.trans ?_⟩
        show Steps p.tables e below (s₁.setTop (mkF m 244 #[.val (.int s0), .val (.double d8), .second, .val (.int (-s0))] [])) _
        refine XS.iloadN X0.here hx rfl (hb hby d3_244) rfl ?_
        show Steps p.tables e below (s₁.setTop (mkF m 245 #[.val (.int s0), .val (.double d8), .second, .val (.int (-s0))] [(.int (-s0))])) _
        refine XS.sipush X0.here hx rfl (hb hby d3_245) ?_
        show Steps p.tables e below (s₁.setTop (mkF m 248 #[.val (.int s0), .val (.double d8), .second, .val (.int (-s0))] [(.int (256 : Int32)), (.int (-s0))])) _
        refine XS.iand X0.here hx rfl (hb hby d3_248) rfl ?_
        show Steps p.tables e below (s₁.setTop (mkF m 249 #[.val (.int s0), .val (.double d8), .second, .val (.int (-s0))] [(.int ((-s0) &&& (256 : Int32)))])) _
        refine XS.ifYes X0.here hx rfl (pc0 := 249) (pc' := 258) rfl (hb hby d3_249) rfl ((if0 _ _).trans (teq ((hbit.2.2.2.2.2.2.2.2.1).mpr hbt)).1) (by decide) (by decide) ?_
        exact Steps.refl _
      · have hd : DV (FP.dmul d8 (3454260914193170432 : UInt64)) 1 E9 := by
          have := dmul_v 0 E9 hd8 own_c818 (by omega) (by decide) (by omega) (by omega)
          rwa [Int.mul_one] at this
        refine ⟨_, hd, c22.trans ?_⟩
        show Steps p.tables e below (s₁.setTop (mkF m 244 #[.val (.int s0), .val (.double d8), .second, .val (.int (-s0))] [])) _
        refine XS.iloadN X0.here hx rfl (hb hby d3_244) rfl ?_
        show Steps p.tables e below (s₁.setTop (mkF m 245 #[.val (.int s0), .val (.double d8), .second, .val (.int (-s0))] [(.int (-s0))])) _
        refine XS.sipush X0.here hx rfl (hb hby d3_245) ?_
        show Steps p.tables e below (s₁.setTop (mkF m 248 #[.val (.int s0), .val (.double d8), .second, .val (.int (-s0))] [(.int (256 : Int32)), (.int (-s0))])) _
        refine XS.iand X0.here hx rfl (hb hby d3_248) rfl ?_
        show Steps p.tables e below (s₁.setTop (mkF m 249 #[.val (.int s0), .val (.double d8), .second, .val (.int (-s0))] [(.int ((-s0) &&& (256 : Int32)))])) _
        refine XS.ifNo X0.here hx rfl (hb hby d3_249) rfl ((if0 _ _).trans (feq (fun q => hbt ((hbit.2.2.2.2.2.2.2.2.1).mp q))).1) ?_
        show Steps p.tables e below (s₁.setTop (mkF m 252 #[.val (.int s0), .val (.double d8), .second, .val (.int (-s0))] [])) _
        refine XS.dloadN X0.here hx rfl (hb hby d3_252) rfl ?_
        show Steps p.tables e below (s₁.setTop (mkF m 253 #[.val (.int s0), .val (.double d8), .second, .val (.int (-s0))] [(.double d8)])) _
        refine X0.ldc2DoubleC hx hown (mvT hZ (hw _ (List.mem_of_getElem? (i := 20) rfl))) (g := (mkF m 253 #[.val (.int s0), .val (.double d8), .second, .val (.int (-s0))] [(.double d8)])) rfl (hb hby d3_253) _ ?_
        show Steps p.tables e below (s₁.setTop (mkF m 256 #[.val (.int s0), .val (.double d8), .second, .val (.int (-s0))] [(.double (3454260914193170432 : UInt64)), (.double d8)])) _
        refine XS.dmulS X0.here hx rfl (v := (FP.dmul d8 (3454260914193170432 : UInt64))) (hb hby d3_256) rfl hd.noNaN rfl ?_
        show Steps p.tables e below (s₁.setTop (mkF m 257 #[.val (.int s0), .val (.double d8), .second, .val (.int (-s0))] [(.double (FP.dmul d8 (3454260914193170432 : UInt64)))])) _
        refine XS.dstoreN X0.here hx rfl (hb hby d3_257) rfl (l' := #[.val (.int s0), .val (.double (FP.dmul d8 (3454260914193170432 : UInt64))), .second, .val (.int (-s0))]) rfl ?_
        exact Steps.refl _
    obtain ⟨E10, hE10⟩ : ∃ z : Nat, z = E9 - 512 * b9 := ⟨_, rfl⟩
    obtain ⟨d10, hd10, c24⟩ : ∃ d10 : UInt64, DV d10 1 E10 ∧ Steps p.tables e below S0 (s₁.setTop (mkF m 272 #[.val (.int s0), .val (.double d10), .second, .val (.int (-s0))] [])) := by
      by_cases hbt : b9 = 0
      · have hd : DV d9 1 E10 := by
          rw [show E10 = E9 by omega]; exact hd9
        refine ⟨_, hd, c23.trans ?_⟩
        show Steps p.tables e below (s₁.setTop (mkF m 258 #[.val (.int s0), .val (.double d9), .second, .val (.int (-s0))] [])) _
        refine XS.iloadN X0.here hx rfl (hb hby d3_258) rfl ?_
        show Steps p.tables e below (s₁.setTop (mkF m 259 #[.val (.int s0), .val (.double d9), .second, .val (.int (-s0))] [(.int (-s0))])) _
        refine XS.sipush X0.here hx rfl (hb hby d3_259) ?_
        show Steps p.tables e below (s₁.setTop (mkF m 262 #[.val (.int s0), .val (.double d9), .second, .val (.int (-s0))] [(.int (512 : Int32)), (.int (-s0))])) _
        refine XS.iand X0.here hx rfl (hb hby d3_262) rfl ?_
        show Steps p.tables e below (s₁.setTop (mkF m 263 #[.val (.int s0), .val (.double d9), .second, .val (.int (-s0))] [(.int ((-s0) &&& (512 : Int32)))])) _
        refine XS.ifYes X0.here hx rfl (pc0 := 263) (pc' := 272) rfl (hb hby d3_263) rfl ((if0 _ _).trans (teq ((hbit.2.2.2.2.2.2.2.2.2.1).mpr hbt)).1) (by decide) (by decide) ?_
        exact Steps.refl _
      · have hd : DV (FP.dmul d9 (2301339409586323456 : UInt64)) 1 E10 := by
          have := dmul_v 0 E10 hd9 own_c562 (by omega) (by decide) (by omega) (by omega)
          rwa [Int.mul_one] at this
        refine ⟨_, hd, c23.trans ?_⟩
        show Steps p.tables e below (s₁.setTop (mkF m 258 #[.val (.int s0), .val (.double d9), .second, .val (.int (-s0))] [])) _
        refine XS.iloadN X0.here hx rfl (hb hby d3_258) rfl ?_
        show Steps p.tables e below (s₁.setTop (mkF m 259 #[.val (.int s0), .val (.double d9), .second, .val (.int (-s0))] [(.int (-s0))])) _
        refine XS.sipush X0.here hx rfl (hb hby d3_259) ?_
        show Steps p.tables e below (s₁.setTop (mkF m 262 #[.val (.int s0), .val (.double d9), .second, .val (.int (-s0))] [(.int (512 : Int32)), (.int (-s0))])) _
        refine XS.iand X0.here hx rfl (hb hby d3_262) rfl ?_
        show Steps p.tables e below (s₁.setTop (mkF m 263 #[.val (.int s0), .val (.double d9), .second, .val (.int (-s0))] [(.int ((-s0) &&& (512 : Int32)))])) _
        refine XS.ifNo X0.here hx rfl (hb hby d3_263) rfl ((if0 _ _).trans (feq (fun q => hbt ((hbit.2.2.2.2.2.2.2.2.2.1).mp q))).1) ?_
        show Steps p.tables e below (s₁.setTop (mkF m 266 #[.val (.int s0), .val (.double d9), .second, .val (.int (-s0))] [])) _
        refine XS.dloadN X0.here hx rfl (hb hby d3_266) rfl ?_
        show Steps p.tables e below (s₁.setTop (mkF m 267 #[.val (.int s0), .val (.double d9), .second, .val (.int (-s0))] [(.double d9)])) _
        refine X0.ldc2DoubleC hx hown (mvT hZ (hw _ (List.mem_of_getElem? (i := 21) rfl))) (g := (mkF m 267 #[.val (.int s0), .val (.double d9), .second, .val (.int (-s0))] [(.double d9)])) rfl (hb hby d3_267) _ ?_
        show Steps p.tables e below (s₁.setTop (mkF m 270 #[.val (.int s0), .val (.double d9), .second, .val (.int (-s0))] [(.double (2301339409586323456 : UInt64)), (.double d9)])) _
        refine XS.dmulS X0.here hx rfl (v := (FP.dmul d9 (2301339409586323456 : UInt64))) (hb hby d3_270) rfl hd.noNaN rfl ?_
        show Steps p.tables e below (s₁.setTop (mkF m 271 #[.val (.int s0), .val (.double d9), .second, .val (.int (-s0))] [(.double (FP.dmul d9 (2301339409586323456 : UInt64)))])) _
        refine XS.dstoreN X0.here hx rfl (hb hby d3_271) rfl (l' := #[.val (.int s0), .val (.double (FP.dmul d9 (2301339409586323456 : UInt64))), .second, .val (.int (-s0))]) rfl ?_
        exact Steps.refl _
    obtain ⟨E11, hE11⟩ : ∃ z : Nat, z = E10 - 1024 * b10 := ⟨_, rfl⟩
    obtain ⟨d11, hd11, c25⟩ : ∃ d11 : UInt64, DV d11 1 E11 ∧ Steps p.tables e below S0 (s₁.setTop (mkF m 286 #[.val (.int s0), .val (.double d11), .second, .val (.int (-s0))] [])) := by
      by_cases hbt : b10 = 0
      · have hd : DV d10 1 E11 := by
          rw [show E11 = E10 by omega]; exact hd10
        refine ⟨_, hd, c24.trans ?_⟩
        show Steps p.tables e below (s₁.setTop (mkF m 272 #[.val (.int s0), .val (.double d10), .second, .val (.int (-s0))] [])) _
        refine XS.iloadN X0.here hx rfl (hb hby d3_272) rfl ?_
        show Steps p.tables e below (s₁.setTop (mkF m 273 #[.val (.int s0), .val (.double d10), .second, .val (.int (-s0))] [(.int (-s0))])) _
        refine XS.sipush X0.here hx rfl (hb hby d3_273) ?_
        show Steps p.tables e below (s₁.setTop (mkF m 276 #[.val (.int s0), .val (.double d10), .second, .val (.int (-s0))] [(.int (1024 : Int32)), (.int (-s0))])) _
        refine XS.iand X0.here hx rfl (hb hby d3_276) rfl ?_
        show Steps p.tables e below (s₁.setTop (mkF m 277 #[.val (.int s0), .val (.double d10), .second, .val (.int (-s0))] [(.int ((-s0) &&& (1024 : Int32)))])) _
        refine XS.ifYes X0.here hx rfl (pc0 := 277) (pc' := 286) rfl (hb hby d3_277) rfl ((if0 _ _).trans (teq ((hbit.2.2.2.2.2.2.2.2.2.2).mpr hbt)).1) (by decide) (by decide) ?_
        exact Steps.refl _
      · have hd : DV (FP.dmul d10 (1125899906842624 : UInt64)) 1 E11 := by
          have := dmul_v 0 E11 hd10 own_c50 (by omega) (by decide) (by omega) (by omega)
          rwa [Int.mul_one] at this
        refine ⟨_, hd, c24.trans ?_⟩
        show Steps p.tables e below (s₁.setTop (mkF m 272 #[.val (.int s0), .val (.double d10), .second, .val (.int (-s0))] [])) _
        refine XS.iloadN X0.here hx rfl (hb hby d3_272) rfl ?_
        show Steps p.tables e below (s₁.setTop (mkF m 273 #[.val (.int s0), .val (.double d10), .second, .val (.int (-s0))] [(.int (-s0))])) _
        refine XS.sipush X0.here hx rfl (hb hby d3_273) ?_
        show Steps p.tables e below (s₁.setTop (mkF m 276 #[.val (.int s0), .val (.double d10), .second, .val (.int (-s0))] [(.int (1024 : Int32)), (.int (-s0))])) _
        refine XS.iand X0.here hx rfl (hb hby d3_276) rfl ?_
        show Steps p.tables e below (s₁.setTop (mkF m 277 #[.val (.int s0), .val (.double d10), .second, .val (.int (-s0))] [(.int ((-s0) &&& (1024 : Int32)))])) _
        refine XS.ifNo X0.here hx rfl (hb hby d3_277) rfl ((if0 _ _).trans (feq (fun q => hbt ((hbit.2.2.2.2.2.2.2.2.2.2).mp q))).1) ?_
        show Steps p.tables e below (s₁.setTop (mkF m 280 #[.val (.int s0), .val (.double d10), .second, .val (.int (-s0))] [])) _
        refine XS.dloadN X0.here hx rfl (hb hby d3_280) rfl ?_
        show Steps p.tables e below (s₁.setTop (mkF m 281 #[.val (.int s0), .val (.double d10), .second, .val (.int (-s0))] [(.double d10)])) _
        refine X0.ldc2DoubleC hx hown (mvT hZ (hw _ (List.mem_of_getElem? (i := 10) rfl))) (g := (mkF m 281 #[.val (.int s0), .val (.double d10), .second, .val (.int (-s0))] [(.double d10)])) rfl (hb hby d3_281) _ ?_
        show Steps p.tables e below (s₁.setTop (mkF m 284 #[.val (.int s0), .val (.double d10), .second, .val (.int (-s0))] [(.double (1125899906842624 : UInt64)), (.double d10)])) _
        refine XS.dmulS X0.here hx rfl (v := (FP.dmul d10 (1125899906842624 : UInt64))) (hb hby d3_284) rfl hd.noNaN rfl ?_
        show Steps p.tables e below (s₁.setTop (mkF m 285 #[.val (.int s0), .val (.double d10), .second, .val (.int (-s0))] [(.double (FP.dmul d10 (1125899906842624 : UInt64)))])) _
        refine XS.dstoreN X0.here hx rfl (hb hby d3_285) rfl (l' := #[.val (.int s0), .val (.double (FP.dmul d10 (1125899906842624 : UInt64))), .second, .val (.int (-s0))]) rfl ?_
        exact Steps.refl _
    have c26 : Steps p.tables e below S0 (s₁.setTop (mkF m 287 #[.val (.int s0), .val (.double d11), .second, .val (.int (-s0))] [(.double d11)])) := by
      refine c25.trans ?_
      show Steps p.tables e below (s₁.setTop (mkF m 286 #[.val (.int s0), .val (.double d11), .second, .val (.int (-s0))] [])) _
      refine XS.dloadN X0.here hx rfl (hb hby d3_286) rfl ?_
      exact Steps.refl _
    obtain ⟨fs, hr, hrun, hended, hW, hsame⟩ := X0.leave (v := some (.double d11)) (fun h => by rw [Bd.returns] at h; cases h)
    refine ⟨_, _, c26.trans ?_, hrun, hended, _, _, rfl, ?_, ⟨_, rfl⟩, hW, hsame.mono (by decide) (by decide)⟩
    · show Steps p.tables e below (s₁.setTop (mkF m 287 #[.val (.int s0), .val (.double d11), .second, .val (.int (-s0))] [(.double d11)])) _
      exact retD X0 hx Bd.returns (hb hby d3_287) hr
    · show Q3 Z s0 E h0 n0 _ s₁.heap _
      rw [e0]
      exact ⟨⟨_, rfl, by rw [show E = E11 by omega]; exact hd11⟩, N0, rfl⟩
def Q34 (Z : State) (x : UInt64) (y : UInt64) (h0 : Heap) (n0 : Nat) (v : Option Value) (h : Heap) (L : List Loc) : Prop := v = some (.int (if (cmpValue (FP.dcmp (FP.dmul x y) (283726776524341248 : UInt64)) .g) < 0 then 1 else 0)) ∧ Fr n0 L ∧ h = h0
theorem ef34 (m : MethodId) (x : UInt64) (y : UInt64) : entryFrame m #[(.double x), (.double y)] 4 = mkF m 0 #[.val (.double x), .second, .val (.double y), .second] [] := by first | (simp [entryFrame, mkF, argsToLocals, Value.category, List.replicate]; done) | rfl
set_option maxRecDepth 65536 in
set_option maxHeartbeats 40000000 in
theorem rm34 (l : Launch) (Z : State) (a0 : Array Value) (hw : ∀ d ∈ tables_1, d.before a0 Z = true) (ws : List Jvm.Cond) (x : UInt64) (y : UInt64) (h0 : Heap) (n0 : Nat) (Z0 : n0 ≤ h0.size) (hnn : Jvm.Free.Fl.NoNaN64 (FP.dmul x y)) :
    MetFree l (⟨"com/example/tight_reach/tightreach/RoundedProducts", "mayUnderflow", "(DD)Z"⟩ : MethodName) (head1 (Jvm.Cond.code (⟨"com/example/tight_reach/tightreach/RoundedProducts", "mayUnderflow", "(DD)Z"⟩ : MethodName) prog_34_method_10_code 4 (some .boolean) :: ws) ({ frames := 0, cells := 0, slots := 0, locals := 0 } : Room)) (fun aa UU => aa = #[(.double x), (.double y)] ∧ Z.Warmed39 UU.vm ∧ UU.heap = h0) (fun _ _ _ _ _ => True) (fun _ UU oo UT => ∃ vv LL, oo = .returned vv ∧ Q34 Z x y h0 n0 vv UT.heap LL ∧ FrameEnd UU oo UT LL ({ frames := 0, cells := 0, slots := 0, locals := 0 } : Room).cells ({ frames := 0, cells := 0, slots := 0, locals := 0 } : Room).slots) := by
  refine MetFree.of_bodySF (plainFor_of_name pn1) hisR ?_
  intro p e s m args below meth c s₁ Bd hml0 hP hK
  obtain ⟨rfl, hZ, hh⟩ := hP
  have hx := Bd.exec
  have hby := Bd.bytes
  have hml : c.maxLocals = 4 := hml0
  have hown : s.vm.findClass "com/example/tight_reach/tightreach/RoundedProducts" = some m.cls := findClass_of_methodNamed Bd.named
  have hnm := (name_of_methodNamed Bd.named Bd.method).1
  have X0 : Stand p l e ({ frames := 0, cells := 0, slots := 0, locals := 0 } : Room) s m #[(.double x), (.double y)] below meth c s₁ [] 0 0 := Stand.of_body Bd
  have e0 : s₁.heap = h0 := by rw [← hh, Bd.state]; rfl
  have N0 := Fr.nil n0
  have c0 : Steps p.tables e below (s₁.setTop (entryFrame m #[(.double x), (.double y)] 4)) (s₁.setTop (mkF m 0 #[.val (.double x), .second, .val (.double y), .second] [])) := castTop (ef34 m x y) (Steps.refl _)
  show ∃ s₂ oo, Steps p.tables e below (s₁.setTop (entryFrame m #[(.double x), (.double y)] 4)) s₂ ∧ _ ∧ _ ∧ _
  generalize s₁.setTop (entryFrame m #[(.double x), (.double y)] 4) = S0 at c0 ⊢
  have c1 : Steps p.tables e below S0 (s₁.setTop (mkF m 7 #[.val (.double x), .second, .val (.double y), .second] [(.int (cmpValue (FP.dcmp (FP.dmul x y) (283726776524341248 : UInt64)) .g))])) := by
    refine c0.trans ?_
    show Steps p.tables e below (s₁.setTop (mkF m 0 #[.val (.double x), .second, .val (.double y), .second] [])) _
    refine XS.dloadN X0.here hx rfl (hb hby d34_0) rfl ?_
    show Steps p.tables e below (s₁.setTop (mkF m 1 #[.val (.double x), .second, .val (.double y), .second] [(.double x)])) _
    refine XS.dloadN X0.here hx rfl (hb hby d34_1) rfl ?_
    show Steps p.tables e below (s₁.setTop (mkF m 2 #[.val (.double x), .second, .val (.double y), .second] [(.double y), (.double x)])) _
    refine XS.dmulS X0.here hx rfl (v := (FP.dmul x y)) (hb hby d34_2) rfl hnn rfl ?_
    show Steps p.tables e below (s₁.setTop (mkF m 3 #[.val (.double x), .second, .val (.double y), .second] [(.double (FP.dmul x y))])) _
    refine X0.ldc2DoubleC hx hown (mvT hZ (hw _ (List.mem_of_getElem? (i := 16) rfl))) (g := (mkF m 3 #[.val (.double x), .second, .val (.double y), .second] [(.double (FP.dmul x y))])) rfl (hb hby d34_3) _ ?_
    show Steps p.tables e below (s₁.setTop (mkF m 6 #[.val (.double x), .second, .val (.double y), .second] [(.double (283726776524341248 : UInt64)), (.double (FP.dmul x y))])) _
    refine XS.dcmpS X0.here hx rfl (v := (cmpValue (FP.dcmp (FP.dmul x y) (283726776524341248 : UInt64)) .g)) (hb hby d34_6) rfl rfl ?_
    exact Steps.refl _
  by_cases hlt : (cmpValue (FP.dcmp (FP.dmul x y) (283726776524341248 : UInt64)) .g) < 0
  · have c2 : Steps p.tables e below S0 (s₁.setTop (mkF m 15 #[.val (.double x), .second, .val (.double y), .second] [(.int (1 : Int32))])) := by
      refine c1.trans ?_
      show Steps p.tables e below (s₁.setTop (mkF m 7 #[.val (.double x), .second, .val (.double y), .second] [(.int (cmpValue (FP.dcmp (FP.dmul x y) (283726776524341248 : UInt64)) .g))])) _
      refine XS.ifNo X0.here hx rfl (hb hby d34_7) rfl ((if0 _ _).trans (tlt hlt).2.1) ?_
      show Steps p.tables e below (s₁.setTop (mkF m 10 #[.val (.double x), .second, .val (.double y), .second] [])) _
      refine XS.iconst X0.here hx rfl (hb hby d34_10) ?_
      show Steps p.tables e below (s₁.setTop (mkF m 11 #[.val (.double x), .second, .val (.double y), .second] [(.int (1 : Int32))])) _
      refine XS.goto X0.here hx rfl (pc0 := 11) (pc' := 15) rfl (hb hby d34_11) (by decide) (by decide) ?_
      exact Steps.refl _
    obtain ⟨fs, hr, hrun, hended, hW, hsame⟩ := X0.leave (v := some (.int 1)) (fun h => by rw [Bd.returns] at h; cases h)
    refine ⟨_, _, c2.trans ?_, hrun, hended, _, _, rfl, ?_, ⟨_, rfl⟩, hW, hsame.mono (by decide) (by decide)⟩
    · show Steps p.tables e below (s₁.setTop (mkF m 15 #[.val (.double x), .second, .val (.double y), .second] [(.int (1 : Int32))])) _
      exact retN X0 hx (t := .boolean) Bd.returns (by simp) (hb hby d34_15) hr
    · show Q34 Z x y h0 n0 _ s₁.heap _
      rw [e0]
      exact ⟨by rw [if_pos hlt], N0, rfl⟩
  · have c3 : Steps p.tables e below S0 (s₁.setTop (mkF m 14 #[.val (.double x), .second, .val (.double y), .second] [])) := by
      refine c1.trans ?_
      show Steps p.tables e below (s₁.setTop (mkF m 7 #[.val (.double x), .second, .val (.double y), .second] [(.int (cmpValue (FP.dcmp (FP.dmul x y) (283726776524341248 : UInt64)) .g))])) _
      refine XS.ifYes X0.here hx rfl (pc0 := 7) (pc' := 14) rfl (hb hby d34_7) rfl ((if0 _ _).trans (flt hlt).2.1) (by decide) (by decide) ?_
      exact Steps.refl _
    have c4 : Steps p.tables e below S0 (s₁.setTop (mkF m 15 #[.val (.double x), .second, .val (.double y), .second] [(.int (0 : Int32))])) := by
      refine c3.trans ?_
      show Steps p.tables e below (s₁.setTop (mkF m 14 #[.val (.double x), .second, .val (.double y), .second] [])) _
      refine XS.iconst X0.here hx rfl (hb hby d34_14) ?_
      exact Steps.refl _
    obtain ⟨fs, hr, hrun, hended, hW, hsame⟩ := X0.leave (v := some (.int 0)) (fun h => by rw [Bd.returns] at h; cases h)
    refine ⟨_, _, c4.trans ?_, hrun, hended, _, _, rfl, ?_, ⟨_, rfl⟩, hW, hsame.mono (by decide) (by decide)⟩
    · show Steps p.tables e below (s₁.setTop (mkF m 15 #[.val (.double x), .second, .val (.double y), .second] [(.int (0 : Int32))])) _
      exact retN X0 hx (t := .boolean) Bd.returns (by simp) (hb hby d34_15) hr
    · show Q34 Z x y h0 n0 _ s₁.heap _
      rw [e0]
      exact ⟨by rw [if_neg hlt], N0, rfl⟩
def Q0 (Z : State) (i0 : Int32) (i1 : Int32) (i2 : Int32) (i3 : Int32) (i4 : Int32) (h0 : Heap) (n0 : Nat) (v : Option Value) (h : Heap) (L : List Loc) : Prop := v = some (.int 1) ∧ Fr n0 L
theorem ef0 (m : MethodId) (i0 : Int32) (i1 : Int32) (i2 : Int32) (i3 : Int32) (i4 : Int32) : entryFrame m #[(.int i0), (.int i1), (.int i2), (.int i3), (.int i4)] maxLocals = mkF m 0 #[.val (.int i0), .val (.int i1), .val (.int i2), .val (.int i3), .val (.int i4), .unset, .unset, .unset, .unset, .unset, .unset, .unset, .unset, .unset, .unset, .unset, .unset, .unset, .unset, .unset] [] := by first | (simp [entryFrame, mkF, argsToLocals, Value.category, maxLocals]; done) | rfl
set_option maxRecDepth 65536 in
set_option maxHeartbeats 40000000 in
theorem rm0 (l : Launch) (Z : State) (a0 : Array Value) (hw : ∀ d ∈ tables_1, d.before a0 Z = true) (ws : List Jvm.Cond) (i0 : Int32) (i1 : Int32) (i2 : Int32) (i3 : Int32) (i4 : Int32) (h0 : Heap) (n0 : Nat) (Z0 : n0 ≤ h0.size)  :
    MetFree l x (head1 (Jvm.Cond.code x code maxLocals ret :: ws) room_1) (fun aa UU => aa = #[(.int i0), (.int i1), (.int i2), (.int i3), (.int i4)] ∧ Z.Warmed39 UU.vm ∧ UU.heap = h0) (fun _ _ _ _ _ => True) (fun _ UU oo UT => ∃ vv LL, oo = .returned vv ∧ Q0 Z i0 i1 i2 i3 i4 h0 n0 vv UT.heap LL ∧ FrameEnd UU oo UT LL 0 0) := by
  refine MetFree.of_bodySF (plainFor_of_name pn0) hisR ?_
  intro p e s m args below meth c s₁ Bd hml0 hP hK
  obtain ⟨rfl, hZ, hh⟩ := hP
  have hx := Bd.exec
  have hby := Bd.bytes
  have hml : c.maxLocals = 20 := hml0
  have hown : s.vm.findClass "com/example/tight_reach/tightreach/RoundedProductsMayUnderflowPinLaw" = some m.cls := findClass_of_methodNamed Bd.named
  have hnm := (name_of_methodNamed Bd.named Bd.method).1
  have X0 : Stand p l e room_1 s m #[(.int i0), (.int i1), (.int i2), (.int i3), (.int i4)] below meth c s₁ [] 0 0 := Stand.of_body Bd
  have e0 : s₁.heap = h0 := by rw [← hh, Bd.state]; rfl
  have N0 := Fr.nil n0
  have c0 : Steps p.tables e below (s₁.setTop (entryFrame m #[(.int i0), (.int i1), (.int i2), (.int i3), (.int i4)] maxLocals)) (s₁.setTop (mkF m 0 #[.val (.int i0), .val (.int i1), .val (.int i2), .val (.int i3), .val (.int i4), .unset, .unset, .unset, .unset, .unset, .unset, .unset, .unset, .unset, .unset, .unset, .unset, .unset, .unset, .unset] [])) := castTop (ef0 m i0 i1 i2 i3 i4) (Steps.refl _)
  show ∃ s₂ oo, Steps p.tables e below (s₁.setTop (entryFrame m #[(.int i0), (.int i1), (.int i2), (.int i3), (.int i4)] maxLocals)) s₂ ∧ _ ∧ _ ∧ _
  generalize s₁.setTop (entryFrame m #[(.int i0), (.int i1), (.int i2), (.int i3), (.int i4)] maxLocals) = S0 at c0 ⊢
  have c1 : Steps p.tables e below S0 (s₁.setTop (mkF m 50 #[.val (.int i0), .val (.int i1), .val (.int i2), .val (.int i3), .val (.int i4), .val (.long (((i0 &&& (1048575 : Int32)) + (1 : Int32)).toInt64)), .second, .val (.long (((i2 &&& (1048575 : Int32)) + (1 : Int32)).toInt64)), .second, .val (.int ((i1 &&& (2047 : Int32)) - (1074 : Int32))), .val (.int ((i3 &&& (2047 : Int32)) - (1074 : Int32))), .val (.int (i4 &&& (7 : Int32))), .unset, .unset, .unset, .unset, .unset, .unset, .unset, .unset] [(.int (1 : Int32)), (.int (i4 &&& (7 : Int32)))])) := by
    refine c0.trans ?_
    show Steps p.tables e below (s₁.setTop (mkF m 0 #[.val (.int i0), .val (.int i1), .val (.int i2), .val (.int i3), .val (.int i4), .unset, .unset, .unset, .unset, .unset, .unset, .unset, .unset, .unset, .unset, .unset, .unset, .unset, .unset, .unset] [])) _
    refine XS.iloadN X0.here hx rfl (hb hby at_0) rfl ?_
    show Steps p.tables e below (s₁.setTop (mkF m 1 #[.val (.int i0), .val (.int i1), .val (.int i2), .val (.int i3), .val (.int i4), .unset, .unset, .unset, .unset, .unset, .unset, .unset, .unset, .unset, .unset, .unset, .unset, .unset, .unset, .unset] [(.int i0)])) _
    refine X0.ldcInt hx hown (mvT hZ (hw _ (List.mem_of_getElem? (i := 0) rfl))) (g := (mkF m 1 #[.val (.int i0), .val (.int i1), .val (.int i2), .val (.int i3), .val (.int i4), .unset, .unset, .unset, .unset, .unset, .unset, .unset, .unset, .unset, .unset, .unset, .unset, .unset, .unset, .unset] [(.int i0)])) rfl (hb hby at_1) _ ?_
    show Steps p.tables e below (s₁.setTop (mkF m 3 #[.val (.int i0), .val (.int i1), .val (.int i2), .val (.int i3), .val (.int i4), .unset, .unset, .unset, .unset, .unset, .unset, .unset, .unset, .unset, .unset, .unset, .unset, .unset, .unset, .unset] [(.int (1048575 : Int32)), (.int i0)])) _
    refine XS.iand X0.here hx rfl (hb hby at_3) rfl ?_
    show Steps p.tables e below (s₁.setTop (mkF m 4 #[.val (.int i0), .val (.int i1), .val (.int i2), .val (.int i3), .val (.int i4), .unset, .unset, .unset, .unset, .unset, .unset, .unset, .unset, .unset, .unset, .unset, .unset, .unset, .unset, .unset] [(.int (i0 &&& (1048575 : Int32)))])) _
    refine XS.iconst X0.here hx rfl (hb hby at_4) ?_
    show Steps p.tables e below (s₁.setTop (mkF m 5 #[.val (.int i0), .val (.int i1), .val (.int i2), .val (.int i3), .val (.int i4), .unset, .unset, .unset, .unset, .unset, .unset, .unset, .unset, .unset, .unset, .unset, .unset, .unset, .unset, .unset] [(.int (1 : Int32)), (.int (i0 &&& (1048575 : Int32)))])) _
    refine XS.iadd X0.here hx rfl (hb hby at_5) rfl ?_
    show Steps p.tables e below (s₁.setTop (mkF m 6 #[.val (.int i0), .val (.int i1), .val (.int i2), .val (.int i3), .val (.int i4), .unset, .unset, .unset, .unset, .unset, .unset, .unset, .unset, .unset, .unset, .unset, .unset, .unset, .unset, .unset] [(.int ((i0 &&& (1048575 : Int32)) + (1 : Int32)))])) _
    refine XS.i2l X0.here hx rfl (hb hby at_6) rfl ?_
    show Steps p.tables e below (s₁.setTop (mkF m 7 #[.val (.int i0), .val (.int i1), .val (.int i2), .val (.int i3), .val (.int i4), .unset, .unset, .unset, .unset, .unset, .unset, .unset, .unset, .unset, .unset, .unset, .unset, .unset, .unset, .unset] [(.long (((i0 &&& (1048575 : Int32)) + (1 : Int32)).toInt64))])) _
    refine XS.lstore X0.here hx rfl (hb hby at_7) rfl (l' := #[.val (.int i0), .val (.int i1), .val (.int i2), .val (.int i3), .val (.int i4), .val (.long (((i0 &&& (1048575 : Int32)) + (1 : Int32)).toInt64)), .second, .unset, .unset, .unset, .unset, .unset, .unset, .unset, .unset, .unset, .unset, .unset, .unset, .unset]) rfl ?_
    show Steps p.tables e below (s₁.setTop (mkF m 9 #[.val (.int i0), .val (.int i1), .val (.int i2), .val (.int i3), .val (.int i4), .val (.long (((i0 &&& (1048575 : Int32)) + (1 : Int32)).toInt64)), .second, .unset, .unset, .unset, .unset, .unset, .unset, .unset, .unset, .unset, .unset, .unset, .unset, .unset] [])) _
    refine XS.iloadN X0.here hx rfl (hb hby at_9) rfl ?_
    show Steps p.tables e below (s₁.setTop (mkF m 10 #[.val (.int i0), .val (.int i1), .val (.int i2), .val (.int i3), .val (.int i4), .val (.long (((i0 &&& (1048575 : Int32)) + (1 : Int32)).toInt64)), .second, .unset, .unset, .unset, .unset, .unset, .unset, .unset, .unset, .unset, .unset, .unset, .unset, .unset] [(.int i2)])) _
    refine X0.ldcInt hx hown (mvT hZ (hw _ (List.mem_of_getElem? (i := 0) rfl))) (g := (mkF m 10 #[.val (.int i0), .val (.int i1), .val (.int i2), .val (.int i3), .val (.int i4), .val (.long (((i0 &&& (1048575 : Int32)) + (1 : Int32)).toInt64)), .second, .unset, .unset, .unset, .unset, .unset, .unset, .unset, .unset, .unset, .unset, .unset, .unset, .unset] [(.int i2)])) rfl (hb hby at_10) _ ?_
    show Steps p.tables e below (s₁.setTop (mkF m 12 #[.val (.int i0), .val (.int i1), .val (.int i2), .val (.int i3), .val (.int i4), .val (.long (((i0 &&& (1048575 : Int32)) + (1 : Int32)).toInt64)), .second, .unset, .unset, .unset, .unset, .unset, .unset, .unset, .unset, .unset, .unset, .unset, .unset, .unset] [(.int (1048575 : Int32)), (.int i2)])) _
    refine XS.iand X0.here hx rfl (hb hby at_12) rfl ?_
    show Steps p.tables e below (s₁.setTop (mkF m 13 #[.val (.int i0), .val (.int i1), .val (.int i2), .val (.int i3), .val (.int i4), .val (.long (((i0 &&& (1048575 : Int32)) + (1 : Int32)).toInt64)), .second, .unset, .unset, .unset, .unset, .unset, .unset, .unset, .unset, .unset, .unset, .unset, .unset, .unset] [(.int (i2 &&& (1048575 : Int32)))])) _
    refine XS.iconst X0.here hx rfl (hb hby at_13) ?_
    show Steps p.tables e below (s₁.setTop (mkF m 14 #[.val (.int i0), .val (.int i1), .val (.int i2), .val (.int i3), .val (.int i4), .val (.long (((i0 &&& (1048575 : Int32)) + (1 : Int32)).toInt64)), .second, .unset, .unset, .unset, .unset, .unset, .unset, .unset, .unset, .unset, .unset, .unset, .unset, .unset] [(.int (1 : Int32)), (.int (i2 &&& (1048575 : Int32)))])) _
    refine XS.iadd X0.here hx rfl (hb hby at_14) rfl ?_
    show Steps p.tables e below (s₁.setTop (mkF m 15 #[.val (.int i0), .val (.int i1), .val (.int i2), .val (.int i3), .val (.int i4), .val (.long (((i0 &&& (1048575 : Int32)) + (1 : Int32)).toInt64)), .second, .unset, .unset, .unset, .unset, .unset, .unset, .unset, .unset, .unset, .unset, .unset, .unset, .unset] [(.int ((i2 &&& (1048575 : Int32)) + (1 : Int32)))])) _
    refine XS.i2l X0.here hx rfl (hb hby at_15) rfl ?_
    show Steps p.tables e below (s₁.setTop (mkF m 16 #[.val (.int i0), .val (.int i1), .val (.int i2), .val (.int i3), .val (.int i4), .val (.long (((i0 &&& (1048575 : Int32)) + (1 : Int32)).toInt64)), .second, .unset, .unset, .unset, .unset, .unset, .unset, .unset, .unset, .unset, .unset, .unset, .unset, .unset] [(.long (((i2 &&& (1048575 : Int32)) + (1 : Int32)).toInt64))])) _
    refine XS.lstore X0.here hx rfl (hb hby at_16) rfl (l' := #[.val (.int i0), .val (.int i1), .val (.int i2), .val (.int i3), .val (.int i4), .val (.long (((i0 &&& (1048575 : Int32)) + (1 : Int32)).toInt64)), .second, .val (.long (((i2 &&& (1048575 : Int32)) + (1 : Int32)).toInt64)), .second, .unset, .unset, .unset, .unset, .unset, .unset, .unset, .unset, .unset, .unset, .unset]) rfl ?_
    show Steps p.tables e below (s₁.setTop (mkF m 18 #[.val (.int i0), .val (.int i1), .val (.int i2), .val (.int i3), .val (.int i4), .val (.long (((i0 &&& (1048575 : Int32)) + (1 : Int32)).toInt64)), .second, .val (.long (((i2 &&& (1048575 : Int32)) + (1 : Int32)).toInt64)), .second, .unset, .unset, .unset, .unset, .unset, .unset, .unset, .unset, .unset, .unset, .unset] [])) _
    refine XS.iloadN X0.here hx rfl (hb hby at_18) rfl ?_
    show Steps p.tables e below (s₁.setTop (mkF m 19 #[.val (.int i0), .val (.int i1), .val (.int i2), .val (.int i3), .val (.int i4), .val (.long (((i0 &&& (1048575 : Int32)) + (1 : Int32)).toInt64)), .second, .val (.long (((i2 &&& (1048575 : Int32)) + (1 : Int32)).toInt64)), .second, .unset, .unset, .unset, .unset, .unset, .unset, .unset, .unset, .unset, .unset, .unset] [(.int i1)])) _
    refine XS.sipush X0.here hx rfl (hb hby at_19) ?_
    show Steps p.tables e below (s₁.setTop (mkF m 22 #[.val (.int i0), .val (.int i1), .val (.int i2), .val (.int i3), .val (.int i4), .val (.long (((i0 &&& (1048575 : Int32)) + (1 : Int32)).toInt64)), .second, .val (.long (((i2 &&& (1048575 : Int32)) + (1 : Int32)).toInt64)), .second, .unset, .unset, .unset, .unset, .unset, .unset, .unset, .unset, .unset, .unset, .unset] [(.int (2047 : Int32)), (.int i1)])) _
    refine XS.iand X0.here hx rfl (hb hby at_22) rfl ?_
    show Steps p.tables e below (s₁.setTop (mkF m 23 #[.val (.int i0), .val (.int i1), .val (.int i2), .val (.int i3), .val (.int i4), .val (.long (((i0 &&& (1048575 : Int32)) + (1 : Int32)).toInt64)), .second, .val (.long (((i2 &&& (1048575 : Int32)) + (1 : Int32)).toInt64)), .second, .unset, .unset, .unset, .unset, .unset, .unset, .unset, .unset, .unset, .unset, .unset] [(.int (i1 &&& (2047 : Int32)))])) _
    refine XS.sipush X0.here hx rfl (hb hby at_23) ?_
    show Steps p.tables e below (s₁.setTop (mkF m 26 #[.val (.int i0), .val (.int i1), .val (.int i2), .val (.int i3), .val (.int i4), .val (.long (((i0 &&& (1048575 : Int32)) + (1 : Int32)).toInt64)), .second, .val (.long (((i2 &&& (1048575 : Int32)) + (1 : Int32)).toInt64)), .second, .unset, .unset, .unset, .unset, .unset, .unset, .unset, .unset, .unset, .unset, .unset] [(.int (1074 : Int32)), (.int (i1 &&& (2047 : Int32)))])) _
    refine XS.isub X0.here hx rfl (hb hby at_26) rfl ?_
    show Steps p.tables e below (s₁.setTop (mkF m 27 #[.val (.int i0), .val (.int i1), .val (.int i2), .val (.int i3), .val (.int i4), .val (.long (((i0 &&& (1048575 : Int32)) + (1 : Int32)).toInt64)), .second, .val (.long (((i2 &&& (1048575 : Int32)) + (1 : Int32)).toInt64)), .second, .unset, .unset, .unset, .unset, .unset, .unset, .unset, .unset, .unset, .unset, .unset] [(.int ((i1 &&& (2047 : Int32)) - (1074 : Int32)))])) _
    refine XS.istore X0.here hx rfl (hb hby at_27) rfl (l' := #[.val (.int i0), .val (.int i1), .val (.int i2), .val (.int i3), .val (.int i4), .val (.long (((i0 &&& (1048575 : Int32)) + (1 : Int32)).toInt64)), .second, .val (.long (((i2 &&& (1048575 : Int32)) + (1 : Int32)).toInt64)), .second, .val (.int ((i1 &&& (2047 : Int32)) - (1074 : Int32))), .unset, .unset, .unset, .unset, .unset, .unset, .unset, .unset, .unset, .unset]) rfl ?_
    show Steps p.tables e below (s₁.setTop (mkF m 29 #[.val (.int i0), .val (.int i1), .val (.int i2), .val (.int i3), .val (.int i4), .val (.long (((i0 &&& (1048575 : Int32)) + (1 : Int32)).toInt64)), .second, .val (.long (((i2 &&& (1048575 : Int32)) + (1 : Int32)).toInt64)), .second, .val (.int ((i1 &&& (2047 : Int32)) - (1074 : Int32))), .unset, .unset, .unset, .unset, .unset, .unset, .unset, .unset, .unset, .unset] [])) _
    refine XS.iloadN X0.here hx rfl (hb hby at_29) rfl ?_
    show Steps p.tables e below (s₁.setTop (mkF m 30 #[.val (.int i0), .val (.int i1), .val (.int i2), .val (.int i3), .val (.int i4), .val (.long (((i0 &&& (1048575 : Int32)) + (1 : Int32)).toInt64)), .second, .val (.long (((i2 &&& (1048575 : Int32)) + (1 : Int32)).toInt64)), .second, .val (.int ((i1 &&& (2047 : Int32)) - (1074 : Int32))), .unset, .unset, .unset, .unset, .unset, .unset, .unset, .unset, .unset, .unset] [(.int i3)])) _
    refine XS.sipush X0.here hx rfl (hb hby at_30) ?_
    show Steps p.tables e below (s₁.setTop (mkF m 33 #[.val (.int i0), .val (.int i1), .val (.int i2), .val (.int i3), .val (.int i4), .val (.long (((i0 &&& (1048575 : Int32)) + (1 : Int32)).toInt64)), .second, .val (.long (((i2 &&& (1048575 : Int32)) + (1 : Int32)).toInt64)), .second, .val (.int ((i1 &&& (2047 : Int32)) - (1074 : Int32))), .unset, .unset, .unset, .unset, .unset, .unset, .unset, .unset, .unset, .unset] [(.int (2047 : Int32)), (.int i3)])) _
    refine XS.iand X0.here hx rfl (hb hby at_33) rfl ?_
    show Steps p.tables e below (s₁.setTop (mkF m 34 #[.val (.int i0), .val (.int i1), .val (.int i2), .val (.int i3), .val (.int i4), .val (.long (((i0 &&& (1048575 : Int32)) + (1 : Int32)).toInt64)), .second, .val (.long (((i2 &&& (1048575 : Int32)) + (1 : Int32)).toInt64)), .second, .val (.int ((i1 &&& (2047 : Int32)) - (1074 : Int32))), .unset, .unset, .unset, .unset, .unset, .unset, .unset, .unset, .unset, .unset] [(.int (i3 &&& (2047 : Int32)))])) _
    refine XS.sipush X0.here hx rfl (hb hby at_34) ?_
    show Steps p.tables e below (s₁.setTop (mkF m 37 #[.val (.int i0), .val (.int i1), .val (.int i2), .val (.int i3), .val (.int i4), .val (.long (((i0 &&& (1048575 : Int32)) + (1 : Int32)).toInt64)), .second, .val (.long (((i2 &&& (1048575 : Int32)) + (1 : Int32)).toInt64)), .second, .val (.int ((i1 &&& (2047 : Int32)) - (1074 : Int32))), .unset, .unset, .unset, .unset, .unset, .unset, .unset, .unset, .unset, .unset] [(.int (1074 : Int32)), (.int (i3 &&& (2047 : Int32)))])) _
    refine XS.isub X0.here hx rfl (hb hby at_37) rfl ?_
    show Steps p.tables e below (s₁.setTop (mkF m 38 #[.val (.int i0), .val (.int i1), .val (.int i2), .val (.int i3), .val (.int i4), .val (.long (((i0 &&& (1048575 : Int32)) + (1 : Int32)).toInt64)), .second, .val (.long (((i2 &&& (1048575 : Int32)) + (1 : Int32)).toInt64)), .second, .val (.int ((i1 &&& (2047 : Int32)) - (1074 : Int32))), .unset, .unset, .unset, .unset, .unset, .unset, .unset, .unset, .unset, .unset] [(.int ((i3 &&& (2047 : Int32)) - (1074 : Int32)))])) _
    refine XS.istore X0.here hx rfl (hb hby at_38) rfl (l' := #[.val (.int i0), .val (.int i1), .val (.int i2), .val (.int i3), .val (.int i4), .val (.long (((i0 &&& (1048575 : Int32)) + (1 : Int32)).toInt64)), .second, .val (.long (((i2 &&& (1048575 : Int32)) + (1 : Int32)).toInt64)), .second, .val (.int ((i1 &&& (2047 : Int32)) - (1074 : Int32))), .val (.int ((i3 &&& (2047 : Int32)) - (1074 : Int32))), .unset, .unset, .unset, .unset, .unset, .unset, .unset, .unset, .unset]) rfl ?_
    show Steps p.tables e below (s₁.setTop (mkF m 40 #[.val (.int i0), .val (.int i1), .val (.int i2), .val (.int i3), .val (.int i4), .val (.long (((i0 &&& (1048575 : Int32)) + (1 : Int32)).toInt64)), .second, .val (.long (((i2 &&& (1048575 : Int32)) + (1 : Int32)).toInt64)), .second, .val (.int ((i1 &&& (2047 : Int32)) - (1074 : Int32))), .val (.int ((i3 &&& (2047 : Int32)) - (1074 : Int32))), .unset, .unset, .unset, .unset, .unset, .unset, .unset, .unset, .unset] [])) _
    refine XS.iload X0.here hx rfl (hb hby at_40) rfl ?_
    show Steps p.tables e below (s₁.setTop (mkF m 42 #[.val (.int i0), .val (.int i1), .val (.int i2), .val (.int i3), .val (.int i4), .val (.long (((i0 &&& (1048575 : Int32)) + (1 : Int32)).toInt64)), .second, .val (.long (((i2 &&& (1048575 : Int32)) + (1 : Int32)).toInt64)), .second, .val (.int ((i1 &&& (2047 : Int32)) - (1074 : Int32))), .val (.int ((i3 &&& (2047 : Int32)) - (1074 : Int32))), .unset, .unset, .unset, .unset, .unset, .unset, .unset, .unset, .unset] [(.int i4)])) _
    refine XS.bipush X0.here hx rfl (hb hby at_42) ?_
    show Steps p.tables e below (s₁.setTop (mkF m 44 #[.val (.int i0), .val (.int i1), .val (.int i2), .val (.int i3), .val (.int i4), .val (.long (((i0 &&& (1048575 : Int32)) + (1 : Int32)).toInt64)), .second, .val (.long (((i2 &&& (1048575 : Int32)) + (1 : Int32)).toInt64)), .second, .val (.int ((i1 &&& (2047 : Int32)) - (1074 : Int32))), .val (.int ((i3 &&& (2047 : Int32)) - (1074 : Int32))), .unset, .unset, .unset, .unset, .unset, .unset, .unset, .unset, .unset] [(.int (7 : Int32)), (.int i4)])) _
    refine XS.iand X0.here hx rfl (hb hby at_44) rfl ?_
    show Steps p.tables e below (s₁.setTop (mkF m 45 #[.val (.int i0), .val (.int i1), .val (.int i2), .val (.int i3), .val (.int i4), .val (.long (((i0 &&& (1048575 : Int32)) + (1 : Int32)).toInt64)), .second, .val (.long (((i2 &&& (1048575 : Int32)) + (1 : Int32)).toInt64)), .second, .val (.int ((i1 &&& (2047 : Int32)) - (1074 : Int32))), .val (.int ((i3 &&& (2047 : Int32)) - (1074 : Int32))), .unset, .unset, .unset, .unset, .unset, .unset, .unset, .unset, .unset] [(.int (i4 &&& (7 : Int32)))])) _
    refine XS.istore X0.here hx rfl (hb hby at_45) rfl (l' := #[.val (.int i0), .val (.int i1), .val (.int i2), .val (.int i3), .val (.int i4), .val (.long (((i0 &&& (1048575 : Int32)) + (1 : Int32)).toInt64)), .second, .val (.long (((i2 &&& (1048575 : Int32)) + (1 : Int32)).toInt64)), .second, .val (.int ((i1 &&& (2047 : Int32)) - (1074 : Int32))), .val (.int ((i3 &&& (2047 : Int32)) - (1074 : Int32))), .val (.int (i4 &&& (7 : Int32))), .unset, .unset, .unset, .unset, .unset, .unset, .unset, .unset]) rfl ?_
    show Steps p.tables e below (s₁.setTop (mkF m 47 #[.val (.int i0), .val (.int i1), .val (.int i2), .val (.int i3), .val (.int i4), .val (.long (((i0 &&& (1048575 : Int32)) + (1 : Int32)).toInt64)), .second, .val (.long (((i2 &&& (1048575 : Int32)) + (1 : Int32)).toInt64)), .second, .val (.int ((i1 &&& (2047 : Int32)) - (1074 : Int32))), .val (.int ((i3 &&& (2047 : Int32)) - (1074 : Int32))), .val (.int (i4 &&& (7 : Int32))), .unset, .unset, .unset, .unset, .unset, .unset, .unset, .unset] [])) _
    refine XS.iload X0.here hx rfl (hb hby at_47) rfl ?_
    show Steps p.tables e below (s₁.setTop (mkF m 49 #[.val (.int i0), .val (.int i1), .val (.int i2), .val (.int i3), .val (.int i4), .val (.long (((i0 &&& (1048575 : Int32)) + (1 : Int32)).toInt64)), .second, .val (.long (((i2 &&& (1048575 : Int32)) + (1 : Int32)).toInt64)), .second, .val (.int ((i1 &&& (2047 : Int32)) - (1074 : Int32))), .val (.int ((i3 &&& (2047 : Int32)) - (1074 : Int32))), .val (.int (i4 &&& (7 : Int32))), .unset, .unset, .unset, .unset, .unset, .unset, .unset, .unset] [(.int (i4 &&& (7 : Int32)))])) _
    refine XS.iconst X0.here hx rfl (hb hby at_49) ?_
    exact Steps.refl _
  generalize hm1 : (((i0 &&& (1048575 : Int32)) + (1 : Int32)).toInt64) = m1 at c1
  generalize hm2 : (((i2 &&& (1048575 : Int32)) + (1 : Int32)).toInt64) = m2 at c1
  generalize hs1 : ((i1 &&& (2047 : Int32)) - (1074 : Int32)) = s1 at c1
  generalize hs2 : ((i3 &&& (2047 : Int32)) - (1074 : Int32)) = s2 at c1
  generalize hkd : (i4 &&& (7 : Int32)) = kd at c1
  obtain ⟨M1, hM1, hM1l, hM1u⟩ := own_m i0 m1 hm1
  obtain ⟨M2, hM2, hM2l, hM2u⟩ := own_m i2 m2 hm2
  obtain ⟨E1, hE1, hE1s, hE1p⟩ := own_s i1 s1 hs1
  obtain ⟨E2, hE2, hE2s, hE2p⟩ := own_s i3 s2 hs2
  by_cases h1 : kd = 1
  · subst h1
    have c2 : Steps p.tables e below S0 (s₁.setTop (mkF m 105 #[.val (.int i0), .val (.int i1), .val (.int i2), .val (.int i3), .val (.int i4), .val (.long m1), .second, .val (.long m2), .second, .val (.int s1), .val (.int s2), .val (.int (1 : Int32)), .val (.int (1 : Int32)), .val (.int (0 : Int32)), .unset, .unset, .unset, .unset, .unset, .unset] [(.double (9218868437227405312 : UInt64))])) := by
      refine c1.trans ?_
      show Steps p.tables e below (s₁.setTop (mkF m 50 #[.val (.int i0), .val (.int i1), .val (.int i2), .val (.int i3), .val (.int i4), .val (.long m1), .second, .val (.long m2), .second, .val (.int s1), .val (.int s2), .val (.int (1 : Int32)), .unset, .unset, .unset, .unset, .unset, .unset, .unset, .unset] [(.int (1 : Int32)), (.int (1 : Int32))])) _
      refine XS.icmpYes X0.here hx rfl (pc0 := 50) (pc' := 59) rfl (hb hby at_50) rfl (teq rfl).1 (by decide) (by decide) ?_
      show Steps p.tables e below (s₁.setTop (mkF m 59 #[.val (.int i0), .val (.int i1), .val (.int i2), .val (.int i3), .val (.int i4), .val (.long m1), .second, .val (.long m2), .second, .val (.int s1), .val (.int s2), .val (.int (1 : Int32)), .unset, .unset, .unset, .unset, .unset, .unset, .unset, .unset] [])) _
      refine XS.iconst X0.here hx rfl (hb hby at_59) ?_
      show Steps p.tables e below (s₁.setTop (mkF m 60 #[.val (.int i0), .val (.int i1), .val (.int i2), .val (.int i3), .val (.int i4), .val (.long m1), .second, .val (.long m2), .second, .val (.int s1), .val (.int s2), .val (.int (1 : Int32)), .unset, .unset, .unset, .unset, .unset, .unset, .unset, .unset] [(.int (1 : Int32))])) _
      refine XS.goto X0.here hx rfl (pc0 := 60) (pc' := 64) rfl (hb hby at_60) (by decide) (by decide) ?_
      show Steps p.tables e below (s₁.setTop (mkF m 64 #[.val (.int i0), .val (.int i1), .val (.int i2), .val (.int i3), .val (.int i4), .val (.long m1), .second, .val (.long m2), .second, .val (.int s1), .val (.int s2), .val (.int (1 : Int32)), .unset, .unset, .unset, .unset, .unset, .unset, .unset, .unset] [(.int (1 : Int32))])) _
      refine XS.istore X0.here hx rfl (hb hby at_64) rfl (l' := #[.val (.int i0), .val (.int i1), .val (.int i2), .val (.int i3), .val (.int i4), .val (.long m1), .second, .val (.long m2), .second, .val (.int s1), .val (.int s2), .val (.int (1 : Int32)), .val (.int (1 : Int32)), .unset, .unset, .unset, .unset, .unset, .unset, .unset]) rfl ?_
      show Steps p.tables e below (s₁.setTop (mkF m 66 #[.val (.int i0), .val (.int i1), .val (.int i2), .val (.int i3), .val (.int i4), .val (.long m1), .second, .val (.long m2), .second, .val (.int s1), .val (.int s2), .val (.int (1 : Int32)), .val (.int (1 : Int32)), .unset, .unset, .unset, .unset, .unset, .unset, .unset] [])) _
      refine XS.iload X0.here hx rfl (hb hby at_66) rfl ?_
      show Steps p.tables e below (s₁.setTop (mkF m 68 #[.val (.int i0), .val (.int i1), .val (.int i2), .val (.int i3), .val (.int i4), .val (.long m1), .second, .val (.long m2), .second, .val (.int s1), .val (.int s2), .val (.int (1 : Int32)), .val (.int (1 : Int32)), .unset, .unset, .unset, .unset, .unset, .unset, .unset] [(.int (1 : Int32))])) _
      refine XS.iconst X0.here hx rfl (hb hby at_68) ?_
      show Steps p.tables e below (s₁.setTop (mkF m 69 #[.val (.int i0), .val (.int i1), .val (.int i2), .val (.int i3), .val (.int i4), .val (.long m1), .second, .val (.long m2), .second, .val (.int s1), .val (.int s2), .val (.int (1 : Int32)), .val (.int (1 : Int32)), .unset, .unset, .unset, .unset, .unset, .unset, .unset] [(.int (2 : Int32)), (.int (1 : Int32))])) _
      refine XS.icmpNo X0.here hx rfl (hb hby at_69) rfl (feq (by decide)).1 ?_
      show Steps p.tables e below (s₁.setTop (mkF m 72 #[.val (.int i0), .val (.int i1), .val (.int i2), .val (.int i3), .val (.int i4), .val (.long m1), .second, .val (.long m2), .second, .val (.int s1), .val (.int s2), .val (.int (1 : Int32)), .val (.int (1 : Int32)), .unset, .unset, .unset, .unset, .unset, .unset, .unset] [])) _
      refine XS.iload X0.here hx rfl (hb hby at_72) rfl ?_
      show Steps p.tables e below (s₁.setTop (mkF m 74 #[.val (.int i0), .val (.int i1), .val (.int i2), .val (.int i3), .val (.int i4), .val (.long m1), .second, .val (.long m2), .second, .val (.int s1), .val (.int s2), .val (.int (1 : Int32)), .val (.int (1 : Int32)), .unset, .unset, .unset, .unset, .unset, .unset, .unset] [(.int (1 : Int32))])) _
      refine XS.iconst X0.here hx rfl (hb hby at_74) ?_
      show Steps p.tables e below (s₁.setTop (mkF m 75 #[.val (.int i0), .val (.int i1), .val (.int i2), .val (.int i3), .val (.int i4), .val (.long m1), .second, .val (.long m2), .second, .val (.int s1), .val (.int s2), .val (.int (1 : Int32)), .val (.int (1 : Int32)), .unset, .unset, .unset, .unset, .unset, .unset, .unset] [(.int (3 : Int32)), (.int (1 : Int32))])) _
      refine XS.icmpYes X0.here hx rfl (pc0 := 75) (pc' := 82) rfl (hb hby at_75) rfl (feq (by decide)).2 (by decide) (by decide) ?_
      show Steps p.tables e below (s₁.setTop (mkF m 82 #[.val (.int i0), .val (.int i1), .val (.int i2), .val (.int i3), .val (.int i4), .val (.long m1), .second, .val (.long m2), .second, .val (.int s1), .val (.int s2), .val (.int (1 : Int32)), .val (.int (1 : Int32)), .unset, .unset, .unset, .unset, .unset, .unset, .unset] [])) _
      refine XS.iconst X0.here hx rfl (hb hby at_82) ?_
      show Steps p.tables e below (s₁.setTop (mkF m 83 #[.val (.int i0), .val (.int i1), .val (.int i2), .val (.int i3), .val (.int i4), .val (.long m1), .second, .val (.long m2), .second, .val (.int s1), .val (.int s2), .val (.int (1 : Int32)), .val (.int (1 : Int32)), .unset, .unset, .unset, .unset, .unset, .unset, .unset] [(.int (0 : Int32))])) _
      refine XS.istore X0.here hx rfl (hb hby at_83) rfl (l' := #[.val (.int i0), .val (.int i1), .val (.int i2), .val (.int i3), .val (.int i4), .val (.long m1), .second, .val (.long m2), .second, .val (.int s1), .val (.int s2), .val (.int (1 : Int32)), .val (.int (1 : Int32)), .val (.int (0 : Int32)), .unset, .unset, .unset, .unset, .unset, .unset]) rfl ?_
      show Steps p.tables e below (s₁.setTop (mkF m 85 #[.val (.int i0), .val (.int i1), .val (.int i2), .val (.int i3), .val (.int i4), .val (.long m1), .second, .val (.long m2), .second, .val (.int s1), .val (.int s2), .val (.int (1 : Int32)), .val (.int (1 : Int32)), .val (.int (0 : Int32)), .unset, .unset, .unset, .unset, .unset, .unset] [])) _
      refine XS.iload X0.here hx rfl (hb hby at_85) rfl ?_
      show Steps p.tables e below (s₁.setTop (mkF m 87 #[.val (.int i0), .val (.int i1), .val (.int i2), .val (.int i3), .val (.int i4), .val (.long m1), .second, .val (.long m2), .second, .val (.int s1), .val (.int s2), .val (.int (1 : Int32)), .val (.int (1 : Int32)), .val (.int (0 : Int32)), .unset, .unset, .unset, .unset, .unset, .unset] [(.int (1 : Int32))])) _
      refine XS.ifNo X0.here hx rfl (hb hby at_87) rfl ((if0 _ _).trans (feq (by decide)).1) ?_
      show Steps p.tables e below (s₁.setTop (mkF m 90 #[.val (.int i0), .val (.int i1), .val (.int i2), .val (.int i3), .val (.int i4), .val (.long m1), .second, .val (.long m2), .second, .val (.int s1), .val (.int s2), .val (.int (1 : Int32)), .val (.int (1 : Int32)), .val (.int (0 : Int32)), .unset, .unset, .unset, .unset, .unset, .unset] [])) _
      refine X0.ldc2DoubleC hx hown (mvT hZ (hw _ (List.mem_of_getElem? (i := 17) rfl))) (g := (mkF m 90 #[.val (.int i0), .val (.int i1), .val (.int i2), .val (.int i3), .val (.int i4), .val (.long m1), .second, .val (.long m2), .second, .val (.int s1), .val (.int s2), .val (.int (1 : Int32)), .val (.int (1 : Int32)), .val (.int (0 : Int32)), .unset, .unset, .unset, .unset, .unset, .unset] [])) rfl (hb hby at_90) _ ?_
      show Steps p.tables e below (s₁.setTop (mkF m 93 #[.val (.int i0), .val (.int i1), .val (.int i2), .val (.int i3), .val (.int i4), .val (.long m1), .second, .val (.long m2), .second, .val (.int s1), .val (.int s2), .val (.int (1 : Int32)), .val (.int (1 : Int32)), .val (.int (0 : Int32)), .unset, .unset, .unset, .unset, .unset, .unset] [(.double (9218868437227405312 : UInt64))])) _
      refine XS.goto X0.here hx rfl (pc0 := 93) (pc' := 105) rfl (hb hby at_93) (by decide) (by decide) ?_
      exact Steps.refl _
    have c3 : Steps p.tables e below S0 (s₁.setTop (mkF m 118 #[.val (.int i0), .val (.int i1), .val (.int i2), .val (.int i3), .val (.int i4), .val (.long m1), .second, .val (.long m2), .second, .val (.int s1), .val (.int s2), .val (.int (1 : Int32)), .val (.int (1 : Int32)), .val (.int (0 : Int32)), .val (.double (9218868437227405312 : UInt64)), .second, .unset, .unset, .unset, .unset] [])) := by
      refine c2.trans ?_
      show Steps p.tables e below (s₁.setTop (mkF m 105 #[.val (.int i0), .val (.int i1), .val (.int i2), .val (.int i3), .val (.int i4), .val (.long m1), .second, .val (.long m2), .second, .val (.int s1), .val (.int s2), .val (.int (1 : Int32)), .val (.int (1 : Int32)), .val (.int (0 : Int32)), .unset, .unset, .unset, .unset, .unset, .unset] [(.double (9218868437227405312 : UInt64))])) _
      refine XS.dstore X0.here hx rfl (hb hby at_105) rfl (l' := #[.val (.int i0), .val (.int i1), .val (.int i2), .val (.int i3), .val (.int i4), .val (.long m1), .second, .val (.long m2), .second, .val (.int s1), .val (.int s2), .val (.int (1 : Int32)), .val (.int (1 : Int32)), .val (.int (0 : Int32)), .val (.double (9218868437227405312 : UInt64)), .second, .unset, .unset, .unset, .unset]) rfl ?_
      show Steps p.tables e below (s₁.setTop (mkF m 107 #[.val (.int i0), .val (.int i1), .val (.int i2), .val (.int i3), .val (.int i4), .val (.long m1), .second, .val (.long m2), .second, .val (.int s1), .val (.int s2), .val (.int (1 : Int32)), .val (.int (1 : Int32)), .val (.int (0 : Int32)), .val (.double (9218868437227405312 : UInt64)), .second, .unset, .unset, .unset, .unset] [])) _
      refine XS.iload X0.here hx rfl (hb hby at_107) rfl ?_
      show Steps p.tables e below (s₁.setTop (mkF m 109 #[.val (.int i0), .val (.int i1), .val (.int i2), .val (.int i3), .val (.int i4), .val (.long m1), .second, .val (.long m2), .second, .val (.int s1), .val (.int s2), .val (.int (1 : Int32)), .val (.int (1 : Int32)), .val (.int (0 : Int32)), .val (.double (9218868437227405312 : UInt64)), .second, .unset, .unset, .unset, .unset] [(.int (0 : Int32))])) _
      refine XS.ifYes X0.here hx rfl (pc0 := 109) (pc' := 118) rfl (hb hby at_109) rfl ((if0 _ _).trans (teq rfl).1) (by decide) (by decide) ?_
      exact Steps.refl _
    have c4 : Steps p.tables e below S0 (s₁.setTop (mkF m 123 #[.val (.int i0), .val (.int i1), .val (.int i2), .val (.int i3), .val (.int i4), .val (.long m1), .second, .val (.long m2), .second, .val (.int s1), .val (.int s2), .val (.int (1 : Int32)), .val (.int (1 : Int32)), .val (.int (0 : Int32)), .val (.double (9218868437227405312 : UInt64)), .second, .unset, .unset, .unset, .unset] [(.int s2), (.double (FP.l2d m2))])) := by
      refine c3.trans ?_
      show Steps p.tables e below (s₁.setTop (mkF m 118 #[.val (.int i0), .val (.int i1), .val (.int i2), .val (.int i3), .val (.int i4), .val (.long m1), .second, .val (.long m2), .second, .val (.int s1), .val (.int s2), .val (.int (1 : Int32)), .val (.int (1 : Int32)), .val (.int (0 : Int32)), .val (.double (9218868437227405312 : UInt64)), .second, .unset, .unset, .unset, .unset] [])) _
      refine XS.lload X0.here hx rfl (hb hby at_118) rfl ?_
      show Steps p.tables e below (s₁.setTop (mkF m 120 #[.val (.int i0), .val (.int i1), .val (.int i2), .val (.int i3), .val (.int i4), .val (.long m1), .second, .val (.long m2), .second, .val (.int s1), .val (.int s2), .val (.int (1 : Int32)), .val (.int (1 : Int32)), .val (.int (0 : Int32)), .val (.double (9218868437227405312 : UInt64)), .second, .unset, .unset, .unset, .unset] [(.long m2)])) _
      refine XS.l2dS X0.here hx rfl (v := (FP.l2d m2)) (hb hby at_120) rfl rfl ?_
      show Steps p.tables e below (s₁.setTop (mkF m 121 #[.val (.int i0), .val (.int i1), .val (.int i2), .val (.int i3), .val (.int i4), .val (.long m1), .second, .val (.long m2), .second, .val (.int s1), .val (.int s2), .val (.int (1 : Int32)), .val (.int (1 : Int32)), .val (.int (0 : Int32)), .val (.double (9218868437227405312 : UInt64)), .second, .unset, .unset, .unset, .unset] [(.double (FP.l2d m2))])) _
      refine XS.iload X0.here hx rfl (hb hby at_121) rfl ?_
      exact Steps.refl _
    obtain ⟨_, _, ⟨T5, L5, k5, n5⟩, -, X5, ⟨Lc5, hQ5, l5, y5, z5⟩, st5⟩ := Jvm.LawKit.callS X0 hx (y := (⟨"com/example/tight_reach/tightreach/RoundedProductsMayUnderflowPinLaw", "pow2", "(I)D"⟩ : MethodName)) hown (mvT hZ (hw _ (List.mem_of_getElem? (i := 1) rfl))) (mvT hZ (hw _ (List.mem_of_getElem? (i := 2) rfl))) (mvT hZ (hw _ (List.mem_of_getElem? (i := 3) rfl))) (mvT hZ (hw _ (List.mem_of_getElem? (i := 4) rfl))) (by decide) (backOf (W := 2) (rm3 l Z a0 hw [] s2 E2 h0 n0 Z0 hE2p) hZ (hw _ (List.mem_of_getElem? (i := 4) rfl)) (hw _ (List.mem_of_getElem? (i := 3) rfl)) (by decide) (by decide)) (g := (mkF m 123 #[.val (.int i0), .val (.int i1), .val (.int i2), .val (.int i3), .val (.int i4), .val (.long m1), .second, .val (.long m2), .second, .val (.int s1), .val (.int s2), .val (.int (1 : Int32)), .val (.int (1 : Int32)), .val (.int (0 : Int32)), .val (.double (9218868437227405312 : UInt64)), .second, .unset, .unset, .unset, .unset] [(.int s2), (.double (FP.l2d m2))])) rfl (by rw [hml]; rfl) (argsL := [(.int s2)]) (rest := [(.double (FP.l2d m2))]) (lenOf pd0 rfl) rfl (by show 2 * 0 + _ ≤ _; exact Nat.le_of_eq rfl) (hb hby at_123) (fun _ _ => ⟨rfl, e0, (by decide : 0 + 0 ≤ _), (by decide : 0 + 0 ≤ _)⟩)
    dsimp only [Pt.U, Pt.locs, Pt.cells, Pt.slots] at X5 l5 y5 z5 st5 hQ5
    subst l5 y5 z5
    obtain ⟨⟨pb, rfl, hpb⟩, Nb, eb⟩ := hQ5
    have c5 : Steps p.tables e below S0 (T5.setTop (mkF m 126 #[.val (.int i0), .val (.int i1), .val (.int i2), .val (.int i3), .val (.int i4), .val (.long m1), .second, .val (.long m2), .second, .val (.int s1), .val (.int s2), .val (.int (1 : Int32)), .val (.int (1 : Int32)), .val (.int (0 : Int32)), .val (.double (9218868437227405312 : UInt64)), .second, .unset, .unset, .unset, .unset] [(.double pb), (.double (FP.l2d m2))])) := by
      refine c4.trans ?_
      show Steps p.tables e below (s₁.setTop (mkF m 123 #[.val (.int i0), .val (.int i1), .val (.int i2), .val (.int i3), .val (.int i4), .val (.long m1), .second, .val (.long m2), .second, .val (.int s1), .val (.int s2), .val (.int (1 : Int32)), .val (.int (1 : Int32)), .val (.int (0 : Int32)), .val (.double (9218868437227405312 : UInt64)), .second, .unset, .unset, .unset, .unset] [(.int s2), (.double (FP.l2d m2))])) _
      refine st5 _ ?_
      exact Steps.refl _
    have hvb : DV (FP.dmul (FP.l2d m2) pb) M2 E2 := own_left hM2 hM2l hM2u hE2 hpb
    have Nfb := Fr.app N0 Nb
    have c6 : Steps p.tables e below S0 (T5.setTop (mkF m 200 #[.val (.int i0), .val (.int i1), .val (.int i2), .val (.int i3), .val (.int i4), .val (.long m1), .second, .val (.long m2), .second, .val (.int s1), .val (.int s2), .val (.int (1 : Int32)), .val (.int (1 : Int32)), .val (.int (0 : Int32)), .val (.double (9218868437227405312 : UInt64)), .second, .val (.double (FP.dmul (FP.l2d m2) pb)), .second, .val (.int (0 : Int32)), .unset] [])) := by
      refine c5.trans ?_
      show Steps p.tables e below (T5.setTop (mkF m 126 #[.val (.int i0), .val (.int i1), .val (.int i2), .val (.int i3), .val (.int i4), .val (.long m1), .second, .val (.long m2), .second, .val (.int s1), .val (.int s2), .val (.int (1 : Int32)), .val (.int (1 : Int32)), .val (.int (0 : Int32)), .val (.double (9218868437227405312 : UInt64)), .second, .unset, .unset, .unset, .unset] [(.double pb), (.double (FP.l2d m2))])) _
      refine XS.dmulS X5.here hx rfl (v := (FP.dmul (FP.l2d m2) pb)) (hb hby at_126) rfl hvb.noNaN rfl ?_
      show Steps p.tables e below (T5.setTop (mkF m 127 #[.val (.int i0), .val (.int i1), .val (.int i2), .val (.int i3), .val (.int i4), .val (.long m1), .second, .val (.long m2), .second, .val (.int s1), .val (.int s2), .val (.int (1 : Int32)), .val (.int (1 : Int32)), .val (.int (0 : Int32)), .val (.double (9218868437227405312 : UInt64)), .second, .unset, .unset, .unset, .unset] [(.double (FP.dmul (FP.l2d m2) pb))])) _
      refine XS.dstore X5.here hx rfl (hb hby at_127) rfl (l' := #[.val (.int i0), .val (.int i1), .val (.int i2), .val (.int i3), .val (.int i4), .val (.long m1), .second, .val (.long m2), .second, .val (.int s1), .val (.int s2), .val (.int (1 : Int32)), .val (.int (1 : Int32)), .val (.int (0 : Int32)), .val (.double (9218868437227405312 : UInt64)), .second, .val (.double (FP.dmul (FP.l2d m2) pb)), .second, .unset, .unset]) rfl ?_
      show Steps p.tables e below (T5.setTop (mkF m 129 #[.val (.int i0), .val (.int i1), .val (.int i2), .val (.int i3), .val (.int i4), .val (.long m1), .second, .val (.long m2), .second, .val (.int s1), .val (.int s2), .val (.int (1 : Int32)), .val (.int (1 : Int32)), .val (.int (0 : Int32)), .val (.double (9218868437227405312 : UInt64)), .second, .val (.double (FP.dmul (FP.l2d m2) pb)), .second, .unset, .unset] [])) _
      refine XS.iload X5.here hx rfl (hb hby at_129) rfl ?_
      show Steps p.tables e below (T5.setTop (mkF m 131 #[.val (.int i0), .val (.int i1), .val (.int i2), .val (.int i3), .val (.int i4), .val (.long m1), .second, .val (.long m2), .second, .val (.int s1), .val (.int s2), .val (.int (1 : Int32)), .val (.int (1 : Int32)), .val (.int (0 : Int32)), .val (.double (9218868437227405312 : UInt64)), .second, .val (.double (FP.dmul (FP.l2d m2) pb)), .second, .unset, .unset] [(.int (1 : Int32))])) _
      refine XS.ifYes X5.here hx rfl (pc0 := 131) (pc' := 139) rfl (hb hby at_131) rfl ((if0 _ _).trans (feq (by decide)).2) (by decide) (by decide) ?_
      show Steps p.tables e below (T5.setTop (mkF m 139 #[.val (.int i0), .val (.int i1), .val (.int i2), .val (.int i3), .val (.int i4), .val (.long m1), .second, .val (.long m2), .second, .val (.int s1), .val (.int s2), .val (.int (1 : Int32)), .val (.int (1 : Int32)), .val (.int (0 : Int32)), .val (.double (9218868437227405312 : UInt64)), .second, .val (.double (FP.dmul (FP.l2d m2) pb)), .second, .unset, .unset] [])) _
      refine XS.iconst X5.here hx rfl (hb hby at_139) ?_
      show Steps p.tables e below (T5.setTop (mkF m 140 #[.val (.int i0), .val (.int i1), .val (.int i2), .val (.int i3), .val (.int i4), .val (.long m1), .second, .val (.long m2), .second, .val (.int s1), .val (.int s2), .val (.int (1 : Int32)), .val (.int (1 : Int32)), .val (.int (0 : Int32)), .val (.double (9218868437227405312 : UInt64)), .second, .val (.double (FP.dmul (FP.l2d m2) pb)), .second, .unset, .unset] [(.int (0 : Int32))])) _
      refine XS.istore X5.here hx rfl (hb hby at_140) rfl (l' := #[.val (.int i0), .val (.int i1), .val (.int i2), .val (.int i3), .val (.int i4), .val (.long m1), .second, .val (.long m2), .second, .val (.int s1), .val (.int s2), .val (.int (1 : Int32)), .val (.int (1 : Int32)), .val (.int (0 : Int32)), .val (.double (9218868437227405312 : UInt64)), .second, .val (.double (FP.dmul (FP.l2d m2) pb)), .second, .val (.int (0 : Int32)), .unset]) rfl ?_
      show Steps p.tables e below (T5.setTop (mkF m 142 #[.val (.int i0), .val (.int i1), .val (.int i2), .val (.int i3), .val (.int i4), .val (.long m1), .second, .val (.long m2), .second, .val (.int s1), .val (.int s2), .val (.int (1 : Int32)), .val (.int (1 : Int32)), .val (.int (0 : Int32)), .val (.double (9218868437227405312 : UInt64)), .second, .val (.double (FP.dmul (FP.l2d m2) pb)), .second, .val (.int (0 : Int32)), .unset] [])) _
      refine XS.goto X5.here hx rfl (pc0 := 142) (pc' := 200) rfl (hb hby at_142) (by decide) (by decide) ?_
      exact Steps.refl _
    have hi : FP.dmul 9218868437227405312 (FP.dmul (FP.l2d m2) pb) = 9218868437227405312 := inf_mul hvb (by omega)
    have c7 : Steps p.tables e below S0 (T5.setTop (mkF m 204 #[.val (.int i0), .val (.int i1), .val (.int i2), .val (.int i3), .val (.int i4), .val (.long m1), .second, .val (.long m2), .second, .val (.int s1), .val (.int s2), .val (.int (1 : Int32)), .val (.int (1 : Int32)), .val (.int (0 : Int32)), .val (.double (9218868437227405312 : UInt64)), .second, .val (.double (FP.dmul (FP.l2d m2) pb)), .second, .val (.int (0 : Int32)), .unset] [(.double (FP.dmul (FP.l2d m2) pb)), (.double (9218868437227405312 : UInt64))])) := by
      refine c6.trans ?_
      show Steps p.tables e below (T5.setTop (mkF m 200 #[.val (.int i0), .val (.int i1), .val (.int i2), .val (.int i3), .val (.int i4), .val (.long m1), .second, .val (.long m2), .second, .val (.int s1), .val (.int s2), .val (.int (1 : Int32)), .val (.int (1 : Int32)), .val (.int (0 : Int32)), .val (.double (9218868437227405312 : UInt64)), .second, .val (.double (FP.dmul (FP.l2d m2) pb)), .second, .val (.int (0 : Int32)), .unset] [])) _
      refine XS.dload X5.here hx rfl (hb hby at_200) rfl ?_
      show Steps p.tables e below (T5.setTop (mkF m 202 #[.val (.int i0), .val (.int i1), .val (.int i2), .val (.int i3), .val (.int i4), .val (.long m1), .second, .val (.long m2), .second, .val (.int s1), .val (.int s2), .val (.int (1 : Int32)), .val (.int (1 : Int32)), .val (.int (0 : Int32)), .val (.double (9218868437227405312 : UInt64)), .second, .val (.double (FP.dmul (FP.l2d m2) pb)), .second, .val (.int (0 : Int32)), .unset] [(.double (9218868437227405312 : UInt64))])) _
      refine XS.dload X5.here hx rfl (hb hby at_202) rfl ?_
      exact Steps.refl _
    obtain ⟨_, _, ⟨T8, L8, k8, n8⟩, -, X8, ⟨Lc8, hQ8, l8, y8, z8⟩, st8⟩ := Jvm.LawKit.callS X5 hx (y := (⟨"com/example/tight_reach/tightreach/RoundedProducts", "mayUnderflow", "(DD)Z"⟩ : MethodName)) hown (mvT hZ (hw _ (List.mem_of_getElem? (i := 12) rfl))) (mvT hZ (hw _ (List.mem_of_getElem? (i := 13) rfl))) (mvT hZ (hw _ (List.mem_of_getElem? (i := 14) rfl))) (mvT hZ (hw _ (List.mem_of_getElem? (i := 15) rfl))) (by decide) (backOf (W := 0) (rm34 l Z a0 hw [] 9218868437227405312 (FP.dmul (FP.l2d m2) pb) h0 n0 Z0 (by rw [hi]; unfold Jvm.Free.Fl.NoNaN64; decide)) hZ (hw _ (List.mem_of_getElem? (i := 15) rfl)) (hw _ (List.mem_of_getElem? (i := 14) rfl)) (by decide) (by decide)) (g := (mkF m 204 #[.val (.int i0), .val (.int i1), .val (.int i2), .val (.int i3), .val (.int i4), .val (.long m1), .second, .val (.long m2), .second, .val (.int s1), .val (.int s2), .val (.int (1 : Int32)), .val (.int (1 : Int32)), .val (.int (0 : Int32)), .val (.double (9218868437227405312 : UInt64)), .second, .val (.double (FP.dmul (FP.l2d m2) pb)), .second, .val (.int (0 : Int32)), .unset] [(.double (FP.dmul (FP.l2d m2) pb)), (.double (9218868437227405312 : UInt64))])) rfl (by rw [hml]; rfl) (argsL := [(.double (9218868437227405312 : UInt64)), (.double (FP.dmul (FP.l2d m2) pb))]) (rest := []) (lenOf pd1 rfl) rfl (by show 2 * 0 + _ ≤ _; exact Nat.le_of_eq rfl) (hb hby at_204) (fun _ _ => ⟨rfl, eb, (by decide : 0 + 0 ≤ _), (by decide : 0 + 0 ≤ _)⟩)
    dsimp only [Pt.U, Pt.locs, Pt.cells, Pt.slots] at X8 l8 y8 z8 st8 hQ8
    subst l8 y8 z8
    obtain ⟨rfl, Nz, ez⟩ := hQ8
    have c8 : Steps p.tables e below S0 (T8.setTop (mkF m 207 #[.val (.int i0), .val (.int i1), .val (.int i2), .val (.int i3), .val (.int i4), .val (.long m1), .second, .val (.long m2), .second, .val (.int s1), .val (.int s2), .val (.int (1 : Int32)), .val (.int (1 : Int32)), .val (.int (0 : Int32)), .val (.double (9218868437227405312 : UInt64)), .second, .val (.double (FP.dmul (FP.l2d m2) pb)), .second, .val (.int (0 : Int32)), .unset] [(.int (if (cmpValue (FP.dcmp (FP.dmul 9218868437227405312 (FP.dmul (FP.l2d m2) pb)) (283726776524341248 : UInt64)) .g) < 0 then 1 else 0))])) := by
      refine c7.trans ?_
      show Steps p.tables e below (T5.setTop (mkF m 204 #[.val (.int i0), .val (.int i1), .val (.int i2), .val (.int i3), .val (.int i4), .val (.long m1), .second, .val (.long m2), .second, .val (.int s1), .val (.int s2), .val (.int (1 : Int32)), .val (.int (1 : Int32)), .val (.int (0 : Int32)), .val (.double (9218868437227405312 : UInt64)), .second, .val (.double (FP.dmul (FP.l2d m2) pb)), .second, .val (.int (0 : Int32)), .unset] [(.double (FP.dmul (FP.l2d m2) pb)), (.double (9218868437227405312 : UInt64))])) _
      refine st8 _ ?_
      exact Steps.refl _
    have hcm : (if (cmpValue (FP.dcmp (FP.dmul 9218868437227405312 (FP.dmul (FP.l2d m2) pb)) (283726776524341248 : UInt64)) .g) < 0 then (1 : Int32) else 0) = (0 : Int32) := by rw [hi]; exact if_neg (by decide +kernel : ¬ cmpValue (FP.dcmp 9218868437227405312 283726776524341248) .g < 0)
    rw [hcm] at c8
    have c9 : Steps p.tables e below S0 (T8.setTop (mkF m 217 #[.val (.int i0), .val (.int i1), .val (.int i2), .val (.int i3), .val (.int i4), .val (.long m1), .second, .val (.long m2), .second, .val (.int s1), .val (.int s2), .val (.int (1 : Int32)), .val (.int (1 : Int32)), .val (.int (0 : Int32)), .val (.double (9218868437227405312 : UInt64)), .second, .val (.double (FP.dmul (FP.l2d m2) pb)), .second, .val (.int (0 : Int32)), .unset] [(.int (1 : Int32))])) := by
      refine c8.trans ?_
      show Steps p.tables e below (T8.setTop (mkF m 207 #[.val (.int i0), .val (.int i1), .val (.int i2), .val (.int i3), .val (.int i4), .val (.long m1), .second, .val (.long m2), .second, .val (.int s1), .val (.int s2), .val (.int (1 : Int32)), .val (.int (1 : Int32)), .val (.int (0 : Int32)), .val (.double (9218868437227405312 : UInt64)), .second, .val (.double (FP.dmul (FP.l2d m2) pb)), .second, .val (.int (0 : Int32)), .unset] [(.int (0 : Int32))])) _
      refine XS.iload X8.here hx rfl (hb hby at_207) rfl ?_
      show Steps p.tables e below (T8.setTop (mkF m 209 #[.val (.int i0), .val (.int i1), .val (.int i2), .val (.int i3), .val (.int i4), .val (.long m1), .second, .val (.long m2), .second, .val (.int s1), .val (.int s2), .val (.int (1 : Int32)), .val (.int (1 : Int32)), .val (.int (0 : Int32)), .val (.double (9218868437227405312 : UInt64)), .second, .val (.double (FP.dmul (FP.l2d m2) pb)), .second, .val (.int (0 : Int32)), .unset] [(.int (0 : Int32)), (.int (0 : Int32))])) _
      refine XS.icmpNo X8.here hx rfl (hb hby at_209) rfl (teq rfl).2 ?_
      show Steps p.tables e below (T8.setTop (mkF m 212 #[.val (.int i0), .val (.int i1), .val (.int i2), .val (.int i3), .val (.int i4), .val (.long m1), .second, .val (.long m2), .second, .val (.int s1), .val (.int s2), .val (.int (1 : Int32)), .val (.int (1 : Int32)), .val (.int (0 : Int32)), .val (.double (9218868437227405312 : UInt64)), .second, .val (.double (FP.dmul (FP.l2d m2) pb)), .second, .val (.int (0 : Int32)), .unset] [])) _
      refine XS.iconst X8.here hx rfl (hb hby at_212) ?_
      show Steps p.tables e below (T8.setTop (mkF m 213 #[.val (.int i0), .val (.int i1), .val (.int i2), .val (.int i3), .val (.int i4), .val (.long m1), .second, .val (.long m2), .second, .val (.int s1), .val (.int s2), .val (.int (1 : Int32)), .val (.int (1 : Int32)), .val (.int (0 : Int32)), .val (.double (9218868437227405312 : UInt64)), .second, .val (.double (FP.dmul (FP.l2d m2) pb)), .second, .val (.int (0 : Int32)), .unset] [(.int (1 : Int32))])) _
      refine XS.goto X8.here hx rfl (pc0 := 213) (pc' := 217) rfl (hb hby at_213) (by decide) (by decide) ?_
      exact Steps.refl _
    obtain ⟨fs, hr, hrun, hended, hW, hsame⟩ := X8.leave (v := some (.int 1)) (fun h => by rw [Bd.returns] at h; cases h)
    refine ⟨_, _, c9.trans ?_, hrun, hended, _, _, rfl, ?_, ⟨_, rfl⟩, hW, hsame.mono (by decide) (by decide)⟩
    · show Steps p.tables e below (T8.setTop (mkF m 217 #[.val (.int i0), .val (.int i1), .val (.int i2), .val (.int i3), .val (.int i4), .val (.long m1), .second, .val (.long m2), .second, .val (.int s1), .val (.int s2), .val (.int (1 : Int32)), .val (.int (1 : Int32)), .val (.int (0 : Int32)), .val (.double (9218868437227405312 : UInt64)), .second, .val (.double (FP.dmul (FP.l2d m2) pb)), .second, .val (.int (0 : Int32)), .unset] [(.int (1 : Int32))])) _
      exact retN X8 hx (t := .boolean) Bd.returns (by simp) (hb hby at_217) hr
    · show Q0 Z i0 i1 i2 i3 i4 h0 n0 _ T8.heap _
      rw [ez]
      exact ⟨rfl, Fr.app Nfb Nz⟩
  · by_cases h2 : kd = 2
    · subst h2
      have c10 : Steps p.tables e below S0 (s₁.setTop (mkF m 96 #[.val (.int i0), .val (.int i1), .val (.int i2), .val (.int i3), .val (.int i4), .val (.long m1), .second, .val (.long m2), .second, .val (.int s1), .val (.int s2), .val (.int (2 : Int32)), .val (.int (0 : Int32)), .val (.int (1 : Int32)), .unset, .unset, .unset, .unset, .unset, .unset] [])) := by
        refine c1.trans ?_
        show Steps p.tables e below (s₁.setTop (mkF m 50 #[.val (.int i0), .val (.int i1), .val (.int i2), .val (.int i3), .val (.int i4), .val (.long m1), .second, .val (.long m2), .second, .val (.int s1), .val (.int s2), .val (.int (2 : Int32)), .unset, .unset, .unset, .unset, .unset, .unset, .unset, .unset] [(.int (1 : Int32)), (.int (2 : Int32))])) _
        refine XS.icmpNo X0.here hx rfl (hb hby at_50) rfl (feq (by decide)).1 ?_
        show Steps p.tables e below (s₁.setTop (mkF m 53 #[.val (.int i0), .val (.int i1), .val (.int i2), .val (.int i3), .val (.int i4), .val (.long m1), .second, .val (.long m2), .second, .val (.int s1), .val (.int s2), .val (.int (2 : Int32)), .unset, .unset, .unset, .unset, .unset, .unset, .unset, .unset] [])) _
        refine XS.iload X0.here hx rfl (hb hby at_53) rfl ?_
        show Steps p.tables e below (s₁.setTop (mkF m 55 #[.val (.int i0), .val (.int i1), .val (.int i2), .val (.int i3), .val (.int i4), .val (.long m1), .second, .val (.long m2), .second, .val (.int s1), .val (.int s2), .val (.int (2 : Int32)), .unset, .unset, .unset, .unset, .unset, .unset, .unset, .unset] [(.int (2 : Int32))])) _
        refine XS.iconst X0.here hx rfl (hb hby at_55) ?_
        show Steps p.tables e below (s₁.setTop (mkF m 56 #[.val (.int i0), .val (.int i1), .val (.int i2), .val (.int i3), .val (.int i4), .val (.long m1), .second, .val (.long m2), .second, .val (.int s1), .val (.int s2), .val (.int (2 : Int32)), .unset, .unset, .unset, .unset, .unset, .unset, .unset, .unset] [(.int (3 : Int32)), (.int (2 : Int32))])) _
        refine XS.icmpYes X0.here hx rfl (pc0 := 56) (pc' := 63) rfl (hb hby at_56) rfl (feq (by decide)).2 (by decide) (by decide) ?_
        show Steps p.tables e below (s₁.setTop (mkF m 63 #[.val (.int i0), .val (.int i1), .val (.int i2), .val (.int i3), .val (.int i4), .val (.long m1), .second, .val (.long m2), .second, .val (.int s1), .val (.int s2), .val (.int (2 : Int32)), .unset, .unset, .unset, .unset, .unset, .unset, .unset, .unset] [])) _
        refine XS.iconst X0.here hx rfl (hb hby at_63) ?_
        show Steps p.tables e below (s₁.setTop (mkF m 64 #[.val (.int i0), .val (.int i1), .val (.int i2), .val (.int i3), .val (.int i4), .val (.long m1), .second, .val (.long m2), .second, .val (.int s1), .val (.int s2), .val (.int (2 : Int32)), .unset, .unset, .unset, .unset, .unset, .unset, .unset, .unset] [(.int (0 : Int32))])) _
        refine XS.istore X0.here hx rfl (hb hby at_64) rfl (l' := #[.val (.int i0), .val (.int i1), .val (.int i2), .val (.int i3), .val (.int i4), .val (.long m1), .second, .val (.long m2), .second, .val (.int s1), .val (.int s2), .val (.int (2 : Int32)), .val (.int (0 : Int32)), .unset, .unset, .unset, .unset, .unset, .unset, .unset]) rfl ?_
        show Steps p.tables e below (s₁.setTop (mkF m 66 #[.val (.int i0), .val (.int i1), .val (.int i2), .val (.int i3), .val (.int i4), .val (.long m1), .second, .val (.long m2), .second, .val (.int s1), .val (.int s2), .val (.int (2 : Int32)), .val (.int (0 : Int32)), .unset, .unset, .unset, .unset, .unset, .unset, .unset] [])) _
        refine XS.iload X0.here hx rfl (hb hby at_66) rfl ?_
        show Steps p.tables e below (s₁.setTop (mkF m 68 #[.val (.int i0), .val (.int i1), .val (.int i2), .val (.int i3), .val (.int i4), .val (.long m1), .second, .val (.long m2), .second, .val (.int s1), .val (.int s2), .val (.int (2 : Int32)), .val (.int (0 : Int32)), .unset, .unset, .unset, .unset, .unset, .unset, .unset] [(.int (2 : Int32))])) _
        refine XS.iconst X0.here hx rfl (hb hby at_68) ?_
        show Steps p.tables e below (s₁.setTop (mkF m 69 #[.val (.int i0), .val (.int i1), .val (.int i2), .val (.int i3), .val (.int i4), .val (.long m1), .second, .val (.long m2), .second, .val (.int s1), .val (.int s2), .val (.int (2 : Int32)), .val (.int (0 : Int32)), .unset, .unset, .unset, .unset, .unset, .unset, .unset] [(.int (2 : Int32)), (.int (2 : Int32))])) _
        refine XS.icmpYes X0.here hx rfl (pc0 := 69) (pc' := 78) rfl (hb hby at_69) rfl (teq rfl).1 (by decide) (by decide) ?_
        show Steps p.tables e below (s₁.setTop (mkF m 78 #[.val (.int i0), .val (.int i1), .val (.int i2), .val (.int i3), .val (.int i4), .val (.long m1), .second, .val (.long m2), .second, .val (.int s1), .val (.int s2), .val (.int (2 : Int32)), .val (.int (0 : Int32)), .unset, .unset, .unset, .unset, .unset, .unset, .unset] [])) _
        refine XS.iconst X0.here hx rfl (hb hby at_78) ?_
        show Steps p.tables e below (s₁.setTop (mkF m 79 #[.val (.int i0), .val (.int i1), .val (.int i2), .val (.int i3), .val (.int i4), .val (.long m1), .second, .val (.long m2), .second, .val (.int s1), .val (.int s2), .val (.int (2 : Int32)), .val (.int (0 : Int32)), .unset, .unset, .unset, .unset, .unset, .unset, .unset] [(.int (1 : Int32))])) _
        refine XS.goto X0.here hx rfl (pc0 := 79) (pc' := 83) rfl (hb hby at_79) (by decide) (by decide) ?_
        show Steps p.tables e below (s₁.setTop (mkF m 83 #[.val (.int i0), .val (.int i1), .val (.int i2), .val (.int i3), .val (.int i4), .val (.long m1), .second, .val (.long m2), .second, .val (.int s1), .val (.int s2), .val (.int (2 : Int32)), .val (.int (0 : Int32)), .unset, .unset, .unset, .unset, .unset, .unset, .unset] [(.int (1 : Int32))])) _
        refine XS.istore X0.here hx rfl (hb hby at_83) rfl (l' := #[.val (.int i0), .val (.int i1), .val (.int i2), .val (.int i3), .val (.int i4), .val (.long m1), .second, .val (.long m2), .second, .val (.int s1), .val (.int s2), .val (.int (2 : Int32)), .val (.int (0 : Int32)), .val (.int (1 : Int32)), .unset, .unset, .unset, .unset, .unset, .unset]) rfl ?_
        show Steps p.tables e below (s₁.setTop (mkF m 85 #[.val (.int i0), .val (.int i1), .val (.int i2), .val (.int i3), .val (.int i4), .val (.long m1), .second, .val (.long m2), .second, .val (.int s1), .val (.int s2), .val (.int (2 : Int32)), .val (.int (0 : Int32)), .val (.int (1 : Int32)), .unset, .unset, .unset, .unset, .unset, .unset] [])) _
        refine XS.iload X0.here hx rfl (hb hby at_85) rfl ?_
        show Steps p.tables e below (s₁.setTop (mkF m 87 #[.val (.int i0), .val (.int i1), .val (.int i2), .val (.int i3), .val (.int i4), .val (.long m1), .second, .val (.long m2), .second, .val (.int s1), .val (.int s2), .val (.int (2 : Int32)), .val (.int (0 : Int32)), .val (.int (1 : Int32)), .unset, .unset, .unset, .unset, .unset, .unset] [(.int (0 : Int32))])) _
        refine XS.ifYes X0.here hx rfl (pc0 := 87) (pc' := 96) rfl (hb hby at_87) rfl ((if0 _ _).trans (teq rfl).1) (by decide) (by decide) ?_
        exact Steps.refl _
      have c11 : Steps p.tables e below S0 (s₁.setTop (mkF m 101 #[.val (.int i0), .val (.int i1), .val (.int i2), .val (.int i3), .val (.int i4), .val (.long m1), .second, .val (.long m2), .second, .val (.int s1), .val (.int s2), .val (.int (2 : Int32)), .val (.int (0 : Int32)), .val (.int (1 : Int32)), .unset, .unset, .unset, .unset, .unset, .unset] [(.int s1), (.double (FP.l2d m1))])) := by
        refine c10.trans ?_
        show Steps p.tables e below (s₁.setTop (mkF m 96 #[.val (.int i0), .val (.int i1), .val (.int i2), .val (.int i3), .val (.int i4), .val (.long m1), .second, .val (.long m2), .second, .val (.int s1), .val (.int s2), .val (.int (2 : Int32)), .val (.int (0 : Int32)), .val (.int (1 : Int32)), .unset, .unset, .unset, .unset, .unset, .unset] [])) _
        refine XS.lload X0.here hx rfl (hb hby at_96) rfl ?_
        show Steps p.tables e below (s₁.setTop (mkF m 98 #[.val (.int i0), .val (.int i1), .val (.int i2), .val (.int i3), .val (.int i4), .val (.long m1), .second, .val (.long m2), .second, .val (.int s1), .val (.int s2), .val (.int (2 : Int32)), .val (.int (0 : Int32)), .val (.int (1 : Int32)), .unset, .unset, .unset, .unset, .unset, .unset] [(.long m1)])) _
        refine XS.l2dS X0.here hx rfl (v := (FP.l2d m1)) (hb hby at_98) rfl rfl ?_
        show Steps p.tables e below (s₁.setTop (mkF m 99 #[.val (.int i0), .val (.int i1), .val (.int i2), .val (.int i3), .val (.int i4), .val (.long m1), .second, .val (.long m2), .second, .val (.int s1), .val (.int s2), .val (.int (2 : Int32)), .val (.int (0 : Int32)), .val (.int (1 : Int32)), .unset, .unset, .unset, .unset, .unset, .unset] [(.double (FP.l2d m1))])) _
        refine XS.iload X0.here hx rfl (hb hby at_99) rfl ?_
        exact Steps.refl _
      obtain ⟨_, _, ⟨T12, L12, k12, n12⟩, -, X12, ⟨Lc12, hQ12, l12, y12, z12⟩, st12⟩ := Jvm.LawKit.callS X0 hx (y := (⟨"com/example/tight_reach/tightreach/RoundedProductsMayUnderflowPinLaw", "pow2", "(I)D"⟩ : MethodName)) hown (mvT hZ (hw _ (List.mem_of_getElem? (i := 1) rfl))) (mvT hZ (hw _ (List.mem_of_getElem? (i := 2) rfl))) (mvT hZ (hw _ (List.mem_of_getElem? (i := 3) rfl))) (mvT hZ (hw _ (List.mem_of_getElem? (i := 4) rfl))) (by decide) (backOf (W := 2) (rm3 l Z a0 hw [] s1 E1 h0 n0 Z0 hE1p) hZ (hw _ (List.mem_of_getElem? (i := 4) rfl)) (hw _ (List.mem_of_getElem? (i := 3) rfl)) (by decide) (by decide)) (g := (mkF m 101 #[.val (.int i0), .val (.int i1), .val (.int i2), .val (.int i3), .val (.int i4), .val (.long m1), .second, .val (.long m2), .second, .val (.int s1), .val (.int s2), .val (.int (2 : Int32)), .val (.int (0 : Int32)), .val (.int (1 : Int32)), .unset, .unset, .unset, .unset, .unset, .unset] [(.int s1), (.double (FP.l2d m1))])) rfl (by rw [hml]; rfl) (argsL := [(.int s1)]) (rest := [(.double (FP.l2d m1))]) (lenOf pd0 rfl) rfl (by show 2 * 0 + _ ≤ _; exact Nat.le_of_eq rfl) (hb hby at_101) (fun _ _ => ⟨rfl, e0, (by decide : 0 + 0 ≤ _), (by decide : 0 + 0 ≤ _)⟩)
      dsimp only [Pt.U, Pt.locs, Pt.cells, Pt.slots] at X12 l12 y12 z12 st12 hQ12
      subst l12 y12 z12
      obtain ⟨⟨pb, rfl, hpb⟩, Nb, eb⟩ := hQ12
      have c12 : Steps p.tables e below S0 (T12.setTop (mkF m 104 #[.val (.int i0), .val (.int i1), .val (.int i2), .val (.int i3), .val (.int i4), .val (.long m1), .second, .val (.long m2), .second, .val (.int s1), .val (.int s2), .val (.int (2 : Int32)), .val (.int (0 : Int32)), .val (.int (1 : Int32)), .unset, .unset, .unset, .unset, .unset, .unset] [(.double pb), (.double (FP.l2d m1))])) := by
        refine c11.trans ?_
        show Steps p.tables e below (s₁.setTop (mkF m 101 #[.val (.int i0), .val (.int i1), .val (.int i2), .val (.int i3), .val (.int i4), .val (.long m1), .second, .val (.long m2), .second, .val (.int s1), .val (.int s2), .val (.int (2 : Int32)), .val (.int (0 : Int32)), .val (.int (1 : Int32)), .unset, .unset, .unset, .unset, .unset, .unset] [(.int s1), (.double (FP.l2d m1))])) _
        refine st12 _ ?_
        exact Steps.refl _
      have hvb : DV (FP.dmul (FP.l2d m1) pb) M1 E1 := own_left hM1 hM1l hM1u hE1 hpb
      have Nfb := Fr.app N0 Nb
      have c13 : Steps p.tables e below S0 (T12.setTop (mkF m 200 #[.val (.int i0), .val (.int i1), .val (.int i2), .val (.int i3), .val (.int i4), .val (.long m1), .second, .val (.long m2), .second, .val (.int s1), .val (.int s2), .val (.int (2 : Int32)), .val (.int (0 : Int32)), .val (.int (1 : Int32)), .val (.double (FP.dmul (FP.l2d m1) pb)), .second, .val (.double (9218868437227405312 : UInt64)), .second, .val (.int (0 : Int32)), .unset] [])) := by
        refine c12.trans ?_
        show Steps p.tables e below (T12.setTop (mkF m 104 #[.val (.int i0), .val (.int i1), .val (.int i2), .val (.int i3), .val (.int i4), .val (.long m1), .second, .val (.long m2), .second, .val (.int s1), .val (.int s2), .val (.int (2 : Int32)), .val (.int (0 : Int32)), .val (.int (1 : Int32)), .unset, .unset, .unset, .unset, .unset, .unset] [(.double pb), (.double (FP.l2d m1))])) _
        refine XS.dmulS X12.here hx rfl (v := (FP.dmul (FP.l2d m1) pb)) (hb hby at_104) rfl hvb.noNaN rfl ?_
        show Steps p.tables e below (T12.setTop (mkF m 105 #[.val (.int i0), .val (.int i1), .val (.int i2), .val (.int i3), .val (.int i4), .val (.long m1), .second, .val (.long m2), .second, .val (.int s1), .val (.int s2), .val (.int (2 : Int32)), .val (.int (0 : Int32)), .val (.int (1 : Int32)), .unset, .unset, .unset, .unset, .unset, .unset] [(.double (FP.dmul (FP.l2d m1) pb))])) _
        refine XS.dstore X12.here hx rfl (hb hby at_105) rfl (l' := #[.val (.int i0), .val (.int i1), .val (.int i2), .val (.int i3), .val (.int i4), .val (.long m1), .second, .val (.long m2), .second, .val (.int s1), .val (.int s2), .val (.int (2 : Int32)), .val (.int (0 : Int32)), .val (.int (1 : Int32)), .val (.double (FP.dmul (FP.l2d m1) pb)), .second, .unset, .unset, .unset, .unset]) rfl ?_
        show Steps p.tables e below (T12.setTop (mkF m 107 #[.val (.int i0), .val (.int i1), .val (.int i2), .val (.int i3), .val (.int i4), .val (.long m1), .second, .val (.long m2), .second, .val (.int s1), .val (.int s2), .val (.int (2 : Int32)), .val (.int (0 : Int32)), .val (.int (1 : Int32)), .val (.double (FP.dmul (FP.l2d m1) pb)), .second, .unset, .unset, .unset, .unset] [])) _
        refine XS.iload X12.here hx rfl (hb hby at_107) rfl ?_
        show Steps p.tables e below (T12.setTop (mkF m 109 #[.val (.int i0), .val (.int i1), .val (.int i2), .val (.int i3), .val (.int i4), .val (.long m1), .second, .val (.long m2), .second, .val (.int s1), .val (.int s2), .val (.int (2 : Int32)), .val (.int (0 : Int32)), .val (.int (1 : Int32)), .val (.double (FP.dmul (FP.l2d m1) pb)), .second, .unset, .unset, .unset, .unset] [(.int (1 : Int32))])) _
        refine XS.ifNo X12.here hx rfl (hb hby at_109) rfl ((if0 _ _).trans (feq (by decide)).1) ?_
        show Steps p.tables e below (T12.setTop (mkF m 112 #[.val (.int i0), .val (.int i1), .val (.int i2), .val (.int i3), .val (.int i4), .val (.long m1), .second, .val (.long m2), .second, .val (.int s1), .val (.int s2), .val (.int (2 : Int32)), .val (.int (0 : Int32)), .val (.int (1 : Int32)), .val (.double (FP.dmul (FP.l2d m1) pb)), .second, .unset, .unset, .unset, .unset] [])) _
        refine X12.ldc2DoubleC hx hown (mvT hZ (hw _ (List.mem_of_getElem? (i := 17) rfl))) (g := (mkF m 112 #[.val (.int i0), .val (.int i1), .val (.int i2), .val (.int i3), .val (.int i4), .val (.long m1), .second, .val (.long m2), .second, .val (.int s1), .val (.int s2), .val (.int (2 : Int32)), .val (.int (0 : Int32)), .val (.int (1 : Int32)), .val (.double (FP.dmul (FP.l2d m1) pb)), .second, .unset, .unset, .unset, .unset] [])) rfl (hb hby at_112) _ ?_
        show Steps p.tables e below (T12.setTop (mkF m 115 #[.val (.int i0), .val (.int i1), .val (.int i2), .val (.int i3), .val (.int i4), .val (.long m1), .second, .val (.long m2), .second, .val (.int s1), .val (.int s2), .val (.int (2 : Int32)), .val (.int (0 : Int32)), .val (.int (1 : Int32)), .val (.double (FP.dmul (FP.l2d m1) pb)), .second, .unset, .unset, .unset, .unset] [(.double (9218868437227405312 : UInt64))])) _
        refine XS.goto X12.here hx rfl (pc0 := 115) (pc' := 127) rfl (hb hby at_115) (by decide) (by decide) ?_
        show Steps p.tables e below (T12.setTop (mkF m 127 #[.val (.int i0), .val (.int i1), .val (.int i2), .val (.int i3), .val (.int i4), .val (.long m1), .second, .val (.long m2), .second, .val (.int s1), .val (.int s2), .val (.int (2 : Int32)), .val (.int (0 : Int32)), .val (.int (1 : Int32)), .val (.double (FP.dmul (FP.l2d m1) pb)), .second, .unset, .unset, .unset, .unset] [(.double (9218868437227405312 : UInt64))])) _
        refine XS.dstore X12.here hx rfl (hb hby at_127) rfl (l' := #[.val (.int i0), .val (.int i1), .val (.int i2), .val (.int i3), .val (.int i4), .val (.long m1), .second, .val (.long m2), .second, .val (.int s1), .val (.int s2), .val (.int (2 : Int32)), .val (.int (0 : Int32)), .val (.int (1 : Int32)), .val (.double (FP.dmul (FP.l2d m1) pb)), .second, .val (.double (9218868437227405312 : UInt64)), .second, .unset, .unset]) rfl ?_
        show Steps p.tables e below (T12.setTop (mkF m 129 #[.val (.int i0), .val (.int i1), .val (.int i2), .val (.int i3), .val (.int i4), .val (.long m1), .second, .val (.long m2), .second, .val (.int s1), .val (.int s2), .val (.int (2 : Int32)), .val (.int (0 : Int32)), .val (.int (1 : Int32)), .val (.double (FP.dmul (FP.l2d m1) pb)), .second, .val (.double (9218868437227405312 : UInt64)), .second, .unset, .unset] [])) _
        refine XS.iload X12.here hx rfl (hb hby at_129) rfl ?_
        show Steps p.tables e below (T12.setTop (mkF m 131 #[.val (.int i0), .val (.int i1), .val (.int i2), .val (.int i3), .val (.int i4), .val (.long m1), .second, .val (.long m2), .second, .val (.int s1), .val (.int s2), .val (.int (2 : Int32)), .val (.int (0 : Int32)), .val (.int (1 : Int32)), .val (.double (FP.dmul (FP.l2d m1) pb)), .second, .val (.double (9218868437227405312 : UInt64)), .second, .unset, .unset] [(.int (0 : Int32))])) _
        refine XS.ifNo X12.here hx rfl (hb hby at_131) rfl ((if0 _ _).trans (teq rfl).2) ?_
        show Steps p.tables e below (T12.setTop (mkF m 134 #[.val (.int i0), .val (.int i1), .val (.int i2), .val (.int i3), .val (.int i4), .val (.long m1), .second, .val (.long m2), .second, .val (.int s1), .val (.int s2), .val (.int (2 : Int32)), .val (.int (0 : Int32)), .val (.int (1 : Int32)), .val (.double (FP.dmul (FP.l2d m1) pb)), .second, .val (.double (9218868437227405312 : UInt64)), .second, .unset, .unset] [])) _
        refine XS.iload X12.here hx rfl (hb hby at_134) rfl ?_
        show Steps p.tables e below (T12.setTop (mkF m 136 #[.val (.int i0), .val (.int i1), .val (.int i2), .val (.int i3), .val (.int i4), .val (.long m1), .second, .val (.long m2), .second, .val (.int s1), .val (.int s2), .val (.int (2 : Int32)), .val (.int (0 : Int32)), .val (.int (1 : Int32)), .val (.double (FP.dmul (FP.l2d m1) pb)), .second, .val (.double (9218868437227405312 : UInt64)), .second, .unset, .unset] [(.int (1 : Int32))])) _
        refine XS.ifNo X12.here hx rfl (hb hby at_136) rfl ((if0 _ _).trans (feq (by decide)).1) ?_
        show Steps p.tables e below (T12.setTop (mkF m 139 #[.val (.int i0), .val (.int i1), .val (.int i2), .val (.int i3), .val (.int i4), .val (.long m1), .second, .val (.long m2), .second, .val (.int s1), .val (.int s2), .val (.int (2 : Int32)), .val (.int (0 : Int32)), .val (.int (1 : Int32)), .val (.double (FP.dmul (FP.l2d m1) pb)), .second, .val (.double (9218868437227405312 : UInt64)), .second, .unset, .unset] [])) _
        refine XS.iconst X12.here hx rfl (hb hby at_139) ?_
        show Steps p.tables e below (T12.setTop (mkF m 140 #[.val (.int i0), .val (.int i1), .val (.int i2), .val (.int i3), .val (.int i4), .val (.long m1), .second, .val (.long m2), .second, .val (.int s1), .val (.int s2), .val (.int (2 : Int32)), .val (.int (0 : Int32)), .val (.int (1 : Int32)), .val (.double (FP.dmul (FP.l2d m1) pb)), .second, .val (.double (9218868437227405312 : UInt64)), .second, .unset, .unset] [(.int (0 : Int32))])) _
        refine XS.istore X12.here hx rfl (hb hby at_140) rfl (l' := #[.val (.int i0), .val (.int i1), .val (.int i2), .val (.int i3), .val (.int i4), .val (.long m1), .second, .val (.long m2), .second, .val (.int s1), .val (.int s2), .val (.int (2 : Int32)), .val (.int (0 : Int32)), .val (.int (1 : Int32)), .val (.double (FP.dmul (FP.l2d m1) pb)), .second, .val (.double (9218868437227405312 : UInt64)), .second, .val (.int (0 : Int32)), .unset]) rfl ?_
        show Steps p.tables e below (T12.setTop (mkF m 142 #[.val (.int i0), .val (.int i1), .val (.int i2), .val (.int i3), .val (.int i4), .val (.long m1), .second, .val (.long m2), .second, .val (.int s1), .val (.int s2), .val (.int (2 : Int32)), .val (.int (0 : Int32)), .val (.int (1 : Int32)), .val (.double (FP.dmul (FP.l2d m1) pb)), .second, .val (.double (9218868437227405312 : UInt64)), .second, .val (.int (0 : Int32)), .unset] [])) _
        refine XS.goto X12.here hx rfl (pc0 := 142) (pc' := 200) rfl (hb hby at_142) (by decide) (by decide) ?_
        exact Steps.refl _
      have hi : FP.dmul (FP.dmul (FP.l2d m1) pb) 9218868437227405312 = 9218868437227405312 := mul_inf hvb (by omega)
      have c14 : Steps p.tables e below S0 (T12.setTop (mkF m 204 #[.val (.int i0), .val (.int i1), .val (.int i2), .val (.int i3), .val (.int i4), .val (.long m1), .second, .val (.long m2), .second, .val (.int s1), .val (.int s2), .val (.int (2 : Int32)), .val (.int (0 : Int32)), .val (.int (1 : Int32)), .val (.double (FP.dmul (FP.l2d m1) pb)), .second, .val (.double (9218868437227405312 : UInt64)), .second, .val (.int (0 : Int32)), .unset] [(.double (9218868437227405312 : UInt64)), (.double (FP.dmul (FP.l2d m1) pb))])) := by
        refine c13.trans ?_
        show Steps p.tables e below (T12.setTop (mkF m 200 #[.val (.int i0), .val (.int i1), .val (.int i2), .val (.int i3), .val (.int i4), .val (.long m1), .second, .val (.long m2), .second, .val (.int s1), .val (.int s2), .val (.int (2 : Int32)), .val (.int (0 : Int32)), .val (.int (1 : Int32)), .val (.double (FP.dmul (FP.l2d m1) pb)), .second, .val (.double (9218868437227405312 : UInt64)), .second, .val (.int (0 : Int32)), .unset] [])) _
        refine XS.dload X12.here hx rfl (hb hby at_200) rfl ?_
        show Steps p.tables e below (T12.setTop (mkF m 202 #[.val (.int i0), .val (.int i1), .val (.int i2), .val (.int i3), .val (.int i4), .val (.long m1), .second, .val (.long m2), .second, .val (.int s1), .val (.int s2), .val (.int (2 : Int32)), .val (.int (0 : Int32)), .val (.int (1 : Int32)), .val (.double (FP.dmul (FP.l2d m1) pb)), .second, .val (.double (9218868437227405312 : UInt64)), .second, .val (.int (0 : Int32)), .unset] [(.double (FP.dmul (FP.l2d m1) pb))])) _
        refine XS.dload X12.here hx rfl (hb hby at_202) rfl ?_
        exact Steps.refl _
      obtain ⟨_, _, ⟨T15, L15, k15, n15⟩, -, X15, ⟨Lc15, hQ15, l15, y15, z15⟩, st15⟩ := Jvm.LawKit.callS X12 hx (y := (⟨"com/example/tight_reach/tightreach/RoundedProducts", "mayUnderflow", "(DD)Z"⟩ : MethodName)) hown (mvT hZ (hw _ (List.mem_of_getElem? (i := 12) rfl))) (mvT hZ (hw _ (List.mem_of_getElem? (i := 13) rfl))) (mvT hZ (hw _ (List.mem_of_getElem? (i := 14) rfl))) (mvT hZ (hw _ (List.mem_of_getElem? (i := 15) rfl))) (by decide) (backOf (W := 0) (rm34 l Z a0 hw [] (FP.dmul (FP.l2d m1) pb) 9218868437227405312 h0 n0 Z0 (by rw [hi]; unfold Jvm.Free.Fl.NoNaN64; decide)) hZ (hw _ (List.mem_of_getElem? (i := 15) rfl)) (hw _ (List.mem_of_getElem? (i := 14) rfl)) (by decide) (by decide)) (g := (mkF m 204 #[.val (.int i0), .val (.int i1), .val (.int i2), .val (.int i3), .val (.int i4), .val (.long m1), .second, .val (.long m2), .second, .val (.int s1), .val (.int s2), .val (.int (2 : Int32)), .val (.int (0 : Int32)), .val (.int (1 : Int32)), .val (.double (FP.dmul (FP.l2d m1) pb)), .second, .val (.double (9218868437227405312 : UInt64)), .second, .val (.int (0 : Int32)), .unset] [(.double (9218868437227405312 : UInt64)), (.double (FP.dmul (FP.l2d m1) pb))])) rfl (by rw [hml]; rfl) (argsL := [(.double (FP.dmul (FP.l2d m1) pb)), (.double (9218868437227405312 : UInt64))]) (rest := []) (lenOf pd1 rfl) rfl (by show 2 * 0 + _ ≤ _; exact Nat.le_of_eq rfl) (hb hby at_204) (fun _ _ => ⟨rfl, eb, (by decide : 0 + 0 ≤ _), (by decide : 0 + 0 ≤ _)⟩)
      dsimp only [Pt.U, Pt.locs, Pt.cells, Pt.slots] at X15 l15 y15 z15 st15 hQ15
      subst l15 y15 z15
      obtain ⟨rfl, Nz, ez⟩ := hQ15
      have c15 : Steps p.tables e below S0 (T15.setTop (mkF m 207 #[.val (.int i0), .val (.int i1), .val (.int i2), .val (.int i3), .val (.int i4), .val (.long m1), .second, .val (.long m2), .second, .val (.int s1), .val (.int s2), .val (.int (2 : Int32)), .val (.int (0 : Int32)), .val (.int (1 : Int32)), .val (.double (FP.dmul (FP.l2d m1) pb)), .second, .val (.double (9218868437227405312 : UInt64)), .second, .val (.int (0 : Int32)), .unset] [(.int (if (cmpValue (FP.dcmp (FP.dmul (FP.dmul (FP.l2d m1) pb) 9218868437227405312) (283726776524341248 : UInt64)) .g) < 0 then 1 else 0))])) := by
        refine c14.trans ?_
        show Steps p.tables e below (T12.setTop (mkF m 204 #[.val (.int i0), .val (.int i1), .val (.int i2), .val (.int i3), .val (.int i4), .val (.long m1), .second, .val (.long m2), .second, .val (.int s1), .val (.int s2), .val (.int (2 : Int32)), .val (.int (0 : Int32)), .val (.int (1 : Int32)), .val (.double (FP.dmul (FP.l2d m1) pb)), .second, .val (.double (9218868437227405312 : UInt64)), .second, .val (.int (0 : Int32)), .unset] [(.double (9218868437227405312 : UInt64)), (.double (FP.dmul (FP.l2d m1) pb))])) _
        refine st15 _ ?_
        exact Steps.refl _
      have hcm : (if (cmpValue (FP.dcmp (FP.dmul (FP.dmul (FP.l2d m1) pb) 9218868437227405312) (283726776524341248 : UInt64)) .g) < 0 then (1 : Int32) else 0) = (0 : Int32) := by rw [hi]; exact if_neg (by decide +kernel : ¬ cmpValue (FP.dcmp 9218868437227405312 283726776524341248) .g < 0)
      rw [hcm] at c15
      have c16 : Steps p.tables e below S0 (T15.setTop (mkF m 217 #[.val (.int i0), .val (.int i1), .val (.int i2), .val (.int i3), .val (.int i4), .val (.long m1), .second, .val (.long m2), .second, .val (.int s1), .val (.int s2), .val (.int (2 : Int32)), .val (.int (0 : Int32)), .val (.int (1 : Int32)), .val (.double (FP.dmul (FP.l2d m1) pb)), .second, .val (.double (9218868437227405312 : UInt64)), .second, .val (.int (0 : Int32)), .unset] [(.int (1 : Int32))])) := by
        refine c15.trans ?_
        show Steps p.tables e below (T15.setTop (mkF m 207 #[.val (.int i0), .val (.int i1), .val (.int i2), .val (.int i3), .val (.int i4), .val (.long m1), .second, .val (.long m2), .second, .val (.int s1), .val (.int s2), .val (.int (2 : Int32)), .val (.int (0 : Int32)), .val (.int (1 : Int32)), .val (.double (FP.dmul (FP.l2d m1) pb)), .second, .val (.double (9218868437227405312 : UInt64)), .second, .val (.int (0 : Int32)), .unset] [(.int (0 : Int32))])) _
        refine XS.iload X15.here hx rfl (hb hby at_207) rfl ?_
        show Steps p.tables e below (T15.setTop (mkF m 209 #[.val (.int i0), .val (.int i1), .val (.int i2), .val (.int i3), .val (.int i4), .val (.long m1), .second, .val (.long m2), .second, .val (.int s1), .val (.int s2), .val (.int (2 : Int32)), .val (.int (0 : Int32)), .val (.int (1 : Int32)), .val (.double (FP.dmul (FP.l2d m1) pb)), .second, .val (.double (9218868437227405312 : UInt64)), .second, .val (.int (0 : Int32)), .unset] [(.int (0 : Int32)), (.int (0 : Int32))])) _
        refine XS.icmpNo X15.here hx rfl (hb hby at_209) rfl (teq rfl).2 ?_
        show Steps p.tables e below (T15.setTop (mkF m 212 #[.val (.int i0), .val (.int i1), .val (.int i2), .val (.int i3), .val (.int i4), .val (.long m1), .second, .val (.long m2), .second, .val (.int s1), .val (.int s2), .val (.int (2 : Int32)), .val (.int (0 : Int32)), .val (.int (1 : Int32)), .val (.double (FP.dmul (FP.l2d m1) pb)), .second, .val (.double (9218868437227405312 : UInt64)), .second, .val (.int (0 : Int32)), .unset] [])) _
        refine XS.iconst X15.here hx rfl (hb hby at_212) ?_
        show Steps p.tables e below (T15.setTop (mkF m 213 #[.val (.int i0), .val (.int i1), .val (.int i2), .val (.int i3), .val (.int i4), .val (.long m1), .second, .val (.long m2), .second, .val (.int s1), .val (.int s2), .val (.int (2 : Int32)), .val (.int (0 : Int32)), .val (.int (1 : Int32)), .val (.double (FP.dmul (FP.l2d m1) pb)), .second, .val (.double (9218868437227405312 : UInt64)), .second, .val (.int (0 : Int32)), .unset] [(.int (1 : Int32))])) _
        refine XS.goto X15.here hx rfl (pc0 := 213) (pc' := 217) rfl (hb hby at_213) (by decide) (by decide) ?_
        exact Steps.refl _
      obtain ⟨fs, hr, hrun, hended, hW, hsame⟩ := X15.leave (v := some (.int 1)) (fun h => by rw [Bd.returns] at h; cases h)
      refine ⟨_, _, c16.trans ?_, hrun, hended, _, _, rfl, ?_, ⟨_, rfl⟩, hW, hsame.mono (by decide) (by decide)⟩
      · show Steps p.tables e below (T15.setTop (mkF m 217 #[.val (.int i0), .val (.int i1), .val (.int i2), .val (.int i3), .val (.int i4), .val (.long m1), .second, .val (.long m2), .second, .val (.int s1), .val (.int s2), .val (.int (2 : Int32)), .val (.int (0 : Int32)), .val (.int (1 : Int32)), .val (.double (FP.dmul (FP.l2d m1) pb)), .second, .val (.double (9218868437227405312 : UInt64)), .second, .val (.int (0 : Int32)), .unset] [(.int (1 : Int32))])) _
        exact retN X15 hx (t := .boolean) Bd.returns (by simp) (hb hby at_217) hr
      · show Q0 Z i0 i1 i2 i3 i4 h0 n0 _ T15.heap _
        rw [ez]
        exact ⟨rfl, Fr.app Nfb Nz⟩
    · by_cases h3 : kd = 3
      · subst h3
        have c17 : Steps p.tables e below S0 (s₁.setTop (mkF m 200 #[.val (.int i0), .val (.int i1), .val (.int i2), .val (.int i3), .val (.int i4), .val (.long m1), .second, .val (.long m2), .second, .val (.int s1), .val (.int s2), .val (.int (3 : Int32)), .val (.int (1 : Int32)), .val (.int (1 : Int32)), .val (.double (9218868437227405312 : UInt64)), .second, .val (.double (9218868437227405312 : UInt64)), .second, .val (.int (0 : Int32)), .unset] [])) := by
          refine c1.trans ?_
          show Steps p.tables e below (s₁.setTop (mkF m 50 #[.val (.int i0), .val (.int i1), .val (.int i2), .val (.int i3), .val (.int i4), .val (.long m1), .second, .val (.long m2), .second, .val (.int s1), .val (.int s2), .val (.int (3 : Int32)), .unset, .unset, .unset, .unset, .unset, .unset, .unset, .unset] [(.int (1 : Int32)), (.int (3 : Int32))])) _
          refine XS.icmpNo X0.here hx rfl (hb hby at_50) rfl (feq (by decide)).1 ?_
          show Steps p.tables e below (s₁.setTop (mkF m 53 #[.val (.int i0), .val (.int i1), .val (.int i2), .val (.int i3), .val (.int i4), .val (.long m1), .second, .val (.long m2), .second, .val (.int s1), .val (.int s2), .val (.int (3 : Int32)), .unset, .unset, .unset, .unset, .unset, .unset, .unset, .unset] [])) _
          refine XS.iload X0.here hx rfl (hb hby at_53) rfl ?_
          show Steps p.tables e below (s₁.setTop (mkF m 55 #[.val (.int i0), .val (.int i1), .val (.int i2), .val (.int i3), .val (.int i4), .val (.long m1), .second, .val (.long m2), .second, .val (.int s1), .val (.int s2), .val (.int (3 : Int32)), .unset, .unset, .unset, .unset, .unset, .unset, .unset, .unset] [(.int (3 : Int32))])) _
          refine XS.iconst X0.here hx rfl (hb hby at_55) ?_
          show Steps p.tables e below (s₁.setTop (mkF m 56 #[.val (.int i0), .val (.int i1), .val (.int i2), .val (.int i3), .val (.int i4), .val (.long m1), .second, .val (.long m2), .second, .val (.int s1), .val (.int s2), .val (.int (3 : Int32)), .unset, .unset, .unset, .unset, .unset, .unset, .unset, .unset] [(.int (3 : Int32)), (.int (3 : Int32))])) _
          refine XS.icmpNo X0.here hx rfl (hb hby at_56) rfl (teq rfl).2 ?_
          show Steps p.tables e below (s₁.setTop (mkF m 59 #[.val (.int i0), .val (.int i1), .val (.int i2), .val (.int i3), .val (.int i4), .val (.long m1), .second, .val (.long m2), .second, .val (.int s1), .val (.int s2), .val (.int (3 : Int32)), .unset, .unset, .unset, .unset, .unset, .unset, .unset, .unset] [])) _
          refine XS.iconst X0.here hx rfl (hb hby at_59) ?_
          show Steps p.tables e below (s₁.setTop (mkF m 60 #[.val (.int i0), .val (.int i1), .val (.int i2), .val (.int i3), .val (.int i4), .val (.long m1), .second, .val (.long m2), .second, .val (.int s1), .val (.int s2), .val (.int (3 : Int32)), .unset, .unset, .unset, .unset, .unset, .unset, .unset, .unset] [(.int (1 : Int32))])) _
          refine XS.goto X0.here hx rfl (pc0 := 60) (pc' := 64) rfl (hb hby at_60) (by decide) (by decide) ?_
          show Steps p.tables e below (s₁.setTop (mkF m 64 #[.val (.int i0), .val (.int i1), .val (.int i2), .val (.int i3), .val (.int i4), .val (.long m1), .second, .val (.long m2), .second, .val (.int s1), .val (.int s2), .val (.int (3 : Int32)), .unset, .unset, .unset, .unset, .unset, .unset, .unset, .unset] [(.int (1 : Int32))])) _
          refine XS.istore X0.here hx rfl (hb hby at_64) rfl (l' := #[.val (.int i0), .val (.int i1), .val (.int i2), .val (.int i3), .val (.int i4), .val (.long m1), .second, .val (.long m2), .second, .val (.int s1), .val (.int s2), .val (.int (3 : Int32)), .val (.int (1 : Int32)), .unset, .unset, .unset, .unset, .unset, .unset, .unset]) rfl ?_
          show Steps p.tables e below (s₁.setTop (mkF m 66 #[.val (.int i0), .val (.int i1), .val (.int i2), .val (.int i3), .val (.int i4), .val (.long m1), .second, .val (.long m2), .second, .val (.int s1), .val (.int s2), .val (.int (3 : Int32)), .val (.int (1 : Int32)), .unset, .unset, .unset, .unset, .unset, .unset, .unset] [])) _
          refine XS.iload X0.here hx rfl (hb hby at_66) rfl ?_
          show Steps p.tables e below (s₁.setTop (mkF m 68 #[.val (.int i0), .val (.int i1), .val (.int i2), .val (.int i3), .val (.int i4), .val (.long m1), .second, .val (.long m2), .second, .val (.int s1), .val (.int s2), .val (.int (3 : Int32)), .val (.int (1 : Int32)), .unset, .unset, .unset, .unset, .unset, .unset, .unset] [(.int (3 : Int32))])) _
          refine XS.iconst X0.here hx rfl (hb hby at_68) ?_
          show Steps p.tables e below (s₁.setTop (mkF m 69 #[.val (.int i0), .val (.int i1), .val (.int i2), .val (.int i3), .val (.int i4), .val (.long m1), .second, .val (.long m2), .second, .val (.int s1), .val (.int s2), .val (.int (3 : Int32)), .val (.int (1 : Int32)), .unset, .unset, .unset, .unset, .unset, .unset, .unset] [(.int (2 : Int32)), (.int (3 : Int32))])) _
          refine XS.icmpNo X0.here hx rfl (hb hby at_69) rfl (feq (by decide)).1 ?_
          show Steps p.tables e below (s₁.setTop (mkF m 72 #[.val (.int i0), .val (.int i1), .val (.int i2), .val (.int i3), .val (.int i4), .val (.long m1), .second, .val (.long m2), .second, .val (.int s1), .val (.int s2), .val (.int (3 : Int32)), .val (.int (1 : Int32)), .unset, .unset, .unset, .unset, .unset, .unset, .unset] [])) _
          refine XS.iload X0.here hx rfl (hb hby at_72) rfl ?_
          show Steps p.tables e below (s₁.setTop (mkF m 74 #[.val (.int i0), .val (.int i1), .val (.int i2), .val (.int i3), .val (.int i4), .val (.long m1), .second, .val (.long m2), .second, .val (.int s1), .val (.int s2), .val (.int (3 : Int32)), .val (.int (1 : Int32)), .unset, .unset, .unset, .unset, .unset, .unset, .unset] [(.int (3 : Int32))])) _
          refine XS.iconst X0.here hx rfl (hb hby at_74) ?_
          show Steps p.tables e below (s₁.setTop (mkF m 75 #[.val (.int i0), .val (.int i1), .val (.int i2), .val (.int i3), .val (.int i4), .val (.long m1), .second, .val (.long m2), .second, .val (.int s1), .val (.int s2), .val (.int (3 : Int32)), .val (.int (1 : Int32)), .unset, .unset, .unset, .unset, .unset, .unset, .unset] [(.int (3 : Int32)), (.int (3 : Int32))])) _
          refine XS.icmpNo X0.here hx rfl (hb hby at_75) rfl (teq rfl).2 ?_
          show Steps p.tables e below (s₁.setTop (mkF m 78 #[.val (.int i0), .val (.int i1), .val (.int i2), .val (.int i3), .val (.int i4), .val (.long m1), .second, .val (.long m2), .second, .val (.int s1), .val (.int s2), .val (.int (3 : Int32)), .val (.int (1 : Int32)), .unset, .unset, .unset, .unset, .unset, .unset, .unset] [])) _
          refine XS.iconst X0.here hx rfl (hb hby at_78) ?_
          show Steps p.tables e below (s₁.setTop (mkF m 79 #[.val (.int i0), .val (.int i1), .val (.int i2), .val (.int i3), .val (.int i4), .val (.long m1), .second, .val (.long m2), .second, .val (.int s1), .val (.int s2), .val (.int (3 : Int32)), .val (.int (1 : Int32)), .unset, .unset, .unset, .unset, .unset, .unset, .unset] [(.int (1 : Int32))])) _
          refine XS.goto X0.here hx rfl (pc0 := 79) (pc' := 83) rfl (hb hby at_79) (by decide) (by decide) ?_
          show Steps p.tables e below (s₁.setTop (mkF m 83 #[.val (.int i0), .val (.int i1), .val (.int i2), .val (.int i3), .val (.int i4), .val (.long m1), .second, .val (.long m2), .second, .val (.int s1), .val (.int s2), .val (.int (3 : Int32)), .val (.int (1 : Int32)), .unset, .unset, .unset, .unset, .unset, .unset, .unset] [(.int (1 : Int32))])) _
          refine XS.istore X0.here hx rfl (hb hby at_83) rfl (l' := #[.val (.int i0), .val (.int i1), .val (.int i2), .val (.int i3), .val (.int i4), .val (.long m1), .second, .val (.long m2), .second, .val (.int s1), .val (.int s2), .val (.int (3 : Int32)), .val (.int (1 : Int32)), .val (.int (1 : Int32)), .unset, .unset, .unset, .unset, .unset, .unset]) rfl ?_
          show Steps p.tables e below (s₁.setTop (mkF m 85 #[.val (.int i0), .val (.int i1), .val (.int i2), .val (.int i3), .val (.int i4), .val (.long m1), .second, .val (.long m2), .second, .val (.int s1), .val (.int s2), .val (.int (3 : Int32)), .val (.int (1 : Int32)), .val (.int (1 : Int32)), .unset, .unset, .unset, .unset, .unset, .unset] [])) _
          refine XS.iload X0.here hx rfl (hb hby at_85) rfl ?_
          show Steps p.tables e below (s₁.setTop (mkF m 87 #[.val (.int i0), .val (.int i1), .val (.int i2), .val (.int i3), .val (.int i4), .val (.long m1), .second, .val (.long m2), .second, .val (.int s1), .val (.int s2), .val (.int (3 : Int32)), .val (.int (1 : Int32)), .val (.int (1 : Int32)), .unset, .unset, .unset, .unset, .unset, .unset] [(.int (1 : Int32))])) _
          refine XS.ifNo X0.here hx rfl (hb hby at_87) rfl ((if0 _ _).trans (feq (by decide)).1) ?_
          show Steps p.tables e below (s₁.setTop (mkF m 90 #[.val (.int i0), .val (.int i1), .val (.int i2), .val (.int i3), .val (.int i4), .val (.long m1), .second, .val (.long m2), .second, .val (.int s1), .val (.int s2), .val (.int (3 : Int32)), .val (.int (1 : Int32)), .val (.int (1 : Int32)), .unset, .unset, .unset, .unset, .unset, .unset] [])) _
          refine X0.ldc2DoubleC hx hown (mvT hZ (hw _ (List.mem_of_getElem? (i := 17) rfl))) (g := (mkF m 90 #[.val (.int i0), .val (.int i1), .val (.int i2), .val (.int i3), .val (.int i4), .val (.long m1), .second, .val (.long m2), .second, .val (.int s1), .val (.int s2), .val (.int (3 : Int32)), .val (.int (1 : Int32)), .val (.int (1 : Int32)), .unset, .unset, .unset, .unset, .unset, .unset] [])) rfl (hb hby at_90) _ ?_
          show Steps p.tables e below (s₁.setTop (mkF m 93 #[.val (.int i0), .val (.int i1), .val (.int i2), .val (.int i3), .val (.int i4), .val (.long m1), .second, .val (.long m2), .second, .val (.int s1), .val (.int s2), .val (.int (3 : Int32)), .val (.int (1 : Int32)), .val (.int (1 : Int32)), .unset, .unset, .unset, .unset, .unset, .unset] [(.double (9218868437227405312 : UInt64))])) _
          refine XS.goto X0.here hx rfl (pc0 := 93) (pc' := 105) rfl (hb hby at_93) (by decide) (by decide) ?_
          show Steps p.tables e below (s₁.setTop (mkF m 105 #[.val (.int i0), .val (.int i1), .val (.int i2), .val (.int i3), .val (.int i4), .val (.long m1), .second, .val (.long m2), .second, .val (.int s1), .val (.int s2), .val (.int (3 : Int32)), .val (.int (1 : Int32)), .val (.int (1 : Int32)), .unset, .unset, .unset, .unset, .unset, .unset] [(.double (9218868437227405312 : UInt64))])) _
          refine XS.dstore X0.here hx rfl (hb hby at_105) rfl (l' := #[.val (.int i0), .val (.int i1), .val (.int i2), .val (.int i3), .val (.int i4), .val (.long m1), .second, .val (.long m2), .second, .val (.int s1), .val (.int s2), .val (.int (3 : Int32)), .val (.int (1 : Int32)), .val (.int (1 : Int32)), .val (.double (9218868437227405312 : UInt64)), .second, .unset, .unset, .unset, .unset]) rfl ?_
          show Steps p.tables e below (s₁.setTop (mkF m 107 #[.val (.int i0), .val (.int i1), .val (.int i2), .val (.int i3), .val (.int i4), .val (.long m1), .second, .val (.long m2), .second, .val (.int s1), .val (.int s2), .val (.int (3 : Int32)), .val (.int (1 : Int32)), .val (.int (1 : Int32)), .val (.double (9218868437227405312 : UInt64)), .second, .unset, .unset, .unset, .unset] [])) _
          refine XS.iload X0.here hx rfl (hb hby at_107) rfl ?_
          show Steps p.tables e below (s₁.setTop (mkF m 109 #[.val (.int i0), .val (.int i1), .val (.int i2), .val (.int i3), .val (.int i4), .val (.long m1), .second, .val (.long m2), .second, .val (.int s1), .val (.int s2), .val (.int (3 : Int32)), .val (.int (1 : Int32)), .val (.int (1 : Int32)), .val (.double (9218868437227405312 : UInt64)), .second, .unset, .unset, .unset, .unset] [(.int (1 : Int32))])) _
          refine XS.ifNo X0.here hx rfl (hb hby at_109) rfl ((if0 _ _).trans (feq (by decide)).1) ?_
          show Steps p.tables e below (s₁.setTop (mkF m 112 #[.val (.int i0), .val (.int i1), .val (.int i2), .val (.int i3), .val (.int i4), .val (.long m1), .second, .val (.long m2), .second, .val (.int s1), .val (.int s2), .val (.int (3 : Int32)), .val (.int (1 : Int32)), .val (.int (1 : Int32)), .val (.double (9218868437227405312 : UInt64)), .second, .unset, .unset, .unset, .unset] [])) _
          refine X0.ldc2DoubleC hx hown (mvT hZ (hw _ (List.mem_of_getElem? (i := 17) rfl))) (g := (mkF m 112 #[.val (.int i0), .val (.int i1), .val (.int i2), .val (.int i3), .val (.int i4), .val (.long m1), .second, .val (.long m2), .second, .val (.int s1), .val (.int s2), .val (.int (3 : Int32)), .val (.int (1 : Int32)), .val (.int (1 : Int32)), .val (.double (9218868437227405312 : UInt64)), .second, .unset, .unset, .unset, .unset] [])) rfl (hb hby at_112) _ ?_
          show Steps p.tables e below (s₁.setTop (mkF m 115 #[.val (.int i0), .val (.int i1), .val (.int i2), .val (.int i3), .val (.int i4), .val (.long m1), .second, .val (.long m2), .second, .val (.int s1), .val (.int s2), .val (.int (3 : Int32)), .val (.int (1 : Int32)), .val (.int (1 : Int32)), .val (.double (9218868437227405312 : UInt64)), .second, .unset, .unset, .unset, .unset] [(.double (9218868437227405312 : UInt64))])) _
          refine XS.goto X0.here hx rfl (pc0 := 115) (pc' := 127) rfl (hb hby at_115) (by decide) (by decide) ?_
          show Steps p.tables e below (s₁.setTop (mkF m 127 #[.val (.int i0), .val (.int i1), .val (.int i2), .val (.int i3), .val (.int i4), .val (.long m1), .second, .val (.long m2), .second, .val (.int s1), .val (.int s2), .val (.int (3 : Int32)), .val (.int (1 : Int32)), .val (.int (1 : Int32)), .val (.double (9218868437227405312 : UInt64)), .second, .unset, .unset, .unset, .unset] [(.double (9218868437227405312 : UInt64))])) _
          refine XS.dstore X0.here hx rfl (hb hby at_127) rfl (l' := #[.val (.int i0), .val (.int i1), .val (.int i2), .val (.int i3), .val (.int i4), .val (.long m1), .second, .val (.long m2), .second, .val (.int s1), .val (.int s2), .val (.int (3 : Int32)), .val (.int (1 : Int32)), .val (.int (1 : Int32)), .val (.double (9218868437227405312 : UInt64)), .second, .val (.double (9218868437227405312 : UInt64)), .second, .unset, .unset]) rfl ?_
          show Steps p.tables e below (s₁.setTop (mkF m 129 #[.val (.int i0), .val (.int i1), .val (.int i2), .val (.int i3), .val (.int i4), .val (.long m1), .second, .val (.long m2), .second, .val (.int s1), .val (.int s2), .val (.int (3 : Int32)), .val (.int (1 : Int32)), .val (.int (1 : Int32)), .val (.double (9218868437227405312 : UInt64)), .second, .val (.double (9218868437227405312 : UInt64)), .second, .unset, .unset] [])) _
          refine XS.iload X0.here hx rfl (hb hby at_129) rfl ?_
          show Steps p.tables e below (s₁.setTop (mkF m 131 #[.val (.int i0), .val (.int i1), .val (.int i2), .val (.int i3), .val (.int i4), .val (.long m1), .second, .val (.long m2), .second, .val (.int s1), .val (.int s2), .val (.int (3 : Int32)), .val (.int (1 : Int32)), .val (.int (1 : Int32)), .val (.double (9218868437227405312 : UInt64)), .second, .val (.double (9218868437227405312 : UInt64)), .second, .unset, .unset] [(.int (1 : Int32))])) _
          refine XS.ifYes X0.here hx rfl (pc0 := 131) (pc' := 139) rfl (hb hby at_131) rfl ((if0 _ _).trans (feq (by decide)).2) (by decide) (by decide) ?_
          show Steps p.tables e below (s₁.setTop (mkF m 139 #[.val (.int i0), .val (.int i1), .val (.int i2), .val (.int i3), .val (.int i4), .val (.long m1), .second, .val (.long m2), .second, .val (.int s1), .val (.int s2), .val (.int (3 : Int32)), .val (.int (1 : Int32)), .val (.int (1 : Int32)), .val (.double (9218868437227405312 : UInt64)), .second, .val (.double (9218868437227405312 : UInt64)), .second, .unset, .unset] [])) _
          refine XS.iconst X0.here hx rfl (hb hby at_139) ?_
          show Steps p.tables e below (s₁.setTop (mkF m 140 #[.val (.int i0), .val (.int i1), .val (.int i2), .val (.int i3), .val (.int i4), .val (.long m1), .second, .val (.long m2), .second, .val (.int s1), .val (.int s2), .val (.int (3 : Int32)), .val (.int (1 : Int32)), .val (.int (1 : Int32)), .val (.double (9218868437227405312 : UInt64)), .second, .val (.double (9218868437227405312 : UInt64)), .second, .unset, .unset] [(.int (0 : Int32))])) _
          refine XS.istore X0.here hx rfl (hb hby at_140) rfl (l' := #[.val (.int i0), .val (.int i1), .val (.int i2), .val (.int i3), .val (.int i4), .val (.long m1), .second, .val (.long m2), .second, .val (.int s1), .val (.int s2), .val (.int (3 : Int32)), .val (.int (1 : Int32)), .val (.int (1 : Int32)), .val (.double (9218868437227405312 : UInt64)), .second, .val (.double (9218868437227405312 : UInt64)), .second, .val (.int (0 : Int32)), .unset]) rfl ?_
          show Steps p.tables e below (s₁.setTop (mkF m 142 #[.val (.int i0), .val (.int i1), .val (.int i2), .val (.int i3), .val (.int i4), .val (.long m1), .second, .val (.long m2), .second, .val (.int s1), .val (.int s2), .val (.int (3 : Int32)), .val (.int (1 : Int32)), .val (.int (1 : Int32)), .val (.double (9218868437227405312 : UInt64)), .second, .val (.double (9218868437227405312 : UInt64)), .second, .val (.int (0 : Int32)), .unset] [])) _
          refine XS.goto X0.here hx rfl (pc0 := 142) (pc' := 200) rfl (hb hby at_142) (by decide) (by decide) ?_
          exact Steps.refl _
        have hi : FP.dmul 9218868437227405312 9218868437227405312 = 9218868437227405312 := by decide +kernel
        have c18 : Steps p.tables e below S0 (s₁.setTop (mkF m 204 #[.val (.int i0), .val (.int i1), .val (.int i2), .val (.int i3), .val (.int i4), .val (.long m1), .second, .val (.long m2), .second, .val (.int s1), .val (.int s2), .val (.int (3 : Int32)), .val (.int (1 : Int32)), .val (.int (1 : Int32)), .val (.double (9218868437227405312 : UInt64)), .second, .val (.double (9218868437227405312 : UInt64)), .second, .val (.int (0 : Int32)), .unset] [(.double (9218868437227405312 : UInt64)), (.double (9218868437227405312 : UInt64))])) := by
          refine c17.trans ?_
          show Steps p.tables e below (s₁.setTop (mkF m 200 #[.val (.int i0), .val (.int i1), .val (.int i2), .val (.int i3), .val (.int i4), .val (.long m1), .second, .val (.long m2), .second, .val (.int s1), .val (.int s2), .val (.int (3 : Int32)), .val (.int (1 : Int32)), .val (.int (1 : Int32)), .val (.double (9218868437227405312 : UInt64)), .second, .val (.double (9218868437227405312 : UInt64)), .second, .val (.int (0 : Int32)), .unset] [])) _
          refine XS.dload X0.here hx rfl (hb hby at_200) rfl ?_
          show Steps p.tables e below (s₁.setTop (mkF m 202 #[.val (.int i0), .val (.int i1), .val (.int i2), .val (.int i3), .val (.int i4), .val (.long m1), .second, .val (.long m2), .second, .val (.int s1), .val (.int s2), .val (.int (3 : Int32)), .val (.int (1 : Int32)), .val (.int (1 : Int32)), .val (.double (9218868437227405312 : UInt64)), .second, .val (.double (9218868437227405312 : UInt64)), .second, .val (.int (0 : Int32)), .unset] [(.double (9218868437227405312 : UInt64))])) _
          refine XS.dload X0.here hx rfl (hb hby at_202) rfl ?_
          exact Steps.refl _
        obtain ⟨_, _, ⟨T19, L19, k19, n19⟩, -, X19, ⟨Lc19, hQ19, l19, y19, z19⟩, st19⟩ := Jvm.LawKit.callS X0 hx (y := (⟨"com/example/tight_reach/tightreach/RoundedProducts", "mayUnderflow", "(DD)Z"⟩ : MethodName)) hown (mvT hZ (hw _ (List.mem_of_getElem? (i := 12) rfl))) (mvT hZ (hw _ (List.mem_of_getElem? (i := 13) rfl))) (mvT hZ (hw _ (List.mem_of_getElem? (i := 14) rfl))) (mvT hZ (hw _ (List.mem_of_getElem? (i := 15) rfl))) (by decide) (backOf (W := 0) (rm34 l Z a0 hw [] 9218868437227405312 9218868437227405312 h0 n0 Z0 (by rw [hi]; unfold Jvm.Free.Fl.NoNaN64; decide)) hZ (hw _ (List.mem_of_getElem? (i := 15) rfl)) (hw _ (List.mem_of_getElem? (i := 14) rfl)) (by decide) (by decide)) (g := (mkF m 204 #[.val (.int i0), .val (.int i1), .val (.int i2), .val (.int i3), .val (.int i4), .val (.long m1), .second, .val (.long m2), .second, .val (.int s1), .val (.int s2), .val (.int (3 : Int32)), .val (.int (1 : Int32)), .val (.int (1 : Int32)), .val (.double (9218868437227405312 : UInt64)), .second, .val (.double (9218868437227405312 : UInt64)), .second, .val (.int (0 : Int32)), .unset] [(.double (9218868437227405312 : UInt64)), (.double (9218868437227405312 : UInt64))])) rfl (by rw [hml]; rfl) (argsL := [(.double (9218868437227405312 : UInt64)), (.double (9218868437227405312 : UInt64))]) (rest := []) (lenOf pd1 rfl) rfl (by show 2 * 0 + _ ≤ _; exact Nat.le_of_eq rfl) (hb hby at_204) (fun _ _ => ⟨rfl, e0, (by decide : 0 + 0 ≤ _), (by decide : 0 + 0 ≤ _)⟩)
        dsimp only [Pt.U, Pt.locs, Pt.cells, Pt.slots] at X19 l19 y19 z19 st19 hQ19
        subst l19 y19 z19
        obtain ⟨rfl, Nz, ez⟩ := hQ19
        have c19 : Steps p.tables e below S0 (T19.setTop (mkF m 207 #[.val (.int i0), .val (.int i1), .val (.int i2), .val (.int i3), .val (.int i4), .val (.long m1), .second, .val (.long m2), .second, .val (.int s1), .val (.int s2), .val (.int (3 : Int32)), .val (.int (1 : Int32)), .val (.int (1 : Int32)), .val (.double (9218868437227405312 : UInt64)), .second, .val (.double (9218868437227405312 : UInt64)), .second, .val (.int (0 : Int32)), .unset] [(.int (if (cmpValue (FP.dcmp (FP.dmul 9218868437227405312 9218868437227405312) (283726776524341248 : UInt64)) .g) < 0 then 1 else 0))])) := by
          refine c18.trans ?_
          show Steps p.tables e below (s₁.setTop (mkF m 204 #[.val (.int i0), .val (.int i1), .val (.int i2), .val (.int i3), .val (.int i4), .val (.long m1), .second, .val (.long m2), .second, .val (.int s1), .val (.int s2), .val (.int (3 : Int32)), .val (.int (1 : Int32)), .val (.int (1 : Int32)), .val (.double (9218868437227405312 : UInt64)), .second, .val (.double (9218868437227405312 : UInt64)), .second, .val (.int (0 : Int32)), .unset] [(.double (9218868437227405312 : UInt64)), (.double (9218868437227405312 : UInt64))])) _
          refine st19 _ ?_
          exact Steps.refl _
        have hcm : (if (cmpValue (FP.dcmp (FP.dmul 9218868437227405312 9218868437227405312) (283726776524341248 : UInt64)) .g) < 0 then (1 : Int32) else 0) = (0 : Int32) := by rw [hi]; exact if_neg (by decide +kernel : ¬ cmpValue (FP.dcmp 9218868437227405312 283726776524341248) .g < 0)
        rw [hcm] at c19
        have c20 : Steps p.tables e below S0 (T19.setTop (mkF m 217 #[.val (.int i0), .val (.int i1), .val (.int i2), .val (.int i3), .val (.int i4), .val (.long m1), .second, .val (.long m2), .second, .val (.int s1), .val (.int s2), .val (.int (3 : Int32)), .val (.int (1 : Int32)), .val (.int (1 : Int32)), .val (.double (9218868437227405312 : UInt64)), .second, .val (.double (9218868437227405312 : UInt64)), .second, .val (.int (0 : Int32)), .unset] [(.int (1 : Int32))])) := by
          refine c19.trans ?_
          show Steps p.tables e below (T19.setTop (mkF m 207 #[.val (.int i0), .val (.int i1), .val (.int i2), .val (.int i3), .val (.int i4), .val (.long m1), .second, .val (.long m2), .second, .val (.int s1), .val (.int s2), .val (.int (3 : Int32)), .val (.int (1 : Int32)), .val (.int (1 : Int32)), .val (.double (9218868437227405312 : UInt64)), .second, .val (.double (9218868437227405312 : UInt64)), .second, .val (.int (0 : Int32)), .unset] [(.int (0 : Int32))])) _
          refine XS.iload X19.here hx rfl (hb hby at_207) rfl ?_
          show Steps p.tables e below (T19.setTop (mkF m 209 #[.val (.int i0), .val (.int i1), .val (.int i2), .val (.int i3), .val (.int i4), .val (.long m1), .second, .val (.long m2), .second, .val (.int s1), .val (.int s2), .val (.int (3 : Int32)), .val (.int (1 : Int32)), .val (.int (1 : Int32)), .val (.double (9218868437227405312 : UInt64)), .second, .val (.double (9218868437227405312 : UInt64)), .second, .val (.int (0 : Int32)), .unset] [(.int (0 : Int32)), (.int (0 : Int32))])) _
          refine XS.icmpNo X19.here hx rfl (hb hby at_209) rfl (teq rfl).2 ?_
          show Steps p.tables e below (T19.setTop (mkF m 212 #[.val (.int i0), .val (.int i1), .val (.int i2), .val (.int i3), .val (.int i4), .val (.long m1), .second, .val (.long m2), .second, .val (.int s1), .val (.int s2), .val (.int (3 : Int32)), .val (.int (1 : Int32)), .val (.int (1 : Int32)), .val (.double (9218868437227405312 : UInt64)), .second, .val (.double (9218868437227405312 : UInt64)), .second, .val (.int (0 : Int32)), .unset] [])) _
          refine XS.iconst X19.here hx rfl (hb hby at_212) ?_
          show Steps p.tables e below (T19.setTop (mkF m 213 #[.val (.int i0), .val (.int i1), .val (.int i2), .val (.int i3), .val (.int i4), .val (.long m1), .second, .val (.long m2), .second, .val (.int s1), .val (.int s2), .val (.int (3 : Int32)), .val (.int (1 : Int32)), .val (.int (1 : Int32)), .val (.double (9218868437227405312 : UInt64)), .second, .val (.double (9218868437227405312 : UInt64)), .second, .val (.int (0 : Int32)), .unset] [(.int (1 : Int32))])) _
          refine XS.goto X19.here hx rfl (pc0 := 213) (pc' := 217) rfl (hb hby at_213) (by decide) (by decide) ?_
          exact Steps.refl _
        obtain ⟨fs, hr, hrun, hended, hW, hsame⟩ := X19.leave (v := some (.int 1)) (fun h => by rw [Bd.returns] at h; cases h)
        refine ⟨_, _, c20.trans ?_, hrun, hended, _, _, rfl, ?_, ⟨_, rfl⟩, hW, hsame.mono (by decide) (by decide)⟩
        · show Steps p.tables e below (T19.setTop (mkF m 217 #[.val (.int i0), .val (.int i1), .val (.int i2), .val (.int i3), .val (.int i4), .val (.long m1), .second, .val (.long m2), .second, .val (.int s1), .val (.int s2), .val (.int (3 : Int32)), .val (.int (1 : Int32)), .val (.int (1 : Int32)), .val (.double (9218868437227405312 : UInt64)), .second, .val (.double (9218868437227405312 : UInt64)), .second, .val (.int (0 : Int32)), .unset] [(.int (1 : Int32))])) _
          exact retN X19 hx (t := .boolean) Bd.returns (by simp) (hb hby at_217) hr
        · show Q0 Z i0 i1 i2 i3 i4 h0 n0 _ T19.heap _
          rw [ez]
          exact ⟨rfl, Fr.app N0 Nz⟩
      · have c21 : Steps p.tables e below S0 (s₁.setTop (mkF m 96 #[.val (.int i0), .val (.int i1), .val (.int i2), .val (.int i3), .val (.int i4), .val (.long m1), .second, .val (.long m2), .second, .val (.int s1), .val (.int s2), .val (.int kd), .val (.int (0 : Int32)), .val (.int (0 : Int32)), .unset, .unset, .unset, .unset, .unset, .unset] [])) := by
          refine c1.trans ?_
          show Steps p.tables e below (s₁.setTop (mkF m 50 #[.val (.int i0), .val (.int i1), .val (.int i2), .val (.int i3), .val (.int i4), .val (.long m1), .second, .val (.long m2), .second, .val (.int s1), .val (.int s2), .val (.int kd), .unset, .unset, .unset, .unset, .unset, .unset, .unset, .unset] [(.int (1 : Int32)), (.int kd)])) _
          refine XS.icmpNo X0.here hx rfl (hb hby at_50) rfl (feq h1).1 ?_
          show Steps p.tables e below (s₁.setTop (mkF m 53 #[.val (.int i0), .val (.int i1), .val (.int i2), .val (.int i3), .val (.int i4), .val (.long m1), .second, .val (.long m2), .second, .val (.int s1), .val (.int s2), .val (.int kd), .unset, .unset, .unset, .unset, .unset, .unset, .unset, .unset] [])) _
          refine XS.iload X0.here hx rfl (hb hby at_53) rfl ?_
          show Steps p.tables e below (s₁.setTop (mkF m 55 #[.val (.int i0), .val (.int i1), .val (.int i2), .val (.int i3), .val (.int i4), .val (.long m1), .second, .val (.long m2), .second, .val (.int s1), .val (.int s2), .val (.int kd), .unset, .unset, .unset, .unset, .unset, .unset, .unset, .unset] [(.int kd)])) _
          refine XS.iconst X0.here hx rfl (hb hby at_55) ?_
          show Steps p.tables e below (s₁.setTop (mkF m 56 #[.val (.int i0), .val (.int i1), .val (.int i2), .val (.int i3), .val (.int i4), .val (.long m1), .second, .val (.long m2), .second, .val (.int s1), .val (.int s2), .val (.int kd), .unset, .unset, .unset, .unset, .unset, .unset, .unset, .unset] [(.int (3 : Int32)), (.int kd)])) _
          refine XS.icmpYes X0.here hx rfl (pc0 := 56) (pc' := 63) rfl (hb hby at_56) rfl (feq h3).2 (by decide) (by decide) ?_
          show Steps p.tables e below (s₁.setTop (mkF m 63 #[.val (.int i0), .val (.int i1), .val (.int i2), .val (.int i3), .val (.int i4), .val (.long m1), .second, .val (.long m2), .second, .val (.int s1), .val (.int s2), .val (.int kd), .unset, .unset, .unset, .unset, .unset, .unset, .unset, .unset] [])) _
          refine XS.iconst X0.here hx rfl (hb hby at_63) ?_
          show Steps p.tables e below (s₁.setTop (mkF m 64 #[.val (.int i0), .val (.int i1), .val (.int i2), .val (.int i3), .val (.int i4), .val (.long m1), .second, .val (.long m2), .second, .val (.int s1), .val (.int s2), .val (.int kd), .unset, .unset, .unset, .unset, .unset, .unset, .unset, .unset] [(.int (0 : Int32))])) _
          refine XS.istore X0.here hx rfl (hb hby at_64) rfl (l' := #[.val (.int i0), .val (.int i1), .val (.int i2), .val (.int i3), .val (.int i4), .val (.long m1), .second, .val (.long m2), .second, .val (.int s1), .val (.int s2), .val (.int kd), .val (.int (0 : Int32)), .unset, .unset, .unset, .unset, .unset, .unset, .unset]) rfl ?_
          show Steps p.tables e below (s₁.setTop (mkF m 66 #[.val (.int i0), .val (.int i1), .val (.int i2), .val (.int i3), .val (.int i4), .val (.long m1), .second, .val (.long m2), .second, .val (.int s1), .val (.int s2), .val (.int kd), .val (.int (0 : Int32)), .unset, .unset, .unset, .unset, .unset, .unset, .unset] [])) _
          refine XS.iload X0.here hx rfl (hb hby at_66) rfl ?_
          show Steps p.tables e below (s₁.setTop (mkF m 68 #[.val (.int i0), .val (.int i1), .val (.int i2), .val (.int i3), .val (.int i4), .val (.long m1), .second, .val (.long m2), .second, .val (.int s1), .val (.int s2), .val (.int kd), .val (.int (0 : Int32)), .unset, .unset, .unset, .unset, .unset, .unset, .unset] [(.int kd)])) _
          refine XS.iconst X0.here hx rfl (hb hby at_68) ?_
          show Steps p.tables e below (s₁.setTop (mkF m 69 #[.val (.int i0), .val (.int i1), .val (.int i2), .val (.int i3), .val (.int i4), .val (.long m1), .second, .val (.long m2), .second, .val (.int s1), .val (.int s2), .val (.int kd), .val (.int (0 : Int32)), .unset, .unset, .unset, .unset, .unset, .unset, .unset] [(.int (2 : Int32)), (.int kd)])) _
          refine XS.icmpNo X0.here hx rfl (hb hby at_69) rfl (feq h2).1 ?_
          show Steps p.tables e below (s₁.setTop (mkF m 72 #[.val (.int i0), .val (.int i1), .val (.int i2), .val (.int i3), .val (.int i4), .val (.long m1), .second, .val (.long m2), .second, .val (.int s1), .val (.int s2), .val (.int kd), .val (.int (0 : Int32)), .unset, .unset, .unset, .unset, .unset, .unset, .unset] [])) _
          refine XS.iload X0.here hx rfl (hb hby at_72) rfl ?_
          show Steps p.tables e below (s₁.setTop (mkF m 74 #[.val (.int i0), .val (.int i1), .val (.int i2), .val (.int i3), .val (.int i4), .val (.long m1), .second, .val (.long m2), .second, .val (.int s1), .val (.int s2), .val (.int kd), .val (.int (0 : Int32)), .unset, .unset, .unset, .unset, .unset, .unset, .unset] [(.int kd)])) _
          refine XS.iconst X0.here hx rfl (hb hby at_74) ?_
          show Steps p.tables e below (s₁.setTop (mkF m 75 #[.val (.int i0), .val (.int i1), .val (.int i2), .val (.int i3), .val (.int i4), .val (.long m1), .second, .val (.long m2), .second, .val (.int s1), .val (.int s2), .val (.int kd), .val (.int (0 : Int32)), .unset, .unset, .unset, .unset, .unset, .unset, .unset] [(.int (3 : Int32)), (.int kd)])) _
          refine XS.icmpYes X0.here hx rfl (pc0 := 75) (pc' := 82) rfl (hb hby at_75) rfl (feq h3).2 (by decide) (by decide) ?_
          show Steps p.tables e below (s₁.setTop (mkF m 82 #[.val (.int i0), .val (.int i1), .val (.int i2), .val (.int i3), .val (.int i4), .val (.long m1), .second, .val (.long m2), .second, .val (.int s1), .val (.int s2), .val (.int kd), .val (.int (0 : Int32)), .unset, .unset, .unset, .unset, .unset, .unset, .unset] [])) _
          refine XS.iconst X0.here hx rfl (hb hby at_82) ?_
          show Steps p.tables e below (s₁.setTop (mkF m 83 #[.val (.int i0), .val (.int i1), .val (.int i2), .val (.int i3), .val (.int i4), .val (.long m1), .second, .val (.long m2), .second, .val (.int s1), .val (.int s2), .val (.int kd), .val (.int (0 : Int32)), .unset, .unset, .unset, .unset, .unset, .unset, .unset] [(.int (0 : Int32))])) _
          refine XS.istore X0.here hx rfl (hb hby at_83) rfl (l' := #[.val (.int i0), .val (.int i1), .val (.int i2), .val (.int i3), .val (.int i4), .val (.long m1), .second, .val (.long m2), .second, .val (.int s1), .val (.int s2), .val (.int kd), .val (.int (0 : Int32)), .val (.int (0 : Int32)), .unset, .unset, .unset, .unset, .unset, .unset]) rfl ?_
          show Steps p.tables e below (s₁.setTop (mkF m 85 #[.val (.int i0), .val (.int i1), .val (.int i2), .val (.int i3), .val (.int i4), .val (.long m1), .second, .val (.long m2), .second, .val (.int s1), .val (.int s2), .val (.int kd), .val (.int (0 : Int32)), .val (.int (0 : Int32)), .unset, .unset, .unset, .unset, .unset, .unset] [])) _
          refine XS.iload X0.here hx rfl (hb hby at_85) rfl ?_
          show Steps p.tables e below (s₁.setTop (mkF m 87 #[.val (.int i0), .val (.int i1), .val (.int i2), .val (.int i3), .val (.int i4), .val (.long m1), .second, .val (.long m2), .second, .val (.int s1), .val (.int s2), .val (.int kd), .val (.int (0 : Int32)), .val (.int (0 : Int32)), .unset, .unset, .unset, .unset, .unset, .unset] [(.int (0 : Int32))])) _
          refine XS.ifYes X0.here hx rfl (pc0 := 87) (pc' := 96) rfl (hb hby at_87) rfl ((if0 _ _).trans (teq rfl).1) (by decide) (by decide) ?_
          exact Steps.refl _
        have c22 : Steps p.tables e below S0 (s₁.setTop (mkF m 101 #[.val (.int i0), .val (.int i1), .val (.int i2), .val (.int i3), .val (.int i4), .val (.long m1), .second, .val (.long m2), .second, .val (.int s1), .val (.int s2), .val (.int kd), .val (.int (0 : Int32)), .val (.int (0 : Int32)), .unset, .unset, .unset, .unset, .unset, .unset] [(.int s1), (.double (FP.l2d m1))])) := by
          refine c21.trans ?_
          show Steps p.tables e below (s₁.setTop (mkF m 96 #[.val (.int i0), .val (.int i1), .val (.int i2), .val (.int i3), .val (.int i4), .val (.long m1), .second, .val (.long m2), .second, .val (.int s1), .val (.int s2), .val (.int kd), .val (.int (0 : Int32)), .val (.int (0 : Int32)), .unset, .unset, .unset, .unset, .unset, .unset] [])) _
          refine XS.lload X0.here hx rfl (hb hby at_96) rfl ?_
          show Steps p.tables e below (s₁.setTop (mkF m 98 #[.val (.int i0), .val (.int i1), .val (.int i2), .val (.int i3), .val (.int i4), .val (.long m1), .second, .val (.long m2), .second, .val (.int s1), .val (.int s2), .val (.int kd), .val (.int (0 : Int32)), .val (.int (0 : Int32)), .unset, .unset, .unset, .unset, .unset, .unset] [(.long m1)])) _
          refine XS.l2dS X0.here hx rfl (v := (FP.l2d m1)) (hb hby at_98) rfl rfl ?_
          show Steps p.tables e below (s₁.setTop (mkF m 99 #[.val (.int i0), .val (.int i1), .val (.int i2), .val (.int i3), .val (.int i4), .val (.long m1), .second, .val (.long m2), .second, .val (.int s1), .val (.int s2), .val (.int kd), .val (.int (0 : Int32)), .val (.int (0 : Int32)), .unset, .unset, .unset, .unset, .unset, .unset] [(.double (FP.l2d m1))])) _
          refine XS.iload X0.here hx rfl (hb hby at_99) rfl ?_
          exact Steps.refl _
        obtain ⟨_, _, ⟨T23, L23, k23, n23⟩, -, X23, ⟨Lc23, hQ23, l23, y23, z23⟩, st23⟩ := Jvm.LawKit.callS X0 hx (y := (⟨"com/example/tight_reach/tightreach/RoundedProductsMayUnderflowPinLaw", "pow2", "(I)D"⟩ : MethodName)) hown (mvT hZ (hw _ (List.mem_of_getElem? (i := 1) rfl))) (mvT hZ (hw _ (List.mem_of_getElem? (i := 2) rfl))) (mvT hZ (hw _ (List.mem_of_getElem? (i := 3) rfl))) (mvT hZ (hw _ (List.mem_of_getElem? (i := 4) rfl))) (by decide) (backOf (W := 2) (rm3 l Z a0 hw [] s1 E1 h0 n0 Z0 hE1p) hZ (hw _ (List.mem_of_getElem? (i := 4) rfl)) (hw _ (List.mem_of_getElem? (i := 3) rfl)) (by decide) (by decide)) (g := (mkF m 101 #[.val (.int i0), .val (.int i1), .val (.int i2), .val (.int i3), .val (.int i4), .val (.long m1), .second, .val (.long m2), .second, .val (.int s1), .val (.int s2), .val (.int kd), .val (.int (0 : Int32)), .val (.int (0 : Int32)), .unset, .unset, .unset, .unset, .unset, .unset] [(.int s1), (.double (FP.l2d m1))])) rfl (by rw [hml]; rfl) (argsL := [(.int s1)]) (rest := [(.double (FP.l2d m1))]) (lenOf pd0 rfl) rfl (by show 2 * 0 + _ ≤ _; exact Nat.le_of_eq rfl) (hb hby at_101) (fun _ _ => ⟨rfl, e0, (by decide : 0 + 0 ≤ _), (by decide : 0 + 0 ≤ _)⟩)
        dsimp only [Pt.U, Pt.locs, Pt.cells, Pt.slots] at X23 l23 y23 z23 st23 hQ23
        subst l23 y23 z23
        obtain ⟨⟨pa, rfl, hpa⟩, Na, ea⟩ := hQ23
        have c23 : Steps p.tables e below S0 (T23.setTop (mkF m 104 #[.val (.int i0), .val (.int i1), .val (.int i2), .val (.int i3), .val (.int i4), .val (.long m1), .second, .val (.long m2), .second, .val (.int s1), .val (.int s2), .val (.int kd), .val (.int (0 : Int32)), .val (.int (0 : Int32)), .unset, .unset, .unset, .unset, .unset, .unset] [(.double pa), (.double (FP.l2d m1))])) := by
          refine c22.trans ?_
          show Steps p.tables e below (s₁.setTop (mkF m 101 #[.val (.int i0), .val (.int i1), .val (.int i2), .val (.int i3), .val (.int i4), .val (.long m1), .second, .val (.long m2), .second, .val (.int s1), .val (.int s2), .val (.int kd), .val (.int (0 : Int32)), .val (.int (0 : Int32)), .unset, .unset, .unset, .unset, .unset, .unset] [(.int s1), (.double (FP.l2d m1))])) _
          refine st23 _ ?_
          exact Steps.refl _
        have hva : DV (FP.dmul (FP.l2d m1) pa) M1 E1 := own_left hM1 hM1l hM1u hE1 hpa
        have Nfa := Fr.app N0 Na
        have c24 : Steps p.tables e below S0 (T23.setTop (mkF m 118 #[.val (.int i0), .val (.int i1), .val (.int i2), .val (.int i3), .val (.int i4), .val (.long m1), .second, .val (.long m2), .second, .val (.int s1), .val (.int s2), .val (.int kd), .val (.int (0 : Int32)), .val (.int (0 : Int32)), .val (.double (FP.dmul (FP.l2d m1) pa)), .second, .unset, .unset, .unset, .unset] [])) := by
          refine c23.trans ?_
          show Steps p.tables e below (T23.setTop (mkF m 104 #[.val (.int i0), .val (.int i1), .val (.int i2), .val (.int i3), .val (.int i4), .val (.long m1), .second, .val (.long m2), .second, .val (.int s1), .val (.int s2), .val (.int kd), .val (.int (0 : Int32)), .val (.int (0 : Int32)), .unset, .unset, .unset, .unset, .unset, .unset] [(.double pa), (.double (FP.l2d m1))])) _
          refine XS.dmulS X23.here hx rfl (v := (FP.dmul (FP.l2d m1) pa)) (hb hby at_104) rfl hva.noNaN rfl ?_
          show Steps p.tables e below (T23.setTop (mkF m 105 #[.val (.int i0), .val (.int i1), .val (.int i2), .val (.int i3), .val (.int i4), .val (.long m1), .second, .val (.long m2), .second, .val (.int s1), .val (.int s2), .val (.int kd), .val (.int (0 : Int32)), .val (.int (0 : Int32)), .unset, .unset, .unset, .unset, .unset, .unset] [(.double (FP.dmul (FP.l2d m1) pa))])) _
          refine XS.dstore X23.here hx rfl (hb hby at_105) rfl (l' := #[.val (.int i0), .val (.int i1), .val (.int i2), .val (.int i3), .val (.int i4), .val (.long m1), .second, .val (.long m2), .second, .val (.int s1), .val (.int s2), .val (.int kd), .val (.int (0 : Int32)), .val (.int (0 : Int32)), .val (.double (FP.dmul (FP.l2d m1) pa)), .second, .unset, .unset, .unset, .unset]) rfl ?_
          show Steps p.tables e below (T23.setTop (mkF m 107 #[.val (.int i0), .val (.int i1), .val (.int i2), .val (.int i3), .val (.int i4), .val (.long m1), .second, .val (.long m2), .second, .val (.int s1), .val (.int s2), .val (.int kd), .val (.int (0 : Int32)), .val (.int (0 : Int32)), .val (.double (FP.dmul (FP.l2d m1) pa)), .second, .unset, .unset, .unset, .unset] [])) _
          refine XS.iload X23.here hx rfl (hb hby at_107) rfl ?_
          show Steps p.tables e below (T23.setTop (mkF m 109 #[.val (.int i0), .val (.int i1), .val (.int i2), .val (.int i3), .val (.int i4), .val (.long m1), .second, .val (.long m2), .second, .val (.int s1), .val (.int s2), .val (.int kd), .val (.int (0 : Int32)), .val (.int (0 : Int32)), .val (.double (FP.dmul (FP.l2d m1) pa)), .second, .unset, .unset, .unset, .unset] [(.int (0 : Int32))])) _
          refine XS.ifYes X23.here hx rfl (pc0 := 109) (pc' := 118) rfl (hb hby at_109) rfl ((if0 _ _).trans (teq rfl).1) (by decide) (by decide) ?_
          exact Steps.refl _
        have c25 : Steps p.tables e below S0 (T23.setTop (mkF m 123 #[.val (.int i0), .val (.int i1), .val (.int i2), .val (.int i3), .val (.int i4), .val (.long m1), .second, .val (.long m2), .second, .val (.int s1), .val (.int s2), .val (.int kd), .val (.int (0 : Int32)), .val (.int (0 : Int32)), .val (.double (FP.dmul (FP.l2d m1) pa)), .second, .unset, .unset, .unset, .unset] [(.int s2), (.double (FP.l2d m2))])) := by
          refine c24.trans ?_
          show Steps p.tables e below (T23.setTop (mkF m 118 #[.val (.int i0), .val (.int i1), .val (.int i2), .val (.int i3), .val (.int i4), .val (.long m1), .second, .val (.long m2), .second, .val (.int s1), .val (.int s2), .val (.int kd), .val (.int (0 : Int32)), .val (.int (0 : Int32)), .val (.double (FP.dmul (FP.l2d m1) pa)), .second, .unset, .unset, .unset, .unset] [])) _
          refine XS.lload X23.here hx rfl (hb hby at_118) rfl ?_
          show Steps p.tables e below (T23.setTop (mkF m 120 #[.val (.int i0), .val (.int i1), .val (.int i2), .val (.int i3), .val (.int i4), .val (.long m1), .second, .val (.long m2), .second, .val (.int s1), .val (.int s2), .val (.int kd), .val (.int (0 : Int32)), .val (.int (0 : Int32)), .val (.double (FP.dmul (FP.l2d m1) pa)), .second, .unset, .unset, .unset, .unset] [(.long m2)])) _
          refine XS.l2dS X23.here hx rfl (v := (FP.l2d m2)) (hb hby at_120) rfl rfl ?_
          show Steps p.tables e below (T23.setTop (mkF m 121 #[.val (.int i0), .val (.int i1), .val (.int i2), .val (.int i3), .val (.int i4), .val (.long m1), .second, .val (.long m2), .second, .val (.int s1), .val (.int s2), .val (.int kd), .val (.int (0 : Int32)), .val (.int (0 : Int32)), .val (.double (FP.dmul (FP.l2d m1) pa)), .second, .unset, .unset, .unset, .unset] [(.double (FP.l2d m2))])) _
          refine XS.iload X23.here hx rfl (hb hby at_121) rfl ?_
          exact Steps.refl _
        obtain ⟨_, _, ⟨T26, L26, k26, n26⟩, -, X26, ⟨Lc26, hQ26, l26, y26, z26⟩, st26⟩ := Jvm.LawKit.callS X23 hx (y := (⟨"com/example/tight_reach/tightreach/RoundedProductsMayUnderflowPinLaw", "pow2", "(I)D"⟩ : MethodName)) hown (mvT hZ (hw _ (List.mem_of_getElem? (i := 1) rfl))) (mvT hZ (hw _ (List.mem_of_getElem? (i := 2) rfl))) (mvT hZ (hw _ (List.mem_of_getElem? (i := 3) rfl))) (mvT hZ (hw _ (List.mem_of_getElem? (i := 4) rfl))) (by decide) (backOf (W := 2) (rm3 l Z a0 hw [] s2 E2 h0 n0 Z0 hE2p) hZ (hw _ (List.mem_of_getElem? (i := 4) rfl)) (hw _ (List.mem_of_getElem? (i := 3) rfl)) (by decide) (by decide)) (g := (mkF m 123 #[.val (.int i0), .val (.int i1), .val (.int i2), .val (.int i3), .val (.int i4), .val (.long m1), .second, .val (.long m2), .second, .val (.int s1), .val (.int s2), .val (.int kd), .val (.int (0 : Int32)), .val (.int (0 : Int32)), .val (.double (FP.dmul (FP.l2d m1) pa)), .second, .unset, .unset, .unset, .unset] [(.int s2), (.double (FP.l2d m2))])) rfl (by rw [hml]; rfl) (argsL := [(.int s2)]) (rest := [(.double (FP.l2d m2))]) (lenOf pd0 rfl) rfl (by show 2 * 0 + _ ≤ _; exact Nat.le_of_eq rfl) (hb hby at_123) (fun _ _ => ⟨rfl, ea, (by decide : 0 + 0 ≤ _), (by decide : 0 + 0 ≤ _)⟩)
        dsimp only [Pt.U, Pt.locs, Pt.cells, Pt.slots] at X26 l26 y26 z26 st26 hQ26
        subst l26 y26 z26
        obtain ⟨⟨pb, rfl, hpb⟩, Nb, eb⟩ := hQ26
        have c26 : Steps p.tables e below S0 (T26.setTop (mkF m 126 #[.val (.int i0), .val (.int i1), .val (.int i2), .val (.int i3), .val (.int i4), .val (.long m1), .second, .val (.long m2), .second, .val (.int s1), .val (.int s2), .val (.int kd), .val (.int (0 : Int32)), .val (.int (0 : Int32)), .val (.double (FP.dmul (FP.l2d m1) pa)), .second, .unset, .unset, .unset, .unset] [(.double pb), (.double (FP.l2d m2))])) := by
          refine c25.trans ?_
          show Steps p.tables e below (T23.setTop (mkF m 123 #[.val (.int i0), .val (.int i1), .val (.int i2), .val (.int i3), .val (.int i4), .val (.long m1), .second, .val (.long m2), .second, .val (.int s1), .val (.int s2), .val (.int kd), .val (.int (0 : Int32)), .val (.int (0 : Int32)), .val (.double (FP.dmul (FP.l2d m1) pa)), .second, .unset, .unset, .unset, .unset] [(.int s2), (.double (FP.l2d m2))])) _
          refine st26 _ ?_
          exact Steps.refl _
        have hvb : DV (FP.dmul (FP.l2d m2) pb) M2 E2 := own_left hM2 hM2l hM2u hE2 hpb
        have Nfb := Fr.app Nfa Nb
        have c27 : Steps p.tables e below S0 (T26.setTop (mkF m 156 #[.val (.int i0), .val (.int i1), .val (.int i2), .val (.int i3), .val (.int i4), .val (.long m1), .second, .val (.long m2), .second, .val (.int s1), .val (.int s2), .val (.int kd), .val (.int (0 : Int32)), .val (.int (0 : Int32)), .val (.double (FP.dmul (FP.l2d m1) pa)), .second, .val (.double (FP.dmul (FP.l2d m2) pb)), .second, .unset, .val (.int (((-960 : Int32) - s1) - s2))] [])) := by
          refine c26.trans ?_
          show Steps p.tables e below (T26.setTop (mkF m 126 #[.val (.int i0), .val (.int i1), .val (.int i2), .val (.int i3), .val (.int i4), .val (.long m1), .second, .val (.long m2), .second, .val (.int s1), .val (.int s2), .val (.int kd), .val (.int (0 : Int32)), .val (.int (0 : Int32)), .val (.double (FP.dmul (FP.l2d m1) pa)), .second, .unset, .unset, .unset, .unset] [(.double pb), (.double (FP.l2d m2))])) _
          refine XS.dmulS X26.here hx rfl (v := (FP.dmul (FP.l2d m2) pb)) (hb hby at_126) rfl hvb.noNaN rfl ?_
          show Steps p.tables e below (T26.setTop (mkF m 127 #[.val (.int i0), .val (.int i1), .val (.int i2), .val (.int i3), .val (.int i4), .val (.long m1), .second, .val (.long m2), .second, .val (.int s1), .val (.int s2), .val (.int kd), .val (.int (0 : Int32)), .val (.int (0 : Int32)), .val (.double (FP.dmul (FP.l2d m1) pa)), .second, .unset, .unset, .unset, .unset] [(.double (FP.dmul (FP.l2d m2) pb))])) _
          refine XS.dstore X26.here hx rfl (hb hby at_127) rfl (l' := #[.val (.int i0), .val (.int i1), .val (.int i2), .val (.int i3), .val (.int i4), .val (.long m1), .second, .val (.long m2), .second, .val (.int s1), .val (.int s2), .val (.int kd), .val (.int (0 : Int32)), .val (.int (0 : Int32)), .val (.double (FP.dmul (FP.l2d m1) pa)), .second, .val (.double (FP.dmul (FP.l2d m2) pb)), .second, .unset, .unset]) rfl ?_
          show Steps p.tables e below (T26.setTop (mkF m 129 #[.val (.int i0), .val (.int i1), .val (.int i2), .val (.int i3), .val (.int i4), .val (.long m1), .second, .val (.long m2), .second, .val (.int s1), .val (.int s2), .val (.int kd), .val (.int (0 : Int32)), .val (.int (0 : Int32)), .val (.double (FP.dmul (FP.l2d m1) pa)), .second, .val (.double (FP.dmul (FP.l2d m2) pb)), .second, .unset, .unset] [])) _
          refine XS.iload X26.here hx rfl (hb hby at_129) rfl ?_
          show Steps p.tables e below (T26.setTop (mkF m 131 #[.val (.int i0), .val (.int i1), .val (.int i2), .val (.int i3), .val (.int i4), .val (.long m1), .second, .val (.long m2), .second, .val (.int s1), .val (.int s2), .val (.int kd), .val (.int (0 : Int32)), .val (.int (0 : Int32)), .val (.double (FP.dmul (FP.l2d m1) pa)), .second, .val (.double (FP.dmul (FP.l2d m2) pb)), .second, .unset, .unset] [(.int (0 : Int32))])) _
          refine XS.ifNo X26.here hx rfl (hb hby at_131) rfl ((if0 _ _).trans (teq rfl).2) ?_
          show Steps p.tables e below (T26.setTop (mkF m 134 #[.val (.int i0), .val (.int i1), .val (.int i2), .val (.int i3), .val (.int i4), .val (.long m1), .second, .val (.long m2), .second, .val (.int s1), .val (.int s2), .val (.int kd), .val (.int (0 : Int32)), .val (.int (0 : Int32)), .val (.double (FP.dmul (FP.l2d m1) pa)), .second, .val (.double (FP.dmul (FP.l2d m2) pb)), .second, .unset, .unset] [])) _
          refine XS.iload X26.here hx rfl (hb hby at_134) rfl ?_
          show Steps p.tables e below (T26.setTop (mkF m 136 #[.val (.int i0), .val (.int i1), .val (.int i2), .val (.int i3), .val (.int i4), .val (.long m1), .second, .val (.long m2), .second, .val (.int s1), .val (.int s2), .val (.int kd), .val (.int (0 : Int32)), .val (.int (0 : Int32)), .val (.double (FP.dmul (FP.l2d m1) pa)), .second, .val (.double (FP.dmul (FP.l2d m2) pb)), .second, .unset, .unset] [(.int (0 : Int32))])) _
          refine XS.ifYes X26.here hx rfl (pc0 := 136) (pc' := 145) rfl (hb hby at_136) rfl ((if0 _ _).trans (teq rfl).1) (by decide) (by decide) ?_
          show Steps p.tables e below (T26.setTop (mkF m 145 #[.val (.int i0), .val (.int i1), .val (.int i2), .val (.int i3), .val (.int i4), .val (.long m1), .second, .val (.long m2), .second, .val (.int s1), .val (.int s2), .val (.int kd), .val (.int (0 : Int32)), .val (.int (0 : Int32)), .val (.double (FP.dmul (FP.l2d m1) pa)), .second, .val (.double (FP.dmul (FP.l2d m2) pb)), .second, .unset, .unset] [])) _
          refine XS.sipush X26.here hx rfl (hb hby at_145) ?_
          show Steps p.tables e below (T26.setTop (mkF m 148 #[.val (.int i0), .val (.int i1), .val (.int i2), .val (.int i3), .val (.int i4), .val (.long m1), .second, .val (.long m2), .second, .val (.int s1), .val (.int s2), .val (.int kd), .val (.int (0 : Int32)), .val (.int (0 : Int32)), .val (.double (FP.dmul (FP.l2d m1) pa)), .second, .val (.double (FP.dmul (FP.l2d m2) pb)), .second, .unset, .unset] [(.int (-960 : Int32))])) _
          refine XS.iload X26.here hx rfl (hb hby at_148) rfl ?_
          show Steps p.tables e below (T26.setTop (mkF m 150 #[.val (.int i0), .val (.int i1), .val (.int i2), .val (.int i3), .val (.int i4), .val (.long m1), .second, .val (.long m2), .second, .val (.int s1), .val (.int s2), .val (.int kd), .val (.int (0 : Int32)), .val (.int (0 : Int32)), .val (.double (FP.dmul (FP.l2d m1) pa)), .second, .val (.double (FP.dmul (FP.l2d m2) pb)), .second, .unset, .unset] [(.int s1), (.int (-960 : Int32))])) _
          refine XS.isub X26.here hx rfl (hb hby at_150) rfl ?_
          show Steps p.tables e below (T26.setTop (mkF m 151 #[.val (.int i0), .val (.int i1), .val (.int i2), .val (.int i3), .val (.int i4), .val (.long m1), .second, .val (.long m2), .second, .val (.int s1), .val (.int s2), .val (.int kd), .val (.int (0 : Int32)), .val (.int (0 : Int32)), .val (.double (FP.dmul (FP.l2d m1) pa)), .second, .val (.double (FP.dmul (FP.l2d m2) pb)), .second, .unset, .unset] [(.int ((-960 : Int32) - s1))])) _
          refine XS.iload X26.here hx rfl (hb hby at_151) rfl ?_
          show Steps p.tables e below (T26.setTop (mkF m 153 #[.val (.int i0), .val (.int i1), .val (.int i2), .val (.int i3), .val (.int i4), .val (.long m1), .second, .val (.long m2), .second, .val (.int s1), .val (.int s2), .val (.int kd), .val (.int (0 : Int32)), .val (.int (0 : Int32)), .val (.double (FP.dmul (FP.l2d m1) pa)), .second, .val (.double (FP.dmul (FP.l2d m2) pb)), .second, .unset, .unset] [(.int s2), (.int ((-960 : Int32) - s1))])) _
          refine XS.isub X26.here hx rfl (hb hby at_153) rfl ?_
          show Steps p.tables e below (T26.setTop (mkF m 154 #[.val (.int i0), .val (.int i1), .val (.int i2), .val (.int i3), .val (.int i4), .val (.long m1), .second, .val (.long m2), .second, .val (.int s1), .val (.int s2), .val (.int kd), .val (.int (0 : Int32)), .val (.int (0 : Int32)), .val (.double (FP.dmul (FP.l2d m1) pa)), .second, .val (.double (FP.dmul (FP.l2d m2) pb)), .second, .unset, .unset] [(.int (((-960 : Int32) - s1) - s2))])) _
          refine XS.istore X26.here hx rfl (hb hby at_154) rfl (l' := #[.val (.int i0), .val (.int i1), .val (.int i2), .val (.int i3), .val (.int i4), .val (.long m1), .second, .val (.long m2), .second, .val (.int s1), .val (.int s2), .val (.int kd), .val (.int (0 : Int32)), .val (.int (0 : Int32)), .val (.double (FP.dmul (FP.l2d m1) pa)), .second, .val (.double (FP.dmul (FP.l2d m2) pb)), .second, .unset, .val (.int (((-960 : Int32) - s1) - s2))]) rfl ?_
          exact Steps.refl _
        generalize hk : (((-960 : Int32) - s1) - s2) = k at c27
        have hki : k.toInt = 1188 - (E1 : Int) - (E2 : Int) := own_k hk hE1 hE2 hE1s hE2s
        have hnn : Jvm.Free.Fl.NoNaN64 (FP.dmul (FP.dmul (FP.l2d m1) pa) (FP.dmul (FP.l2d m2) pb)) := Jvm.Free.Fl.dmul_out hva.fin hvb.fin
        by_cases hk0 : 0 < k
        · have c28 : Steps p.tables e below S0 (T26.setTop (mkF m 167 #[.val (.int i0), .val (.int i1), .val (.int i2), .val (.int i3), .val (.int i4), .val (.long m1), .second, .val (.long m2), .second, .val (.int s1), .val (.int s2), .val (.int kd), .val (.int (0 : Int32)), .val (.int (0 : Int32)), .val (.double (FP.dmul (FP.l2d m1) pa)), .second, .val (.double (FP.dmul (FP.l2d m2) pb)), .second, .unset, .val (.int k)] [])) := by
            refine c27.trans ?_
            show Steps p.tables e below (T26.setTop (mkF m 156 #[.val (.int i0), .val (.int i1), .val (.int i2), .val (.int i3), .val (.int i4), .val (.long m1), .second, .val (.long m2), .second, .val (.int s1), .val (.int s2), .val (.int kd), .val (.int (0 : Int32)), .val (.int (0 : Int32)), .val (.double (FP.dmul (FP.l2d m1) pa)), .second, .val (.double (FP.dmul (FP.l2d m2) pb)), .second, .unset, .val (.int k)] [])) _
            refine XS.iload X26.here hx rfl (hb hby at_156) rfl ?_
            show Steps p.tables e below (T26.setTop (mkF m 158 #[.val (.int i0), .val (.int i1), .val (.int i2), .val (.int i3), .val (.int i4), .val (.long m1), .second, .val (.long m2), .second, .val (.int s1), .val (.int s2), .val (.int kd), .val (.int (0 : Int32)), .val (.int (0 : Int32)), .val (.double (FP.dmul (FP.l2d m1) pa)), .second, .val (.double (FP.dmul (FP.l2d m2) pb)), .second, .unset, .val (.int k)] [(.int k)])) _
            refine XS.ifYes X26.here hx rfl (pc0 := 158) (pc' := 167) rfl (hb hby at_158) rfl ((if0 _ _).trans (tlt hk0).2.2.1) (by decide) (by decide) ?_
            exact Steps.refl _
          by_cases hk63 : k < 63
          · have c29 : Steps p.tables e below S0 (T26.setTop (mkF m 190 #[.val (.int i0), .val (.int i1), .val (.int i2), .val (.int i3), .val (.int i4), .val (.long m1), .second, .val (.long m2), .second, .val (.int s1), .val (.int s2), .val (.int kd), .val (.int (0 : Int32)), .val (.int (0 : Int32)), .val (.double (FP.dmul (FP.l2d m1) pa)), .second, .val (.double (FP.dmul (FP.l2d m2) pb)), .second, .unset, .val (.int k)] [(.int (lcmpW (m1 * m2) ((1 : Int64) <<< (k &&& 0x3f).toInt64)))])) := by
              refine c28.trans ?_
              show Steps p.tables e below (T26.setTop (mkF m 167 #[.val (.int i0), .val (.int i1), .val (.int i2), .val (.int i3), .val (.int i4), .val (.long m1), .second, .val (.long m2), .second, .val (.int s1), .val (.int s2), .val (.int kd), .val (.int (0 : Int32)), .val (.int (0 : Int32)), .val (.double (FP.dmul (FP.l2d m1) pa)), .second, .val (.double (FP.dmul (FP.l2d m2) pb)), .second, .unset, .val (.int k)] [])) _
              refine XS.iload X26.here hx rfl (hb hby at_167) rfl ?_
              show Steps p.tables e below (T26.setTop (mkF m 169 #[.val (.int i0), .val (.int i1), .val (.int i2), .val (.int i3), .val (.int i4), .val (.long m1), .second, .val (.long m2), .second, .val (.int s1), .val (.int s2), .val (.int kd), .val (.int (0 : Int32)), .val (.int (0 : Int32)), .val (.double (FP.dmul (FP.l2d m1) pa)), .second, .val (.double (FP.dmul (FP.l2d m2) pb)), .second, .unset, .val (.int k)] [(.int k)])) _
              refine XS.bipush X26.here hx rfl (hb hby at_169) ?_
              show Steps p.tables e below (T26.setTop (mkF m 171 #[.val (.int i0), .val (.int i1), .val (.int i2), .val (.int i3), .val (.int i4), .val (.long m1), .second, .val (.long m2), .second, .val (.int s1), .val (.int s2), .val (.int kd), .val (.int (0 : Int32)), .val (.int (0 : Int32)), .val (.double (FP.dmul (FP.l2d m1) pa)), .second, .val (.double (FP.dmul (FP.l2d m2) pb)), .second, .unset, .val (.int k)] [(.int (63 : Int32)), (.int k)])) _
              refine XS.icmpYes X26.here hx rfl (pc0 := 171) (pc' := 180) rfl (hb hby at_171) rfl (tlt hk63).1 (by decide) (by decide) ?_
              show Steps p.tables e below (T26.setTop (mkF m 180 #[.val (.int i0), .val (.int i1), .val (.int i2), .val (.int i3), .val (.int i4), .val (.long m1), .second, .val (.long m2), .second, .val (.int s1), .val (.int s2), .val (.int kd), .val (.int (0 : Int32)), .val (.int (0 : Int32)), .val (.double (FP.dmul (FP.l2d m1) pa)), .second, .val (.double (FP.dmul (FP.l2d m2) pb)), .second, .unset, .val (.int k)] [])) _
              refine XS.lload X26.here hx rfl (hb hby at_180) rfl ?_
              show Steps p.tables e below (T26.setTop (mkF m 182 #[.val (.int i0), .val (.int i1), .val (.int i2), .val (.int i3), .val (.int i4), .val (.long m1), .second, .val (.long m2), .second, .val (.int s1), .val (.int s2), .val (.int kd), .val (.int (0 : Int32)), .val (.int (0 : Int32)), .val (.double (FP.dmul (FP.l2d m1) pa)), .second, .val (.double (FP.dmul (FP.l2d m2) pb)), .second, .unset, .val (.int k)] [(.long m1)])) _
              refine XS.lload X26.here hx rfl (hb hby at_182) rfl ?_
              show Steps p.tables e below (T26.setTop (mkF m 184 #[.val (.int i0), .val (.int i1), .val (.int i2), .val (.int i3), .val (.int i4), .val (.long m1), .second, .val (.long m2), .second, .val (.int s1), .val (.int s2), .val (.int kd), .val (.int (0 : Int32)), .val (.int (0 : Int32)), .val (.double (FP.dmul (FP.l2d m1) pa)), .second, .val (.double (FP.dmul (FP.l2d m2) pb)), .second, .unset, .val (.int k)] [(.long m2), (.long m1)])) _
              refine XS.lmul X26.here hx rfl (hb hby at_184) rfl ?_
              show Steps p.tables e below (T26.setTop (mkF m 185 #[.val (.int i0), .val (.int i1), .val (.int i2), .val (.int i3), .val (.int i4), .val (.long m1), .second, .val (.long m2), .second, .val (.int s1), .val (.int s2), .val (.int kd), .val (.int (0 : Int32)), .val (.int (0 : Int32)), .val (.double (FP.dmul (FP.l2d m1) pa)), .second, .val (.double (FP.dmul (FP.l2d m2) pb)), .second, .unset, .val (.int k)] [(.long (m1 * m2))])) _
              refine XS.lconst X26.here hx rfl (hb hby at_185) ?_
              show Steps p.tables e below (T26.setTop (mkF m 186 #[.val (.int i0), .val (.int i1), .val (.int i2), .val (.int i3), .val (.int i4), .val (.long m1), .second, .val (.long m2), .second, .val (.int s1), .val (.int s2), .val (.int kd), .val (.int (0 : Int32)), .val (.int (0 : Int32)), .val (.double (FP.dmul (FP.l2d m1) pa)), .second, .val (.double (FP.dmul (FP.l2d m2) pb)), .second, .unset, .val (.int k)] [(.long (1 : Int64)), (.long (m1 * m2))])) _
              refine XS.iload X26.here hx rfl (hb hby at_186) rfl ?_
              show Steps p.tables e below (T26.setTop (mkF m 188 #[.val (.int i0), .val (.int i1), .val (.int i2), .val (.int i3), .val (.int i4), .val (.long m1), .second, .val (.long m2), .second, .val (.int s1), .val (.int s2), .val (.int kd), .val (.int (0 : Int32)), .val (.int (0 : Int32)), .val (.double (FP.dmul (FP.l2d m1) pa)), .second, .val (.double (FP.dmul (FP.l2d m2) pb)), .second, .unset, .val (.int k)] [(.int k), (.long (1 : Int64)), (.long (m1 * m2))])) _
              refine XS.lshl X26.here hx rfl (hb hby at_188) rfl ?_
              show Steps p.tables e below (T26.setTop (mkF m 189 #[.val (.int i0), .val (.int i1), .val (.int i2), .val (.int i3), .val (.int i4), .val (.long m1), .second, .val (.long m2), .second, .val (.int s1), .val (.int s2), .val (.int kd), .val (.int (0 : Int32)), .val (.int (0 : Int32)), .val (.double (FP.dmul (FP.l2d m1) pa)), .second, .val (.double (FP.dmul (FP.l2d m2) pb)), .second, .unset, .val (.int k)] [(.long ((1 : Int64) <<< (k &&& 0x3f).toInt64)), (.long (m1 * m2))])) _
              refine XS.lcmp X26.here hx rfl (hb hby at_189) rfl ?_
              exact Steps.refl _
            obtain ⟨hlm, hxq⟩ := own_mid hva hvb hM1 hM2 hM1l hM1u hM2l hM2u hki hk0 hk63
            by_cases hl : lcmpW (m1 * m2) ((1 : Int64) <<< (k &&& 0x3f).toInt64) < 0
            · have c30 : Steps p.tables e below S0 (T26.setTop (mkF m 200 #[.val (.int i0), .val (.int i1), .val (.int i2), .val (.int i3), .val (.int i4), .val (.long m1), .second, .val (.long m2), .second, .val (.int s1), .val (.int s2), .val (.int kd), .val (.int (0 : Int32)), .val (.int (0 : Int32)), .val (.double (FP.dmul (FP.l2d m1) pa)), .second, .val (.double (FP.dmul (FP.l2d m2) pb)), .second, .val (.int (1 : Int32)), .val (.int k)] [])) := by
                refine c29.trans ?_
                show Steps p.tables e below (T26.setTop (mkF m 190 #[.val (.int i0), .val (.int i1), .val (.int i2), .val (.int i3), .val (.int i4), .val (.long m1), .second, .val (.long m2), .second, .val (.int s1), .val (.int s2), .val (.int kd), .val (.int (0 : Int32)), .val (.int (0 : Int32)), .val (.double (FP.dmul (FP.l2d m1) pa)), .second, .val (.double (FP.dmul (FP.l2d m2) pb)), .second, .unset, .val (.int k)] [(.int (lcmpW (m1 * m2) ((1 : Int64) <<< (k &&& 0x3f).toInt64)))])) _
                refine XS.ifNo X26.here hx rfl (hb hby at_190) rfl ((if0 _ _).trans (tlt hl).2.1) ?_
                show Steps p.tables e below (T26.setTop (mkF m 193 #[.val (.int i0), .val (.int i1), .val (.int i2), .val (.int i3), .val (.int i4), .val (.long m1), .second, .val (.long m2), .second, .val (.int s1), .val (.int s2), .val (.int kd), .val (.int (0 : Int32)), .val (.int (0 : Int32)), .val (.double (FP.dmul (FP.l2d m1) pa)), .second, .val (.double (FP.dmul (FP.l2d m2) pb)), .second, .unset, .val (.int k)] [])) _
                refine XS.iconst X26.here hx rfl (hb hby at_193) ?_
                show Steps p.tables e below (T26.setTop (mkF m 194 #[.val (.int i0), .val (.int i1), .val (.int i2), .val (.int i3), .val (.int i4), .val (.long m1), .second, .val (.long m2), .second, .val (.int s1), .val (.int s2), .val (.int kd), .val (.int (0 : Int32)), .val (.int (0 : Int32)), .val (.double (FP.dmul (FP.l2d m1) pa)), .second, .val (.double (FP.dmul (FP.l2d m2) pb)), .second, .unset, .val (.int k)] [(.int (1 : Int32))])) _
                refine XS.goto X26.here hx rfl (pc0 := 194) (pc' := 198) rfl (hb hby at_194) (by decide) (by decide) ?_
                show Steps p.tables e below (T26.setTop (mkF m 198 #[.val (.int i0), .val (.int i1), .val (.int i2), .val (.int i3), .val (.int i4), .val (.long m1), .second, .val (.long m2), .second, .val (.int s1), .val (.int s2), .val (.int kd), .val (.int (0 : Int32)), .val (.int (0 : Int32)), .val (.double (FP.dmul (FP.l2d m1) pa)), .second, .val (.double (FP.dmul (FP.l2d m2) pb)), .second, .unset, .val (.int k)] [(.int (1 : Int32))])) _
                refine XS.istore X26.here hx rfl (hb hby at_198) rfl (l' := #[.val (.int i0), .val (.int i1), .val (.int i2), .val (.int i3), .val (.int i4), .val (.long m1), .second, .val (.long m2), .second, .val (.int s1), .val (.int s2), .val (.int kd), .val (.int (0 : Int32)), .val (.int (0 : Int32)), .val (.double (FP.dmul (FP.l2d m1) pa)), .second, .val (.double (FP.dmul (FP.l2d m2) pb)), .second, .val (.int (1 : Int32)), .val (.int k)]) rfl ?_
                exact Steps.refl _
              have c31 : Steps p.tables e below S0 (T26.setTop (mkF m 204 #[.val (.int i0), .val (.int i1), .val (.int i2), .val (.int i3), .val (.int i4), .val (.long m1), .second, .val (.long m2), .second, .val (.int s1), .val (.int s2), .val (.int kd), .val (.int (0 : Int32)), .val (.int (0 : Int32)), .val (.double (FP.dmul (FP.l2d m1) pa)), .second, .val (.double (FP.dmul (FP.l2d m2) pb)), .second, .val (.int (1 : Int32)), .val (.int k)] [(.double (FP.dmul (FP.l2d m2) pb)), (.double (FP.dmul (FP.l2d m1) pa))])) := by
                refine c30.trans ?_
                show Steps p.tables e below (T26.setTop (mkF m 200 #[.val (.int i0), .val (.int i1), .val (.int i2), .val (.int i3), .val (.int i4), .val (.long m1), .second, .val (.long m2), .second, .val (.int s1), .val (.int s2), .val (.int kd), .val (.int (0 : Int32)), .val (.int (0 : Int32)), .val (.double (FP.dmul (FP.l2d m1) pa)), .second, .val (.double (FP.dmul (FP.l2d m2) pb)), .second, .val (.int (1 : Int32)), .val (.int k)] [])) _
                refine XS.dload X26.here hx rfl (hb hby at_200) rfl ?_
                show Steps p.tables e below (T26.setTop (mkF m 202 #[.val (.int i0), .val (.int i1), .val (.int i2), .val (.int i3), .val (.int i4), .val (.long m1), .second, .val (.long m2), .second, .val (.int s1), .val (.int s2), .val (.int kd), .val (.int (0 : Int32)), .val (.int (0 : Int32)), .val (.double (FP.dmul (FP.l2d m1) pa)), .second, .val (.double (FP.dmul (FP.l2d m2) pb)), .second, .val (.int (1 : Int32)), .val (.int k)] [(.double (FP.dmul (FP.l2d m1) pa))])) _
                refine XS.dload X26.here hx rfl (hb hby at_202) rfl ?_
                exact Steps.refl _
              obtain ⟨_, _, ⟨T32, L32, k32, n32⟩, -, X32, ⟨Lc32, hQ32, l32, y32, z32⟩, st32⟩ := Jvm.LawKit.callS X26 hx (y := (⟨"com/example/tight_reach/tightreach/RoundedProducts", "mayUnderflow", "(DD)Z"⟩ : MethodName)) hown (mvT hZ (hw _ (List.mem_of_getElem? (i := 12) rfl))) (mvT hZ (hw _ (List.mem_of_getElem? (i := 13) rfl))) (mvT hZ (hw _ (List.mem_of_getElem? (i := 14) rfl))) (mvT hZ (hw _ (List.mem_of_getElem? (i := 15) rfl))) (by decide) (backOf (W := 0) (rm34 l Z a0 hw [] (FP.dmul (FP.l2d m1) pa) (FP.dmul (FP.l2d m2) pb) h0 n0 Z0 hnn) hZ (hw _ (List.mem_of_getElem? (i := 15) rfl)) (hw _ (List.mem_of_getElem? (i := 14) rfl)) (by decide) (by decide)) (g := (mkF m 204 #[.val (.int i0), .val (.int i1), .val (.int i2), .val (.int i3), .val (.int i4), .val (.long m1), .second, .val (.long m2), .second, .val (.int s1), .val (.int s2), .val (.int kd), .val (.int (0 : Int32)), .val (.int (0 : Int32)), .val (.double (FP.dmul (FP.l2d m1) pa)), .second, .val (.double (FP.dmul (FP.l2d m2) pb)), .second, .val (.int (1 : Int32)), .val (.int k)] [(.double (FP.dmul (FP.l2d m2) pb)), (.double (FP.dmul (FP.l2d m1) pa))])) rfl (by rw [hml]; rfl) (argsL := [(.double (FP.dmul (FP.l2d m1) pa)), (.double (FP.dmul (FP.l2d m2) pb))]) (rest := []) (lenOf pd1 rfl) rfl (by show 2 * 0 + _ ≤ _; exact Nat.le_of_eq rfl) (hb hby at_204) (fun _ _ => ⟨rfl, eb, (by decide : 0 + 0 ≤ _), (by decide : 0 + 0 ≤ _)⟩)
              dsimp only [Pt.U, Pt.locs, Pt.cells, Pt.slots] at X32 l32 y32 z32 st32 hQ32
              subst l32 y32 z32
              obtain ⟨rfl, Nz, ez⟩ := hQ32
              have c32 : Steps p.tables e below S0 (T32.setTop (mkF m 207 #[.val (.int i0), .val (.int i1), .val (.int i2), .val (.int i3), .val (.int i4), .val (.long m1), .second, .val (.long m2), .second, .val (.int s1), .val (.int s2), .val (.int kd), .val (.int (0 : Int32)), .val (.int (0 : Int32)), .val (.double (FP.dmul (FP.l2d m1) pa)), .second, .val (.double (FP.dmul (FP.l2d m2) pb)), .second, .val (.int (1 : Int32)), .val (.int k)] [(.int (if (cmpValue (FP.dcmp (FP.dmul (FP.dmul (FP.l2d m1) pa) (FP.dmul (FP.l2d m2) pb)) (283726776524341248 : UInt64)) .g) < 0 then 1 else 0))])) := by
                refine c31.trans ?_
                show Steps p.tables e below (T26.setTop (mkF m 204 #[.val (.int i0), .val (.int i1), .val (.int i2), .val (.int i3), .val (.int i4), .val (.long m1), .second, .val (.long m2), .second, .val (.int s1), .val (.int s2), .val (.int kd), .val (.int (0 : Int32)), .val (.int (0 : Int32)), .val (.double (FP.dmul (FP.l2d m1) pa)), .second, .val (.double (FP.dmul (FP.l2d m2) pb)), .second, .val (.int (1 : Int32)), .val (.int k)] [(.double (FP.dmul (FP.l2d m2) pb)), (.double (FP.dmul (FP.l2d m1) pa))])) _
                refine st32 _ ?_
                exact Steps.refl _
              have hcm : (if (cmpValue (FP.dcmp (FP.dmul (FP.dmul (FP.l2d m1) pa) (FP.dmul (FP.l2d m2) pb)) (283726776524341248 : UInt64)) .g) < 0 then (1 : Int32) else 0) = (1 : Int32) := if_pos (hxq.mp hl)
              rw [hcm] at c32
              have c33 : Steps p.tables e below S0 (T32.setTop (mkF m 217 #[.val (.int i0), .val (.int i1), .val (.int i2), .val (.int i3), .val (.int i4), .val (.long m1), .second, .val (.long m2), .second, .val (.int s1), .val (.int s2), .val (.int kd), .val (.int (0 : Int32)), .val (.int (0 : Int32)), .val (.double (FP.dmul (FP.l2d m1) pa)), .second, .val (.double (FP.dmul (FP.l2d m2) pb)), .second, .val (.int (1 : Int32)), .val (.int k)] [(.int (1 : Int32))])) := by
                refine c32.trans ?_
                show Steps p.tables e below (T32.setTop (mkF m 207 #[.val (.int i0), .val (.int i1), .val (.int i2), .val (.int i3), .val (.int i4), .val (.long m1), .second, .val (.long m2), .second, .val (.int s1), .val (.int s2), .val (.int kd), .val (.int (0 : Int32)), .val (.int (0 : Int32)), .val (.double (FP.dmul (FP.l2d m1) pa)), .second, .val (.double (FP.dmul (FP.l2d m2) pb)), .second, .val (.int (1 : Int32)), .val (.int k)] [(.int (1 : Int32))])) _
                refine XS.iload X32.here hx rfl (hb hby at_207) rfl ?_
                show Steps p.tables e below (T32.setTop (mkF m 209 #[.val (.int i0), .val (.int i1), .val (.int i2), .val (.int i3), .val (.int i4), .val (.long m1), .second, .val (.long m2), .second, .val (.int s1), .val (.int s2), .val (.int kd), .val (.int (0 : Int32)), .val (.int (0 : Int32)), .val (.double (FP.dmul (FP.l2d m1) pa)), .second, .val (.double (FP.dmul (FP.l2d m2) pb)), .second, .val (.int (1 : Int32)), .val (.int k)] [(.int (1 : Int32)), (.int (1 : Int32))])) _
                refine XS.icmpNo X32.here hx rfl (hb hby at_209) rfl (teq rfl).2 ?_
                show Steps p.tables e below (T32.setTop (mkF m 212 #[.val (.int i0), .val (.int i1), .val (.int i2), .val (.int i3), .val (.int i4), .val (.long m1), .second, .val (.long m2), .second, .val (.int s1), .val (.int s2), .val (.int kd), .val (.int (0 : Int32)), .val (.int (0 : Int32)), .val (.double (FP.dmul (FP.l2d m1) pa)), .second, .val (.double (FP.dmul (FP.l2d m2) pb)), .second, .val (.int (1 : Int32)), .val (.int k)] [])) _
                refine XS.iconst X32.here hx rfl (hb hby at_212) ?_
                show Steps p.tables e below (T32.setTop (mkF m 213 #[.val (.int i0), .val (.int i1), .val (.int i2), .val (.int i3), .val (.int i4), .val (.long m1), .second, .val (.long m2), .second, .val (.int s1), .val (.int s2), .val (.int kd), .val (.int (0 : Int32)), .val (.int (0 : Int32)), .val (.double (FP.dmul (FP.l2d m1) pa)), .second, .val (.double (FP.dmul (FP.l2d m2) pb)), .second, .val (.int (1 : Int32)), .val (.int k)] [(.int (1 : Int32))])) _
                refine XS.goto X32.here hx rfl (pc0 := 213) (pc' := 217) rfl (hb hby at_213) (by decide) (by decide) ?_
                exact Steps.refl _
              obtain ⟨fs, hr, hrun, hended, hW, hsame⟩ := X32.leave (v := some (.int 1)) (fun h => by rw [Bd.returns] at h; cases h)
              refine ⟨_, _, c33.trans ?_, hrun, hended, _, _, rfl, ?_, ⟨_, rfl⟩, hW, hsame.mono (by decide) (by decide)⟩
              · show Steps p.tables e below (T32.setTop (mkF m 217 #[.val (.int i0), .val (.int i1), .val (.int i2), .val (.int i3), .val (.int i4), .val (.long m1), .second, .val (.long m2), .second, .val (.int s1), .val (.int s2), .val (.int kd), .val (.int (0 : Int32)), .val (.int (0 : Int32)), .val (.double (FP.dmul (FP.l2d m1) pa)), .second, .val (.double (FP.dmul (FP.l2d m2) pb)), .second, .val (.int (1 : Int32)), .val (.int k)] [(.int (1 : Int32))])) _
                exact retN X32 hx (t := .boolean) Bd.returns (by simp) (hb hby at_217) hr
              · show Q0 Z i0 i1 i2 i3 i4 h0 n0 _ T32.heap _
                rw [ez]
                exact ⟨rfl, Fr.app Nfb Nz⟩
            · have c34 : Steps p.tables e below S0 (T26.setTop (mkF m 200 #[.val (.int i0), .val (.int i1), .val (.int i2), .val (.int i3), .val (.int i4), .val (.long m1), .second, .val (.long m2), .second, .val (.int s1), .val (.int s2), .val (.int kd), .val (.int (0 : Int32)), .val (.int (0 : Int32)), .val (.double (FP.dmul (FP.l2d m1) pa)), .second, .val (.double (FP.dmul (FP.l2d m2) pb)), .second, .val (.int (0 : Int32)), .val (.int k)] [])) := by
                refine c29.trans ?_
                show Steps p.tables e below (T26.setTop (mkF m 190 #[.val (.int i0), .val (.int i1), .val (.int i2), .val (.int i3), .val (.int i4), .val (.long m1), .second, .val (.long m2), .second, .val (.int s1), .val (.int s2), .val (.int kd), .val (.int (0 : Int32)), .val (.int (0 : Int32)), .val (.double (FP.dmul (FP.l2d m1) pa)), .second, .val (.double (FP.dmul (FP.l2d m2) pb)), .second, .unset, .val (.int k)] [(.int (lcmpW (m1 * m2) ((1 : Int64) <<< (k &&& 0x3f).toInt64)))])) _
                refine XS.ifYes X26.here hx rfl (pc0 := 190) (pc' := 197) rfl (hb hby at_190) rfl ((if0 _ _).trans (flt hl).2.1) (by decide) (by decide) ?_
                show Steps p.tables e below (T26.setTop (mkF m 197 #[.val (.int i0), .val (.int i1), .val (.int i2), .val (.int i3), .val (.int i4), .val (.long m1), .second, .val (.long m2), .second, .val (.int s1), .val (.int s2), .val (.int kd), .val (.int (0 : Int32)), .val (.int (0 : Int32)), .val (.double (FP.dmul (FP.l2d m1) pa)), .second, .val (.double (FP.dmul (FP.l2d m2) pb)), .second, .unset, .val (.int k)] [])) _
                refine XS.iconst X26.here hx rfl (hb hby at_197) ?_
                show Steps p.tables e below (T26.setTop (mkF m 198 #[.val (.int i0), .val (.int i1), .val (.int i2), .val (.int i3), .val (.int i4), .val (.long m1), .second, .val (.long m2), .second, .val (.int s1), .val (.int s2), .val (.int kd), .val (.int (0 : Int32)), .val (.int (0 : Int32)), .val (.double (FP.dmul (FP.l2d m1) pa)), .second, .val (.double (FP.dmul (FP.l2d m2) pb)), .second, .unset, .val (.int k)] [(.int (0 : Int32))])) _
                refine XS.istore X26.here hx rfl (hb hby at_198) rfl (l' := #[.val (.int i0), .val (.int i1), .val (.int i2), .val (.int i3), .val (.int i4), .val (.long m1), .second, .val (.long m2), .second, .val (.int s1), .val (.int s2), .val (.int kd), .val (.int (0 : Int32)), .val (.int (0 : Int32)), .val (.double (FP.dmul (FP.l2d m1) pa)), .second, .val (.double (FP.dmul (FP.l2d m2) pb)), .second, .val (.int (0 : Int32)), .val (.int k)]) rfl ?_
                exact Steps.refl _
              have c35 : Steps p.tables e below S0 (T26.setTop (mkF m 204 #[.val (.int i0), .val (.int i1), .val (.int i2), .val (.int i3), .val (.int i4), .val (.long m1), .second, .val (.long m2), .second, .val (.int s1), .val (.int s2), .val (.int kd), .val (.int (0 : Int32)), .val (.int (0 : Int32)), .val (.double (FP.dmul (FP.l2d m1) pa)), .second, .val (.double (FP.dmul (FP.l2d m2) pb)), .second, .val (.int (0 : Int32)), .val (.int k)] [(.double (FP.dmul (FP.l2d m2) pb)), (.double (FP.dmul (FP.l2d m1) pa))])) := by
                refine c34.trans ?_
                show Steps p.tables e below (T26.setTop (mkF m 200 #[.val (.int i0), .val (.int i1), .val (.int i2), .val (.int i3), .val (.int i4), .val (.long m1), .second, .val (.long m2), .second, .val (.int s1), .val (.int s2), .val (.int kd), .val (.int (0 : Int32)), .val (.int (0 : Int32)), .val (.double (FP.dmul (FP.l2d m1) pa)), .second, .val (.double (FP.dmul (FP.l2d m2) pb)), .second, .val (.int (0 : Int32)), .val (.int k)] [])) _
                refine XS.dload X26.here hx rfl (hb hby at_200) rfl ?_
                show Steps p.tables e below (T26.setTop (mkF m 202 #[.val (.int i0), .val (.int i1), .val (.int i2), .val (.int i3), .val (.int i4), .val (.long m1), .second, .val (.long m2), .second, .val (.int s1), .val (.int s2), .val (.int kd), .val (.int (0 : Int32)), .val (.int (0 : Int32)), .val (.double (FP.dmul (FP.l2d m1) pa)), .second, .val (.double (FP.dmul (FP.l2d m2) pb)), .second, .val (.int (0 : Int32)), .val (.int k)] [(.double (FP.dmul (FP.l2d m1) pa))])) _
                refine XS.dload X26.here hx rfl (hb hby at_202) rfl ?_
                exact Steps.refl _
              obtain ⟨_, _, ⟨T36, L36, k36, n36⟩, -, X36, ⟨Lc36, hQ36, l36, y36, z36⟩, st36⟩ := Jvm.LawKit.callS X26 hx (y := (⟨"com/example/tight_reach/tightreach/RoundedProducts", "mayUnderflow", "(DD)Z"⟩ : MethodName)) hown (mvT hZ (hw _ (List.mem_of_getElem? (i := 12) rfl))) (mvT hZ (hw _ (List.mem_of_getElem? (i := 13) rfl))) (mvT hZ (hw _ (List.mem_of_getElem? (i := 14) rfl))) (mvT hZ (hw _ (List.mem_of_getElem? (i := 15) rfl))) (by decide) (backOf (W := 0) (rm34 l Z a0 hw [] (FP.dmul (FP.l2d m1) pa) (FP.dmul (FP.l2d m2) pb) h0 n0 Z0 hnn) hZ (hw _ (List.mem_of_getElem? (i := 15) rfl)) (hw _ (List.mem_of_getElem? (i := 14) rfl)) (by decide) (by decide)) (g := (mkF m 204 #[.val (.int i0), .val (.int i1), .val (.int i2), .val (.int i3), .val (.int i4), .val (.long m1), .second, .val (.long m2), .second, .val (.int s1), .val (.int s2), .val (.int kd), .val (.int (0 : Int32)), .val (.int (0 : Int32)), .val (.double (FP.dmul (FP.l2d m1) pa)), .second, .val (.double (FP.dmul (FP.l2d m2) pb)), .second, .val (.int (0 : Int32)), .val (.int k)] [(.double (FP.dmul (FP.l2d m2) pb)), (.double (FP.dmul (FP.l2d m1) pa))])) rfl (by rw [hml]; rfl) (argsL := [(.double (FP.dmul (FP.l2d m1) pa)), (.double (FP.dmul (FP.l2d m2) pb))]) (rest := []) (lenOf pd1 rfl) rfl (by show 2 * 0 + _ ≤ _; exact Nat.le_of_eq rfl) (hb hby at_204) (fun _ _ => ⟨rfl, eb, (by decide : 0 + 0 ≤ _), (by decide : 0 + 0 ≤ _)⟩)
              dsimp only [Pt.U, Pt.locs, Pt.cells, Pt.slots] at X36 l36 y36 z36 st36 hQ36
              subst l36 y36 z36
              obtain ⟨rfl, Nz, ez⟩ := hQ36
              have c36 : Steps p.tables e below S0 (T36.setTop (mkF m 207 #[.val (.int i0), .val (.int i1), .val (.int i2), .val (.int i3), .val (.int i4), .val (.long m1), .second, .val (.long m2), .second, .val (.int s1), .val (.int s2), .val (.int kd), .val (.int (0 : Int32)), .val (.int (0 : Int32)), .val (.double (FP.dmul (FP.l2d m1) pa)), .second, .val (.double (FP.dmul (FP.l2d m2) pb)), .second, .val (.int (0 : Int32)), .val (.int k)] [(.int (if (cmpValue (FP.dcmp (FP.dmul (FP.dmul (FP.l2d m1) pa) (FP.dmul (FP.l2d m2) pb)) (283726776524341248 : UInt64)) .g) < 0 then 1 else 0))])) := by
                refine c35.trans ?_
                show Steps p.tables e below (T26.setTop (mkF m 204 #[.val (.int i0), .val (.int i1), .val (.int i2), .val (.int i3), .val (.int i4), .val (.long m1), .second, .val (.long m2), .second, .val (.int s1), .val (.int s2), .val (.int kd), .val (.int (0 : Int32)), .val (.int (0 : Int32)), .val (.double (FP.dmul (FP.l2d m1) pa)), .second, .val (.double (FP.dmul (FP.l2d m2) pb)), .second, .val (.int (0 : Int32)), .val (.int k)] [(.double (FP.dmul (FP.l2d m2) pb)), (.double (FP.dmul (FP.l2d m1) pa))])) _
                refine st36 _ ?_
                exact Steps.refl _
              have hcm : (if (cmpValue (FP.dcmp (FP.dmul (FP.dmul (FP.l2d m1) pa) (FP.dmul (FP.l2d m2) pb)) (283726776524341248 : UInt64)) .g) < 0 then (1 : Int32) else 0) = (0 : Int32) := if_neg (fun q => hl (hxq.mpr q))
              rw [hcm] at c36
              have c37 : Steps p.tables e below S0 (T36.setTop (mkF m 217 #[.val (.int i0), .val (.int i1), .val (.int i2), .val (.int i3), .val (.int i4), .val (.long m1), .second, .val (.long m2), .second, .val (.int s1), .val (.int s2), .val (.int kd), .val (.int (0 : Int32)), .val (.int (0 : Int32)), .val (.double (FP.dmul (FP.l2d m1) pa)), .second, .val (.double (FP.dmul (FP.l2d m2) pb)), .second, .val (.int (0 : Int32)), .val (.int k)] [(.int (1 : Int32))])) := by
                refine c36.trans ?_
                show Steps p.tables e below (T36.setTop (mkF m 207 #[.val (.int i0), .val (.int i1), .val (.int i2), .val (.int i3), .val (.int i4), .val (.long m1), .second, .val (.long m2), .second, .val (.int s1), .val (.int s2), .val (.int kd), .val (.int (0 : Int32)), .val (.int (0 : Int32)), .val (.double (FP.dmul (FP.l2d m1) pa)), .second, .val (.double (FP.dmul (FP.l2d m2) pb)), .second, .val (.int (0 : Int32)), .val (.int k)] [(.int (0 : Int32))])) _
                refine XS.iload X36.here hx rfl (hb hby at_207) rfl ?_
                show Steps p.tables e below (T36.setTop (mkF m 209 #[.val (.int i0), .val (.int i1), .val (.int i2), .val (.int i3), .val (.int i4), .val (.long m1), .second, .val (.long m2), .second, .val (.int s1), .val (.int s2), .val (.int kd), .val (.int (0 : Int32)), .val (.int (0 : Int32)), .val (.double (FP.dmul (FP.l2d m1) pa)), .second, .val (.double (FP.dmul (FP.l2d m2) pb)), .second, .val (.int (0 : Int32)), .val (.int k)] [(.int (0 : Int32)), (.int (0 : Int32))])) _
                refine XS.icmpNo X36.here hx rfl (hb hby at_209) rfl (teq rfl).2 ?_
                show Steps p.tables e below (T36.setTop (mkF m 212 #[.val (.int i0), .val (.int i1), .val (.int i2), .val (.int i3), .val (.int i4), .val (.long m1), .second, .val (.long m2), .second, .val (.int s1), .val (.int s2), .val (.int kd), .val (.int (0 : Int32)), .val (.int (0 : Int32)), .val (.double (FP.dmul (FP.l2d m1) pa)), .second, .val (.double (FP.dmul (FP.l2d m2) pb)), .second, .val (.int (0 : Int32)), .val (.int k)] [])) _
                refine XS.iconst X36.here hx rfl (hb hby at_212) ?_
                show Steps p.tables e below (T36.setTop (mkF m 213 #[.val (.int i0), .val (.int i1), .val (.int i2), .val (.int i3), .val (.int i4), .val (.long m1), .second, .val (.long m2), .second, .val (.int s1), .val (.int s2), .val (.int kd), .val (.int (0 : Int32)), .val (.int (0 : Int32)), .val (.double (FP.dmul (FP.l2d m1) pa)), .second, .val (.double (FP.dmul (FP.l2d m2) pb)), .second, .val (.int (0 : Int32)), .val (.int k)] [(.int (1 : Int32))])) _
                refine XS.goto X36.here hx rfl (pc0 := 213) (pc' := 217) rfl (hb hby at_213) (by decide) (by decide) ?_
                exact Steps.refl _
              obtain ⟨fs, hr, hrun, hended, hW, hsame⟩ := X36.leave (v := some (.int 1)) (fun h => by rw [Bd.returns] at h; cases h)
              refine ⟨_, _, c37.trans ?_, hrun, hended, _, _, rfl, ?_, ⟨_, rfl⟩, hW, hsame.mono (by decide) (by decide)⟩
              · show Steps p.tables e below (T36.setTop (mkF m 217 #[.val (.int i0), .val (.int i1), .val (.int i2), .val (.int i3), .val (.int i4), .val (.long m1), .second, .val (.long m2), .second, .val (.int s1), .val (.int s2), .val (.int kd), .val (.int (0 : Int32)), .val (.int (0 : Int32)), .val (.double (FP.dmul (FP.l2d m1) pa)), .second, .val (.double (FP.dmul (FP.l2d m2) pb)), .second, .val (.int (0 : Int32)), .val (.int k)] [(.int (1 : Int32))])) _
                exact retN X36 hx (t := .boolean) Bd.returns (by simp) (hb hby at_217) hr
              · show Q0 Z i0 i1 i2 i3 i4 h0 n0 _ T36.heap _
                rw [ez]
                exact ⟨rfl, Fr.app Nfb Nz⟩
          · have c38 : Steps p.tables e below S0 (T26.setTop (mkF m 200 #[.val (.int i0), .val (.int i1), .val (.int i2), .val (.int i3), .val (.int i4), .val (.long m1), .second, .val (.long m2), .second, .val (.int s1), .val (.int s2), .val (.int kd), .val (.int (0 : Int32)), .val (.int (0 : Int32)), .val (.double (FP.dmul (FP.l2d m1) pa)), .second, .val (.double (FP.dmul (FP.l2d m2) pb)), .second, .val (.int (1 : Int32)), .val (.int k)] [])) := by
              refine c28.trans ?_
              show Steps p.tables e below (T26.setTop (mkF m 167 #[.val (.int i0), .val (.int i1), .val (.int i2), .val (.int i3), .val (.int i4), .val (.long m1), .second, .val (.long m2), .second, .val (.int s1), .val (.int s2), .val (.int kd), .val (.int (0 : Int32)), .val (.int (0 : Int32)), .val (.double (FP.dmul (FP.l2d m1) pa)), .second, .val (.double (FP.dmul (FP.l2d m2) pb)), .second, .unset, .val (.int k)] [])) _
              refine XS.iload X26.here hx rfl (hb hby at_167) rfl ?_
              show Steps p.tables e below (T26.setTop (mkF m 169 #[.val (.int i0), .val (.int i1), .val (.int i2), .val (.int i3), .val (.int i4), .val (.long m1), .second, .val (.long m2), .second, .val (.int s1), .val (.int s2), .val (.int kd), .val (.int (0 : Int32)), .val (.int (0 : Int32)), .val (.double (FP.dmul (FP.l2d m1) pa)), .second, .val (.double (FP.dmul (FP.l2d m2) pb)), .second, .unset, .val (.int k)] [(.int k)])) _
              refine XS.bipush X26.here hx rfl (hb hby at_169) ?_
              show Steps p.tables e below (T26.setTop (mkF m 171 #[.val (.int i0), .val (.int i1), .val (.int i2), .val (.int i3), .val (.int i4), .val (.long m1), .second, .val (.long m2), .second, .val (.int s1), .val (.int s2), .val (.int kd), .val (.int (0 : Int32)), .val (.int (0 : Int32)), .val (.double (FP.dmul (FP.l2d m1) pa)), .second, .val (.double (FP.dmul (FP.l2d m2) pb)), .second, .unset, .val (.int k)] [(.int (63 : Int32)), (.int k)])) _
              refine XS.icmpNo X26.here hx rfl (hb hby at_171) rfl (flt hk63).1 ?_
              show Steps p.tables e below (T26.setTop (mkF m 174 #[.val (.int i0), .val (.int i1), .val (.int i2), .val (.int i3), .val (.int i4), .val (.long m1), .second, .val (.long m2), .second, .val (.int s1), .val (.int s2), .val (.int kd), .val (.int (0 : Int32)), .val (.int (0 : Int32)), .val (.double (FP.dmul (FP.l2d m1) pa)), .second, .val (.double (FP.dmul (FP.l2d m2) pb)), .second, .unset, .val (.int k)] [])) _
              refine XS.iconst X26.here hx rfl (hb hby at_174) ?_
              show Steps p.tables e below (T26.setTop (mkF m 175 #[.val (.int i0), .val (.int i1), .val (.int i2), .val (.int i3), .val (.int i4), .val (.long m1), .second, .val (.long m2), .second, .val (.int s1), .val (.int s2), .val (.int kd), .val (.int (0 : Int32)), .val (.int (0 : Int32)), .val (.double (FP.dmul (FP.l2d m1) pa)), .second, .val (.double (FP.dmul (FP.l2d m2) pb)), .second, .unset, .val (.int k)] [(.int (1 : Int32))])) _
              refine XS.istore X26.here hx rfl (hb hby at_175) rfl (l' := #[.val (.int i0), .val (.int i1), .val (.int i2), .val (.int i3), .val (.int i4), .val (.long m1), .second, .val (.long m2), .second, .val (.int s1), .val (.int s2), .val (.int kd), .val (.int (0 : Int32)), .val (.int (0 : Int32)), .val (.double (FP.dmul (FP.l2d m1) pa)), .second, .val (.double (FP.dmul (FP.l2d m2) pb)), .second, .val (.int (1 : Int32)), .val (.int k)]) rfl ?_
              show Steps p.tables e below (T26.setTop (mkF m 177 #[.val (.int i0), .val (.int i1), .val (.int i2), .val (.int i3), .val (.int i4), .val (.long m1), .second, .val (.long m2), .second, .val (.int s1), .val (.int s2), .val (.int kd), .val (.int (0 : Int32)), .val (.int (0 : Int32)), .val (.double (FP.dmul (FP.l2d m1) pa)), .second, .val (.double (FP.dmul (FP.l2d m2) pb)), .second, .val (.int (1 : Int32)), .val (.int k)] [])) _
              refine XS.goto X26.here hx rfl (pc0 := 177) (pc' := 200) rfl (hb hby at_177) (by decide) (by decide) ?_
              exact Steps.refl _
            have c39 : Steps p.tables e below S0 (T26.setTop (mkF m 204 #[.val (.int i0), .val (.int i1), .val (.int i2), .val (.int i3), .val (.int i4), .val (.long m1), .second, .val (.long m2), .second, .val (.int s1), .val (.int s2), .val (.int kd), .val (.int (0 : Int32)), .val (.int (0 : Int32)), .val (.double (FP.dmul (FP.l2d m1) pa)), .second, .val (.double (FP.dmul (FP.l2d m2) pb)), .second, .val (.int (1 : Int32)), .val (.int k)] [(.double (FP.dmul (FP.l2d m2) pb)), (.double (FP.dmul (FP.l2d m1) pa))])) := by
              refine c38.trans ?_
              show Steps p.tables e below (T26.setTop (mkF m 200 #[.val (.int i0), .val (.int i1), .val (.int i2), .val (.int i3), .val (.int i4), .val (.long m1), .second, .val (.long m2), .second, .val (.int s1), .val (.int s2), .val (.int kd), .val (.int (0 : Int32)), .val (.int (0 : Int32)), .val (.double (FP.dmul (FP.l2d m1) pa)), .second, .val (.double (FP.dmul (FP.l2d m2) pb)), .second, .val (.int (1 : Int32)), .val (.int k)] [])) _
              refine XS.dload X26.here hx rfl (hb hby at_200) rfl ?_
              show Steps p.tables e below (T26.setTop (mkF m 202 #[.val (.int i0), .val (.int i1), .val (.int i2), .val (.int i3), .val (.int i4), .val (.long m1), .second, .val (.long m2), .second, .val (.int s1), .val (.int s2), .val (.int kd), .val (.int (0 : Int32)), .val (.int (0 : Int32)), .val (.double (FP.dmul (FP.l2d m1) pa)), .second, .val (.double (FP.dmul (FP.l2d m2) pb)), .second, .val (.int (1 : Int32)), .val (.int k)] [(.double (FP.dmul (FP.l2d m1) pa))])) _
              refine XS.dload X26.here hx rfl (hb hby at_202) rfl ?_
              exact Steps.refl _
            obtain ⟨_, _, ⟨T40, L40, k40, n40⟩, -, X40, ⟨Lc40, hQ40, l40, y40, z40⟩, st40⟩ := Jvm.LawKit.callS X26 hx (y := (⟨"com/example/tight_reach/tightreach/RoundedProducts", "mayUnderflow", "(DD)Z"⟩ : MethodName)) hown (mvT hZ (hw _ (List.mem_of_getElem? (i := 12) rfl))) (mvT hZ (hw _ (List.mem_of_getElem? (i := 13) rfl))) (mvT hZ (hw _ (List.mem_of_getElem? (i := 14) rfl))) (mvT hZ (hw _ (List.mem_of_getElem? (i := 15) rfl))) (by decide) (backOf (W := 0) (rm34 l Z a0 hw [] (FP.dmul (FP.l2d m1) pa) (FP.dmul (FP.l2d m2) pb) h0 n0 Z0 hnn) hZ (hw _ (List.mem_of_getElem? (i := 15) rfl)) (hw _ (List.mem_of_getElem? (i := 14) rfl)) (by decide) (by decide)) (g := (mkF m 204 #[.val (.int i0), .val (.int i1), .val (.int i2), .val (.int i3), .val (.int i4), .val (.long m1), .second, .val (.long m2), .second, .val (.int s1), .val (.int s2), .val (.int kd), .val (.int (0 : Int32)), .val (.int (0 : Int32)), .val (.double (FP.dmul (FP.l2d m1) pa)), .second, .val (.double (FP.dmul (FP.l2d m2) pb)), .second, .val (.int (1 : Int32)), .val (.int k)] [(.double (FP.dmul (FP.l2d m2) pb)), (.double (FP.dmul (FP.l2d m1) pa))])) rfl (by rw [hml]; rfl) (argsL := [(.double (FP.dmul (FP.l2d m1) pa)), (.double (FP.dmul (FP.l2d m2) pb))]) (rest := []) (lenOf pd1 rfl) rfl (by show 2 * 0 + _ ≤ _; exact Nat.le_of_eq rfl) (hb hby at_204) (fun _ _ => ⟨rfl, eb, (by decide : 0 + 0 ≤ _), (by decide : 0 + 0 ≤ _)⟩)
            dsimp only [Pt.U, Pt.locs, Pt.cells, Pt.slots] at X40 l40 y40 z40 st40 hQ40
            subst l40 y40 z40
            obtain ⟨rfl, Nz, ez⟩ := hQ40
            have c40 : Steps p.tables e below S0 (T40.setTop (mkF m 207 #[.val (.int i0), .val (.int i1), .val (.int i2), .val (.int i3), .val (.int i4), .val (.long m1), .second, .val (.long m2), .second, .val (.int s1), .val (.int s2), .val (.int kd), .val (.int (0 : Int32)), .val (.int (0 : Int32)), .val (.double (FP.dmul (FP.l2d m1) pa)), .second, .val (.double (FP.dmul (FP.l2d m2) pb)), .second, .val (.int (1 : Int32)), .val (.int k)] [(.int (if (cmpValue (FP.dcmp (FP.dmul (FP.dmul (FP.l2d m1) pa) (FP.dmul (FP.l2d m2) pb)) (283726776524341248 : UInt64)) .g) < 0 then 1 else 0))])) := by
              refine c39.trans ?_
              show Steps p.tables e below (T26.setTop (mkF m 204 #[.val (.int i0), .val (.int i1), .val (.int i2), .val (.int i3), .val (.int i4), .val (.long m1), .second, .val (.long m2), .second, .val (.int s1), .val (.int s2), .val (.int kd), .val (.int (0 : Int32)), .val (.int (0 : Int32)), .val (.double (FP.dmul (FP.l2d m1) pa)), .second, .val (.double (FP.dmul (FP.l2d m2) pb)), .second, .val (.int (1 : Int32)), .val (.int k)] [(.double (FP.dmul (FP.l2d m2) pb)), (.double (FP.dmul (FP.l2d m1) pa))])) _
              refine st40 _ ?_
              exact Steps.refl _
            have hcm : (if (cmpValue (FP.dcmp (FP.dmul (FP.dmul (FP.l2d m1) pa) (FP.dmul (FP.l2d m2) pb)) (283726776524341248 : UInt64)) .g) < 0 then (1 : Int32) else 0) = (1 : Int32) := if_pos (own_low hva hvb hM1l hM1u hM2l hM2u hki hk63)
            rw [hcm] at c40
            have c41 : Steps p.tables e below S0 (T40.setTop (mkF m 217 #[.val (.int i0), .val (.int i1), .val (.int i2), .val (.int i3), .val (.int i4), .val (.long m1), .second, .val (.long m2), .second, .val (.int s1), .val (.int s2), .val (.int kd), .val (.int (0 : Int32)), .val (.int (0 : Int32)), .val (.double (FP.dmul (FP.l2d m1) pa)), .second, .val (.double (FP.dmul (FP.l2d m2) pb)), .second, .val (.int (1 : Int32)), .val (.int k)] [(.int (1 : Int32))])) := by
              refine c40.trans ?_
              show Steps p.tables e below (T40.setTop (mkF m 207 #[.val (.int i0), .val (.int i1), .val (.int i2), .val (.int i3), .val (.int i4), .val (.long m1), .second, .val (.long m2), .second, .val (.int s1), .val (.int s2), .val (.int kd), .val (.int (0 : Int32)), .val (.int (0 : Int32)), .val (.double (FP.dmul (FP.l2d m1) pa)), .second, .val (.double (FP.dmul (FP.l2d m2) pb)), .second, .val (.int (1 : Int32)), .val (.int k)] [(.int (1 : Int32))])) _
              refine XS.iload X40.here hx rfl (hb hby at_207) rfl ?_
              show Steps p.tables e below (T40.setTop (mkF m 209 #[.val (.int i0), .val (.int i1), .val (.int i2), .val (.int i3), .val (.int i4), .val (.long m1), .second, .val (.long m2), .second, .val (.int s1), .val (.int s2), .val (.int kd), .val (.int (0 : Int32)), .val (.int (0 : Int32)), .val (.double (FP.dmul (FP.l2d m1) pa)), .second, .val (.double (FP.dmul (FP.l2d m2) pb)), .second, .val (.int (1 : Int32)), .val (.int k)] [(.int (1 : Int32)), (.int (1 : Int32))])) _
              refine XS.icmpNo X40.here hx rfl (hb hby at_209) rfl (teq rfl).2 ?_
              show Steps p.tables e below (T40.setTop (mkF m 212 #[.val (.int i0), .val (.int i1), .val (.int i2), .val (.int i3), .val (.int i4), .val (.long m1), .second, .val (.long m2), .second, .val (.int s1), .val (.int s2), .val (.int kd), .val (.int (0 : Int32)), .val (.int (0 : Int32)), .val (.double (FP.dmul (FP.l2d m1) pa)), .second, .val (.double (FP.dmul (FP.l2d m2) pb)), .second, .val (.int (1 : Int32)), .val (.int k)] [])) _
              refine XS.iconst X40.here hx rfl (hb hby at_212) ?_
              show Steps p.tables e below (T40.setTop (mkF m 213 #[.val (.int i0), .val (.int i1), .val (.int i2), .val (.int i3), .val (.int i4), .val (.long m1), .second, .val (.long m2), .second, .val (.int s1), .val (.int s2), .val (.int kd), .val (.int (0 : Int32)), .val (.int (0 : Int32)), .val (.double (FP.dmul (FP.l2d m1) pa)), .second, .val (.double (FP.dmul (FP.l2d m2) pb)), .second, .val (.int (1 : Int32)), .val (.int k)] [(.int (1 : Int32))])) _
              refine XS.goto X40.here hx rfl (pc0 := 213) (pc' := 217) rfl (hb hby at_213) (by decide) (by decide) ?_
              exact Steps.refl _
            obtain ⟨fs, hr, hrun, hended, hW, hsame⟩ := X40.leave (v := some (.int 1)) (fun h => by rw [Bd.returns] at h; cases h)
            refine ⟨_, _, c41.trans ?_, hrun, hended, _, _, rfl, ?_, ⟨_, rfl⟩, hW, hsame.mono (by decide) (by decide)⟩
            · show Steps p.tables e below (T40.setTop (mkF m 217 #[.val (.int i0), .val (.int i1), .val (.int i2), .val (.int i3), .val (.int i4), .val (.long m1), .second, .val (.long m2), .second, .val (.int s1), .val (.int s2), .val (.int kd), .val (.int (0 : Int32)), .val (.int (0 : Int32)), .val (.double (FP.dmul (FP.l2d m1) pa)), .second, .val (.double (FP.dmul (FP.l2d m2) pb)), .second, .val (.int (1 : Int32)), .val (.int k)] [(.int (1 : Int32))])) _
              exact retN X40 hx (t := .boolean) Bd.returns (by simp) (hb hby at_217) hr
            · show Q0 Z i0 i1 i2 i3 i4 h0 n0 _ T40.heap _
              rw [ez]
              exact ⟨rfl, Fr.app Nfb Nz⟩
        · have c42 : Steps p.tables e below S0 (T26.setTop (mkF m 200 #[.val (.int i0), .val (.int i1), .val (.int i2), .val (.int i3), .val (.int i4), .val (.long m1), .second, .val (.long m2), .second, .val (.int s1), .val (.int s2), .val (.int kd), .val (.int (0 : Int32)), .val (.int (0 : Int32)), .val (.double (FP.dmul (FP.l2d m1) pa)), .second, .val (.double (FP.dmul (FP.l2d m2) pb)), .second, .val (.int (0 : Int32)), .val (.int k)] [])) := by
            refine c27.trans ?_
            show Steps p.tables e below (T26.setTop (mkF m 156 #[.val (.int i0), .val (.int i1), .val (.int i2), .val (.int i3), .val (.int i4), .val (.long m1), .second, .val (.long m2), .second, .val (.int s1), .val (.int s2), .val (.int kd), .val (.int (0 : Int32)), .val (.int (0 : Int32)), .val (.double (FP.dmul (FP.l2d m1) pa)), .second, .val (.double (FP.dmul (FP.l2d m2) pb)), .second, .unset, .val (.int k)] [])) _
            refine XS.iload X26.here hx rfl (hb hby at_156) rfl ?_
            show Steps p.tables e below (T26.setTop (mkF m 158 #[.val (.int i0), .val (.int i1), .val (.int i2), .val (.int i3), .val (.int i4), .val (.long m1), .second, .val (.long m2), .second, .val (.int s1), .val (.int s2), .val (.int kd), .val (.int (0 : Int32)), .val (.int (0 : Int32)), .val (.double (FP.dmul (FP.l2d m1) pa)), .second, .val (.double (FP.dmul (FP.l2d m2) pb)), .second, .unset, .val (.int k)] [(.int k)])) _
            refine XS.ifNo X26.here hx rfl (hb hby at_158) rfl ((if0 _ _).trans (flt hk0).2.2.1) ?_
            show Steps p.tables e below (T26.setTop (mkF m 161 #[.val (.int i0), .val (.int i1), .val (.int i2), .val (.int i3), .val (.int i4), .val (.long m1), .second, .val (.long m2), .second, .val (.int s1), .val (.int s2), .val (.int kd), .val (.int (0 : Int32)), .val (.int (0 : Int32)), .val (.double (FP.dmul (FP.l2d m1) pa)), .second, .val (.double (FP.dmul (FP.l2d m2) pb)), .second, .unset, .val (.int k)] [])) _
            refine XS.iconst X26.here hx rfl (hb hby at_161) ?_
            show Steps p.tables e below (T26.setTop (mkF m 162 #[.val (.int i0), .val (.int i1), .val (.int i2), .val (.int i3), .val (.int i4), .val (.long m1), .second, .val (.long m2), .second, .val (.int s1), .val (.int s2), .val (.int kd), .val (.int (0 : Int32)), .val (.int (0 : Int32)), .val (.double (FP.dmul (FP.l2d m1) pa)), .second, .val (.double (FP.dmul (FP.l2d m2) pb)), .second, .unset, .val (.int k)] [(.int (0 : Int32))])) _
            refine XS.istore X26.here hx rfl (hb hby at_162) rfl (l' := #[.val (.int i0), .val (.int i1), .val (.int i2), .val (.int i3), .val (.int i4), .val (.long m1), .second, .val (.long m2), .second, .val (.int s1), .val (.int s2), .val (.int kd), .val (.int (0 : Int32)), .val (.int (0 : Int32)), .val (.double (FP.dmul (FP.l2d m1) pa)), .second, .val (.double (FP.dmul (FP.l2d m2) pb)), .second, .val (.int (0 : Int32)), .val (.int k)]) rfl ?_
            show Steps p.tables e below (T26.setTop (mkF m 164 #[.val (.int i0), .val (.int i1), .val (.int i2), .val (.int i3), .val (.int i4), .val (.long m1), .second, .val (.long m2), .second, .val (.int s1), .val (.int s2), .val (.int kd), .val (.int (0 : Int32)), .val (.int (0 : Int32)), .val (.double (FP.dmul (FP.l2d m1) pa)), .second, .val (.double (FP.dmul (FP.l2d m2) pb)), .second, .val (.int (0 : Int32)), .val (.int k)] [])) _
            refine XS.goto X26.here hx rfl (pc0 := 164) (pc' := 200) rfl (hb hby at_164) (by decide) (by decide) ?_
            exact Steps.refl _
          have c43 : Steps p.tables e below S0 (T26.setTop (mkF m 204 #[.val (.int i0), .val (.int i1), .val (.int i2), .val (.int i3), .val (.int i4), .val (.long m1), .second, .val (.long m2), .second, .val (.int s1), .val (.int s2), .val (.int kd), .val (.int (0 : Int32)), .val (.int (0 : Int32)), .val (.double (FP.dmul (FP.l2d m1) pa)), .second, .val (.double (FP.dmul (FP.l2d m2) pb)), .second, .val (.int (0 : Int32)), .val (.int k)] [(.double (FP.dmul (FP.l2d m2) pb)), (.double (FP.dmul (FP.l2d m1) pa))])) := by
            refine c42.trans ?_
            show Steps p.tables e below (T26.setTop (mkF m 200 #[.val (.int i0), .val (.int i1), .val (.int i2), .val (.int i3), .val (.int i4), .val (.long m1), .second, .val (.long m2), .second, .val (.int s1), .val (.int s2), .val (.int kd), .val (.int (0 : Int32)), .val (.int (0 : Int32)), .val (.double (FP.dmul (FP.l2d m1) pa)), .second, .val (.double (FP.dmul (FP.l2d m2) pb)), .second, .val (.int (0 : Int32)), .val (.int k)] [])) _
            refine XS.dload X26.here hx rfl (hb hby at_200) rfl ?_
            show Steps p.tables e below (T26.setTop (mkF m 202 #[.val (.int i0), .val (.int i1), .val (.int i2), .val (.int i3), .val (.int i4), .val (.long m1), .second, .val (.long m2), .second, .val (.int s1), .val (.int s2), .val (.int kd), .val (.int (0 : Int32)), .val (.int (0 : Int32)), .val (.double (FP.dmul (FP.l2d m1) pa)), .second, .val (.double (FP.dmul (FP.l2d m2) pb)), .second, .val (.int (0 : Int32)), .val (.int k)] [(.double (FP.dmul (FP.l2d m1) pa))])) _
            refine XS.dload X26.here hx rfl (hb hby at_202) rfl ?_
            exact Steps.refl _
          obtain ⟨_, _, ⟨T44, L44, k44, n44⟩, -, X44, ⟨Lc44, hQ44, l44, y44, z44⟩, st44⟩ := Jvm.LawKit.callS X26 hx (y := (⟨"com/example/tight_reach/tightreach/RoundedProducts", "mayUnderflow", "(DD)Z"⟩ : MethodName)) hown (mvT hZ (hw _ (List.mem_of_getElem? (i := 12) rfl))) (mvT hZ (hw _ (List.mem_of_getElem? (i := 13) rfl))) (mvT hZ (hw _ (List.mem_of_getElem? (i := 14) rfl))) (mvT hZ (hw _ (List.mem_of_getElem? (i := 15) rfl))) (by decide) (backOf (W := 0) (rm34 l Z a0 hw [] (FP.dmul (FP.l2d m1) pa) (FP.dmul (FP.l2d m2) pb) h0 n0 Z0 hnn) hZ (hw _ (List.mem_of_getElem? (i := 15) rfl)) (hw _ (List.mem_of_getElem? (i := 14) rfl)) (by decide) (by decide)) (g := (mkF m 204 #[.val (.int i0), .val (.int i1), .val (.int i2), .val (.int i3), .val (.int i4), .val (.long m1), .second, .val (.long m2), .second, .val (.int s1), .val (.int s2), .val (.int kd), .val (.int (0 : Int32)), .val (.int (0 : Int32)), .val (.double (FP.dmul (FP.l2d m1) pa)), .second, .val (.double (FP.dmul (FP.l2d m2) pb)), .second, .val (.int (0 : Int32)), .val (.int k)] [(.double (FP.dmul (FP.l2d m2) pb)), (.double (FP.dmul (FP.l2d m1) pa))])) rfl (by rw [hml]; rfl) (argsL := [(.double (FP.dmul (FP.l2d m1) pa)), (.double (FP.dmul (FP.l2d m2) pb))]) (rest := []) (lenOf pd1 rfl) rfl (by show 2 * 0 + _ ≤ _; exact Nat.le_of_eq rfl) (hb hby at_204) (fun _ _ => ⟨rfl, eb, (by decide : 0 + 0 ≤ _), (by decide : 0 + 0 ≤ _)⟩)
          dsimp only [Pt.U, Pt.locs, Pt.cells, Pt.slots] at X44 l44 y44 z44 st44 hQ44
          subst l44 y44 z44
          obtain ⟨rfl, Nz, ez⟩ := hQ44
          have c44 : Steps p.tables e below S0 (T44.setTop (mkF m 207 #[.val (.int i0), .val (.int i1), .val (.int i2), .val (.int i3), .val (.int i4), .val (.long m1), .second, .val (.long m2), .second, .val (.int s1), .val (.int s2), .val (.int kd), .val (.int (0 : Int32)), .val (.int (0 : Int32)), .val (.double (FP.dmul (FP.l2d m1) pa)), .second, .val (.double (FP.dmul (FP.l2d m2) pb)), .second, .val (.int (0 : Int32)), .val (.int k)] [(.int (if (cmpValue (FP.dcmp (FP.dmul (FP.dmul (FP.l2d m1) pa) (FP.dmul (FP.l2d m2) pb)) (283726776524341248 : UInt64)) .g) < 0 then 1 else 0))])) := by
            refine c43.trans ?_
            show Steps p.tables e below (T26.setTop (mkF m 204 #[.val (.int i0), .val (.int i1), .val (.int i2), .val (.int i3), .val (.int i4), .val (.long m1), .second, .val (.long m2), .second, .val (.int s1), .val (.int s2), .val (.int kd), .val (.int (0 : Int32)), .val (.int (0 : Int32)), .val (.double (FP.dmul (FP.l2d m1) pa)), .second, .val (.double (FP.dmul (FP.l2d m2) pb)), .second, .val (.int (0 : Int32)), .val (.int k)] [(.double (FP.dmul (FP.l2d m2) pb)), (.double (FP.dmul (FP.l2d m1) pa))])) _
            refine st44 _ ?_
            exact Steps.refl _
          have hcm : (if (cmpValue (FP.dcmp (FP.dmul (FP.dmul (FP.l2d m1) pa) (FP.dmul (FP.l2d m2) pb)) (283726776524341248 : UInt64)) .g) < 0 then (1 : Int32) else 0) = (0 : Int32) := if_neg (own_high hva hvb hM1l hM2l hki hk0)
          rw [hcm] at c44
          have c45 : Steps p.tables e below S0 (T44.setTop (mkF m 217 #[.val (.int i0), .val (.int i1), .val (.int i2), .val (.int i3), .val (.int i4), .val (.long m1), .second, .val (.long m2), .second, .val (.int s1), .val (.int s2), .val (.int kd), .val (.int (0 : Int32)), .val (.int (0 : Int32)), .val (.double (FP.dmul (FP.l2d m1) pa)), .second, .val (.double (FP.dmul (FP.l2d m2) pb)), .second, .val (.int (0 : Int32)), .val (.int k)] [(.int (1 : Int32))])) := by
            refine c44.trans ?_
            show Steps p.tables e below (T44.setTop (mkF m 207 #[.val (.int i0), .val (.int i1), .val (.int i2), .val (.int i3), .val (.int i4), .val (.long m1), .second, .val (.long m2), .second, .val (.int s1), .val (.int s2), .val (.int kd), .val (.int (0 : Int32)), .val (.int (0 : Int32)), .val (.double (FP.dmul (FP.l2d m1) pa)), .second, .val (.double (FP.dmul (FP.l2d m2) pb)), .second, .val (.int (0 : Int32)), .val (.int k)] [(.int (0 : Int32))])) _
            refine XS.iload X44.here hx rfl (hb hby at_207) rfl ?_
            show Steps p.tables e below (T44.setTop (mkF m 209 #[.val (.int i0), .val (.int i1), .val (.int i2), .val (.int i3), .val (.int i4), .val (.long m1), .second, .val (.long m2), .second, .val (.int s1), .val (.int s2), .val (.int kd), .val (.int (0 : Int32)), .val (.int (0 : Int32)), .val (.double (FP.dmul (FP.l2d m1) pa)), .second, .val (.double (FP.dmul (FP.l2d m2) pb)), .second, .val (.int (0 : Int32)), .val (.int k)] [(.int (0 : Int32)), (.int (0 : Int32))])) _
            refine XS.icmpNo X44.here hx rfl (hb hby at_209) rfl (teq rfl).2 ?_
            show Steps p.tables e below (T44.setTop (mkF m 212 #[.val (.int i0), .val (.int i1), .val (.int i2), .val (.int i3), .val (.int i4), .val (.long m1), .second, .val (.long m2), .second, .val (.int s1), .val (.int s2), .val (.int kd), .val (.int (0 : Int32)), .val (.int (0 : Int32)), .val (.double (FP.dmul (FP.l2d m1) pa)), .second, .val (.double (FP.dmul (FP.l2d m2) pb)), .second, .val (.int (0 : Int32)), .val (.int k)] [])) _
            refine XS.iconst X44.here hx rfl (hb hby at_212) ?_
            show Steps p.tables e below (T44.setTop (mkF m 213 #[.val (.int i0), .val (.int i1), .val (.int i2), .val (.int i3), .val (.int i4), .val (.long m1), .second, .val (.long m2), .second, .val (.int s1), .val (.int s2), .val (.int kd), .val (.int (0 : Int32)), .val (.int (0 : Int32)), .val (.double (FP.dmul (FP.l2d m1) pa)), .second, .val (.double (FP.dmul (FP.l2d m2) pb)), .second, .val (.int (0 : Int32)), .val (.int k)] [(.int (1 : Int32))])) _
            refine XS.goto X44.here hx rfl (pc0 := 213) (pc' := 217) rfl (hb hby at_213) (by decide) (by decide) ?_
            exact Steps.refl _
          obtain ⟨fs, hr, hrun, hended, hW, hsame⟩ := X44.leave (v := some (.int 1)) (fun h => by rw [Bd.returns] at h; cases h)
          refine ⟨_, _, c45.trans ?_, hrun, hended, _, _, rfl, ?_, ⟨_, rfl⟩, hW, hsame.mono (by decide) (by decide)⟩
          · show Steps p.tables e below (T44.setTop (mkF m 217 #[.val (.int i0), .val (.int i1), .val (.int i2), .val (.int i3), .val (.int i4), .val (.long m1), .second, .val (.long m2), .second, .val (.int s1), .val (.int s2), .val (.int kd), .val (.int (0 : Int32)), .val (.int (0 : Int32)), .val (.double (FP.dmul (FP.l2d m1) pa)), .second, .val (.double (FP.dmul (FP.l2d m2) pb)), .second, .val (.int (0 : Int32)), .val (.int k)] [(.int (1 : Int32))])) _
            exact retN X44 hx (t := .boolean) Bd.returns (by simp) (hb hby at_217) hr
          · show Q0 Z i0 i1 i2 i3 i4 h0 n0 _ T44.heap _
            rw [ez]
            exact ⟨rfl, Fr.app Nfb Nz⟩
set_option maxRecDepth 65536 in
set_option maxHeartbeats 40000000 in
theorem comes_1 {Post : Tables → Env → Array Value → State → Outcome → State → Prop} (hpost : ∀ tb e args s v u, (limb_1_1.after args s (.returned v) u = true ∧ limb_1_2.after args s (.returned v) u = true ∧ True) → FrameEnd s (.returned v) u (Jvm.fieldLocs frame_1_writes args s ++ Jvm.arrayLocs frame_1_arrays args s ++ Jvm.staticLocs frame_1_statics s) 0 0 → Post tb e args s (.returned v) u) :
    ArmFor flags0 classFile x code maxLocals ret World_1 tables_1 room_1 Calls_1 rest_1 Pre_1 Post := by
  intro l hfl _ _ p e ha hc hk s m args below hf hA hF happ hP
  obtain ⟨hcalls, hrest, hpre⟩ := hP
  obtain ⟨-, -, -, hnamed, -, -, -, hat⟩ := (Spec.applies_iff hf).mp happ
  obtain ⟨hg, hn⟩ := and_e (Cond.before_iff.mp (show (Jvm.Cond.and given_1 narrow_1).before args s = true from hpre))
  obtain ⟨h1, g0⟩ := and_e hg
  obtain ⟨a0, g1⟩ := and_e g0
  obtain ⟨a1, g2⟩ := and_e g1
  obtain ⟨a2, g3⟩ := and_e g2
  obtain ⟨a3, g4⟩ := and_e g3
  have a4 := g4
  obtain ⟨w0, w1, w2, w3, w4, rfl⟩ : ∃ w0 w1 w2 w3 w4 : Value, args = #[w0, w1, w2, w3, w4] := by
    have hs : args.size = 5 := by simpa [Cond.value, given_1] using h1
    obtain ⟨L⟩ := args
    match L, hs with
    | [w0, w1, w2, w3, w4], _ => exact ⟨w0, w1, w2, w3, w4, rfl⟩
  have hw := fun d (hd : d ∈ tables_1) => atoms_spec (ws := Jvm.Cond.code x code maxLocals ret :: tables_1) hat d (List.mem_cons_of_mem _ hd)
  have hfit : Fit s := fun {y c} hc i hi => by
    obtain ⟨ha, rfl⟩ := Array.getElem?_eq_some_iff.mp hc
    have q := List.all_eq_true.mp ((Array.all_eq_true_iff_forall_mem.mp hF) _ (Array.getElem_mem ha)) i (List.mem_range.mpr hi)
    simpa [Array.getElem?_eq_getElem hi] using q
  obtain ⟨i0, e0⟩ := is_v a0
  obtain rfl : w0 = (.int i0) := Option.some.inj e0
  obtain ⟨i1, e1⟩ := is_v a1
  obtain rfl : w1 = (.int i1) := Option.some.inj e1
  obtain ⟨i2, e2⟩ := is_v a2
  obtain rfl : w2 = (.int i2) := Option.some.inj e2
  obtain ⟨i3, e3⟩ := is_v a3
  obtain rfl : w3 = (.int i3) := Option.some.inj e3
  obtain ⟨i4, e4⟩ := is_v a4
  obtain rfl : w4 = (.int i4) := Option.some.inj e4
  obtain ⟨n, o, h1, h2, h3, _, L, rfl, ⟨rfl, N⟩, hq⟩ := rm0 l s _ hw tables_1 i0 i1 i2 i3 i4 s.heap s.heap.size (Nat.le_refl _) p e ha hc hk s m _ below hf ((Spec.applies_iff_loose hf).mp happ).1 ⟨rfl, State.Warmed39.refl s, rfl⟩ trivial
  refine ⟨n, _, h1, h2, h3, hpost _ _ _ _ _ _ ⟨Cond.after_iff.mpr rfl, Cond.after_iff.mpr (eq_i res_at (Term.int_eval (1)) rfl), trivial⟩ ⟨hq.1, hq.2.1, (hq.2.2.sift fun y hy => Or.inr (N y hy)).mono (by decide) (by decide)⟩⟩
theorem main_1_1 : Claimed_1_1 := comes_1 fun _ _ _ _ _ _ h hF => ⟨h.1, hF⟩
theorem main_1_2 : Claimed_1_2 := comes_1 fun _ _ _ _ _ _ h hF => ⟨h.2.1, hF⟩
end Jvm.Pilot.@@N@@
namespace Jvm.Pilot.@@N@@
open Jvm Jvm.ClassFile Sem Op Lib Jvm.Free Jvm.Stand Jvm.Pilot.@@N@@.Jvm.D
/-! MADE BY PROGRAM (witnessworld.py) out of the Statement's table words and the real class files: 9 classes; the members and pool entries that the words name. The judged class is class 1, her method 1. -/
namespace start1
open Jvm.ClassFile
def u (s : String) : CpInfo := .utf8 (stringToUtf16 s)
/-- a pool by its gaps: so many unusable entries, then the entry; so many at the end -/
def gap : Nat → List CpInfo → List CpInfo
  | 0, r => r
  | n + 1, r => .unusable :: gap n r
def poolList (es : List (Nat × CpInfo)) (last : Nat) : List CpInfo := es.foldr (fun e r => gap e.1 (e.2 :: r)) (gap last [])
def pool (es : List (Nat × CpInfo)) (last : Nat) : Array CpInfo := ⟨poolList es last⟩
def fileOf (pool : Array CpInfo) (this : Nat) (attrs : Array Attribute := #[]) (ms : Array MethodInfo := #[]) (fl : Nat := 33) (sup : Nat := 0) (ifs : Array Nat := #[]) (fds : Array FieldInfo := #[]) : ClassFile where
  minorVersion := 0
  majorVersion := 65
  constantPool := pool
  accessFlags := fl
  thisClass := this
  superClass := sup
  interfaces := ifs
  fields := fds
  methods := ms
  attributes := attrs
def plain (name : String) (sup : Option ClassId) : Class where
  name := name
  kind := .ordinary
  loader := none
  accessFlags := 33
  super := sup
  interfaces := #[]
  cf := none
  fields := #[]
  methods := #[]
  instanceTypes := #[]
  staticTypes := #[]
  resolved := #[]
  callSites := []
  init := .initialized
  statics := none
  mirror := none

def pool0 : Array CpInfo := pool [(5, u "<init>"), (0, u "()V"), (1, .class_ 10), (1, u "java/lang/Object")] 113

def k0m0 : Method := { name := "<init>", desc := "()V", sig := { parameters := [], returnType := none }, accessFlags := 1, code := none }
/-- java/lang/Object -/
def k0 : Class := { plain "java/lang/Object" none with
  accessFlags := 33
  interfaces := #[]
  cf := some (fileOf pool0 8 #[] #[{ accessFlags := 1, nameIndex := 5, descriptorIndex := 6, attributes := #[] }] 33 0 #[] #[])
  fields := #[]
  methods := #[k0m0]
  instanceTypes := #[]
  staticTypes := #[]
  resolved := Array.replicate 124 none
  statics := none }

def pool1 : Array CpInfo := pool [(2, .class_ 4), (1, u "java/lang/Object"), (0, u "<init>"), (0, u "()V"), (0, .integer 1048575), (2, .double 9218868437227405312), (1, .methodref 13 14), (0, .class_ 15), (0, .nameAndType 16 17), (0, u "com/example/tight_reach/tightreach/RoundedProductsMayUnderflowPinLaw"), (0, u "pow2"), (0, u "(I)D"), (0, .methodref 19 20), (0, .class_ 21), (0, .nameAndType 22 23), (0, u "com/example/tight_reach/tightreach/RoundedProducts"), (0, u "mayUnderflow"), (0, u "(DD)Z"), (0, .double 4611686018427387904), (1, .double 4616189618054758400), (1, .double 4625196817309499392), (1, .double 4643211215818981376), (1, .double 4679240012837945344), (1, .double 4751297606875873280), (1, .double 4895412794951729152), (1, .double 5183643171103440896), (1, .double 5760103923406864384), (1, .double 6913025428013711360), (1, .double 4602678819172646912), (1, .double 4598175219545276416), (1, .double 4589168020290535424), (1, .double 4571153621781053440), (1, .double 4535124824762089472), (1, .double 4463067230724161536), (1, .double 4318952042648305664), (1, .double 4030721666496593920), (1, .double 3454260914193170432), (1, .double 2301339409586323456), (1, .double 1125899906842624), (3, u "law"), (0, u "(IIIII)Z")] 3

def k1m0 : Method := { name := "<init>", desc := "()V", sig := { parameters := [], returnType := none }, accessFlags := 1, code := none }
def k1c1 : Code := { maxStack := 5, maxLocals := 20, code := code, exceptionTable := #[], attributes := #[] }
def k1m1 : Method := { name := "law", desc := "(IIIII)Z", sig := { parameters := [.int, .int, .int, .int, .int], returnType := some .boolean }, accessFlags := 9, code := some k1c1 }
def k1c2 : Code := { maxStack := 4, maxLocals := 4, code := method_3_code, exceptionTable := #[], attributes := #[] }
def k1m2 : Method := { name := "pow2", desc := "(I)D", sig := { parameters := [.int], returnType := some .double }, accessFlags := 10, code := some k1c2 }
/-- com/example/tight_reach/tightreach/RoundedProductsMayUnderflowPinLaw -/
def k1 : Class := { plain "com/example/tight_reach/tightreach/RoundedProductsMayUnderflowPinLaw" (some 0) with
  accessFlags := 49
  interfaces := #[]
  cf := some (fileOf pool1 13 #[] #[{ accessFlags := 1, nameIndex := 5, descriptorIndex := 6, attributes := #[] }, { accessFlags := 9, nameIndex := 68, descriptorIndex := 69, attributes := #[] }, { accessFlags := 10, nameIndex := 16, descriptorIndex := 17, attributes := #[] }] 49 2 #[] #[])
  fields := #[]
  methods := #[k1m0, k1m1, k1m2]
  instanceTypes := #[]
  staticTypes := #[]
  resolved := Array.replicate 73 none
  statics := none }

def pool2 : Array CpInfo := pool [(2, .class_ 4), (1, u "java/lang/Object"), (0, u "<init>"), (0, u "()V"), (26, .class_ 35), (1, u "com/example/tight_reach/tightreach/RoundedProducts"), (49, .double 283726776524341248), (17, u "mayUnderflow"), (0, u "(DD)Z")] 2

def k2m0 : Method := { name := "<init>", desc := "()V", sig := { parameters := [], returnType := none }, accessFlags := 2, code := none }
def k2c1 : Code := { maxStack := 4, maxLocals := 4, code := prog_34_method_10_code, exceptionTable := #[], attributes := #[] }
def k2m1 : Method := { name := "mayUnderflow", desc := "(DD)Z", sig := { parameters := [.double, .double], returnType := some .boolean }, accessFlags := 8, code := some k2c1 }
/-- com/example/tight_reach/tightreach/RoundedProducts -/
def k2 : Class := { plain "com/example/tight_reach/tightreach/RoundedProducts" (some 0) with
  accessFlags := 48
  interfaces := #[]
  cf := some (fileOf pool2 33 #[] #[{ accessFlags := 2, nameIndex := 5, descriptorIndex := 6, attributes := #[] }, { accessFlags := 8, nameIndex := 103, descriptorIndex := 104, attributes := #[] }] 48 2 #[] #[])
  fields := #[]
  methods := #[k2m0, k2m1]
  instanceTypes := #[]
  staticTypes := #[]
  resolved := Array.replicate 107 none
  statics := none }

def pool3 : Array CpInfo := pool [(1, u "java/lang/Cloneable"), (0, .class_ 1), (0, u "java/lang/Object"), (0, .class_ 3)] 3

/-- java/lang/Cloneable -/
def k3 : Class := { plain "java/lang/Cloneable" (some 0) with
  accessFlags := 1537
  interfaces := #[]
  cf := some (fileOf pool3 2 #[] #[] 1537 4 #[] #[])
  fields := #[]
  methods := #[]
  instanceTypes := #[]
  staticTypes := #[]
  resolved := Array.replicate 8 none
  statics := none }

def pool4 : Array CpInfo := pool [(1, u "java/io/Serializable"), (0, .class_ 1), (0, u "java/lang/Object"), (0, .class_ 3)] 3

/-- java/io/Serializable -/
def k4 : Class := { plain "java/io/Serializable" (some 0) with
  accessFlags := 1537
  interfaces := #[]
  cf := some (fileOf pool4 2 #[] #[] 1537 4 #[] #[])
  fields := #[]
  methods := #[]
  instanceTypes := #[]
  staticTypes := #[]
  resolved := Array.replicate 8 none
  statics := none }

/-- the primitive byte -/
def k5 : Class := { plain "byte" none with kind := .primitive 'B', accessFlags := 0x411 }
/-- [B -/
def k6 : Class := { plain "[B" (some 0) with kind := .array 5 .byte, interfaces := #[3, 4], accessFlags := 1041 }

/-- the primitive int -/
def k7 : Class := { plain "int" none with kind := .primitive 'I', accessFlags := 0x411 }
/-- [I -/
def k8 : Class := { plain "[I" (some 0) with kind := .array 7 .int, interfaces := #[3, 4], accessFlags := 1041 }

def heap : Heap := #[]
def classes : Array Class := #[k0, k1, k2, k3, k4, k5, k6, k7, k8]
def interned : List (Array UInt16 × Addr) := []
def slotsUsed : Nat := 0
def theMethod : MethodId := ⟨1, 1⟩
def args0 : Array Value := #[.int 5, .int 6, .int 3, .int 0, .int 0]
def aboutOver (below : List Frame) : State where
  vm := { classes := classes, interned := interned.toArray }
  heap := heap
  slotsUsed := slotsUsed
  threads := #[{ frames := .invoking theMethod args0 :: below }]
def below0 : List Frame := [.native { method := ⟨0, 0⟩, args := #[] }]
def about1 : State := aboutOver below0
def p0 : Program := .bare "" "" ""
def e0 : Env := launch0.env 0 0 0
theorem w_frames : about1.frames = Frame.invoking theMethod args0 :: below0 := rfl
set_option maxRecDepth 65536 in
theorem w_args : argsFit about1.vm theMethod args0 = true := by decide +kernel
set_option maxRecDepth 65536 in
theorem w_heap : heapFits about1 = true := by decide +kernel
set_option maxRecDepth 65536 in
theorem w_runnable : about1.curStatus? = some .runnable := by decide +kernel
set_option maxRecDepth 65536 in
theorem w_alone : about1.alone = true := by decide +kernel
set_option maxRecDepth 65536 in
theorem w_named : about1.methodNamed? x = some theMethod := by decide +kernel
set_option maxRecDepth 65536 in
theorem w_hears : about1.hears theMethod below0 = true := by decide +kernel
set_option maxRecDepth 65536 in
theorem w_ripe : about1.ripe theMethod args0 below0 = true := by decide +kernel
theorem w_running : about1.status = .running := rfl
set_option maxRecDepth 65536 in
theorem w_room : about1.hasRoom e0.platform room_1 = true :=
  launch0.hasRoom_least _ room_1 (by decide +kernel) (by decide +kernel) (by decide +kernel) (by decide +kernel) (by decide +kernel) (by decide +kernel)
theorem allAtoms_all (ts : List Jvm.Cond) (a : Array Jvm.Value) (st : Jvm.State) : (allAtoms ts).before a st = ts.all (fun c => c.before a st) := by
  induction ts with
  | nil => rfl
  | cons c t ih =>
    show (Jvm.Cond.and c (allAtoms t)).before a st = _
    rw [Jvm.Cond.before_and, ih, List.all_cons]
def words1 : List Jvm.Cond := Jvm.Cond.code x code maxLocals ret :: tables_1
/-- a 'code' word, met by the world's own term for the bytes: nothing is compared byte by byte -/
theorem code_word {y : MethodName} {bytes : ByteArray} {mx : Nat} {rt : Option FieldType} {a : Array Value} {s : State} {m : MethodId} {meth : Method} {c : Code} (h1 : s.methodNamed? y = some m) (h2 : s.vm.method? m = some meth) (h3 : meth.code = some c) (h4 : c.code = bytes)
    (h5 : (c.maxLocals == mx && c.exceptionTable.isEmpty && decide (c.maxStack ≤ mostOperands) && decide (meth.sig.returnType = rt) && !meth.locks && decide (parseMethodDescriptor y.desc = some meth.sig)) = true) : (Jvm.Cond.code y bytes mx rt).before a s = true := by
  simp only [Bool.and_eq_true, beq_iff_eq, Bool.not_eq_true', decide_eq_true_eq] at h5
  obtain ⟨⟨⟨⟨⟨g1, g2⟩, g3⟩, g4⟩, g5⟩, g6⟩ := h5
  simp [Cond.before, Cond.holds, Cond.value, h1, h2, h3, h4, g1, g2, g3, g4, g5, g6]
def isCode : Jvm.Cond → Bool
  | .code _ _ _ _ => true
  | _ => false
theorem all_split {L : List Jvm.Cond} {P : Jvm.Cond → Bool} (h1 : L.all (fun c => isCode c || P c) = true) (h2 : ∀ c ∈ L.filter isCode, P c = true) : L.all P = true := by
  refine List.all_eq_true.mpr fun c hc => ?_
  have h := List.all_eq_true.mp h1 c hc
  rcases Bool.eq_false_or_eq_true (isCode c) with hi | hi
  · exact h2 c (List.mem_filter.mpr ⟨hc, hi⟩)
  · simpa [hi] using h
set_option maxRecDepth 65536 in
theorem w_c0 : (Jvm.Cond.code x code maxLocals ret).before args0 about1 = true := code_word (m := ⟨1, 1⟩) (meth := k1m1) (c := k1c1) (by decide +kernel) rfl rfl rfl (by decide +kernel)
set_option maxRecDepth 65536 in
theorem w_c1 : (Jvm.Cond.code ({ cls := "com/example/tight_reach/tightreach/RoundedProductsMayUnderflowPinLaw", name := "pow2", desc := "(I)D" } : Jvm.MethodName) method_3_code (4 : Nat) (Option.some Jvm.ClassFile.FieldType.double)).before args0 about1 = true := code_word (m := ⟨1, 2⟩) (meth := k1m2) (c := k1c2) (by decide +kernel) rfl rfl rfl (by decide +kernel)
set_option maxRecDepth 65536 in
theorem w_c2 : (Jvm.Cond.code ({ cls := "com/example/tight_reach/tightreach/RoundedProducts", name := "mayUnderflow", desc := "(DD)Z" } : Jvm.MethodName) prog_34_method_10_code (4 : Nat) (Option.some Jvm.ClassFile.FieldType.boolean)).before args0 about1 = true := code_word (m := ⟨2, 1⟩) (meth := k2m1) (c := k2c1) (by decide +kernel) rfl rfl rfl (by decide +kernel)
def codes1 : List Jvm.Cond := [Jvm.Cond.code x code maxLocals ret, Jvm.Cond.code ({ cls := "com/example/tight_reach/tightreach/RoundedProductsMayUnderflowPinLaw", name := "pow2", desc := "(I)D" } : Jvm.MethodName) method_3_code (4 : Nat) (Option.some Jvm.ClassFile.FieldType.double), Jvm.Cond.code ({ cls := "com/example/tight_reach/tightreach/RoundedProducts", name := "mayUnderflow", desc := "(DD)Z" } : Jvm.MethodName) prog_34_method_10_code (4 : Nat) (Option.some Jvm.ClassFile.FieldType.boolean)]
set_option maxRecDepth 65536 in
theorem codes_eq : words1.filter isCode = codes1 := rfl
theorem w_codes : ∀ c ∈ words1.filter isCode, c.before args0 about1 = true := by
  rw [codes_eq]
  intro c hc
  simp only [codes1, List.mem_cons, List.not_mem_nil, or_false] at hc
  rcases hc with rfl | rfl | rfl
  · exact w_c0
  · exact w_c1
  · exact w_c2
set_option maxRecDepth 65536 in
theorem w_t1 : (words1.take 24).all (fun c => isCode c || c.before args0 about1) = true := by decide +kernel
set_option maxRecDepth 65536 in
theorem w_t2 : (words1.drop 24).all (fun c => isCode c || c.before args0 about1) = true := by decide +kernel
theorem w_tables : (allAtoms (Jvm.Cond.code x code maxLocals ret :: tables_1)).before args0 about1 = true := by
  rw [allAtoms_all]
  show words1.all (fun c => c.before args0 about1) = true
  refine all_split ?_ w_codes
  rw [← List.take_append_drop 24 words1, List.all_append, w_t1, w_t2]
  rfl
set_option maxRecDepth 65536 in
theorem w_case : (Jvm.Cond.and given_1 narrow_1).before args0 about1 = true := by decide +kernel
theorem w_applies : (headSpec (Jvm.Cond.code x code maxLocals ret :: tables_1) room_1).applies x e0.platform about1 = true :=
  (Spec.applies_iff w_frames).mpr ⟨w_running, w_runnable, w_alone, w_named, w_hears, w_ripe, w_room, w_tables⟩
theorem atStart : AtStart classFile x code maxLocals ret World_1 tables_1 room_1 Calls_1 rest_1 Pre_1 launch0 p0 e0 about1 theMethod args0 below0 :=
  ⟨lists_1, trivial, launch0.admits_env _ _ _, launch0.least_env, fairChoices_fair.cas, fairChoices_fair.clock, w_frames, w_args, w_heap, w_applies, trivial, trivial, w_case⟩
end start1
theorem witness_1 : WitnessClaimed_1 := ⟨start1.p0, start1.e0, start1.about1, start1.theMethod, start1.args0, start1.below0, start1.atStart⟩
end Jvm.Pilot.@@N@@
