import JvmDerived
import JvmDerived.Pilot.@@N@@Statement
import JvmDerived.Pilot.@@N@@Code
set_option linter.unusedVariables false
set_option linter.unusedSimpArgs false
@@BLOCK:NumsL.lean.txt@@
namespace Jvm.RoadKit
open Sem ClassFile Op Lib Jvm.Stand Jvm.Free Jvm.LawKit
section New
variable {p : Program} {l : Launch} {e : Env} {R : Room} {s : State} {m : MethodId} {args : Array Value} {below : List Frame} {meth : Method} {c : Code} {T : State} {locs : List Loc} {cells slots : Nat}
theorem retI (X : Stand p l e R s m args below meth c T locs cells slots) (hx : p.tables.exec = Jvm.exec) {pc : Nat} {Ls : Array Slot} {z : Int32} {rest : List Value} (hret : meth.sig.returnType = some .int) (hd : decode c.code pc = .ok (.ireturn, 1)) {fs : List Frame}
    (hl : ∀ (f : JFrame) (acts : List Action), f.method = m → f.locked = none → f.entered = [] → (doReturn e (T.setTop f) acts (some (.int z))).1 = T.setFrames fs) : Steps p.tables e below (T.setTop (mkF m pc Ls (.int z :: rest))) (T.setFrames fs) := by
  have hm' : T.vm.method? m = some meth := X.method'
  have hn : narrow .int (.int z) = .int z := rfl
  show Steps p.tables e below (T.setTop { method := m, pc := pc, locals := Ls, stack := _ :: rest, locked := none }) _
  jvm_step X.here [X.here.top, hx, hd, hm', hret, hn]
  first | (intro acts; rw [hl _ acts rfl rfl rfl]) | rw [hl _ _ rfl rfl rfl]
  exact Steps.refl _
theorem retD (X : Stand p l e R s m args below meth c T locs cells slots) (hx : p.tables.exec = Jvm.exec) {pc : Nat} {Ls : Array Slot} {z : UInt64} {rest : List Value} (hret : meth.sig.returnType = some .double) (hd : decode c.code pc = .ok (.dreturn, 1)) {fs : List Frame}
    (hl : ∀ (f : JFrame) (acts : List Action), f.method = m → f.locked = none → f.entered = [] → (doReturn e (T.setTop f) acts (some (.double z))).1 = T.setFrames fs) : Steps p.tables e below (T.setTop (mkF m pc Ls (.double z :: rest))) (T.setFrames fs) := by
  have hm' : T.vm.method? m = some meth := X.method'
  show Steps p.tables e below (T.setTop { method := m, pc := pc, locals := Ls, stack := _ :: rest, locked := none }) _
  jvm_step X.here [X.here.top, hx, hd, hm', hret, narrow]
  first | (intro acts; rw [hl _ acts rfl rfl rfl]) | (refine ⟨meth, hm', ⟨_, hret, rfl⟩, fun acts => ?_⟩; rw [hl _ acts rfl rfl rfl])
  exact Steps.refl _
theorem retA (X : Stand p l e R s m args below meth c T locs cells slots) (hx : p.tables.exec = Jvm.exec) {pc : Nat} {Ls : Array Slot} {v : Value} {rest : List Value} {t : FieldType} (hret : meth.sig.returnType = some t) (ht : t.isReference = true) (hv : v.isRef = true) (hd : decode c.code pc = .ok (.areturn, 1)) {fs : List Frame}
    (hl : ∀ (f : JFrame) (acts : List Action), f.method = m → f.locked = none → f.entered = [] → (doReturn e (T.setTop f) acts (some v)).1 = T.setFrames fs) : Steps p.tables e below (T.setTop (mkF m pc Ls (v :: rest))) (T.setFrames fs) := by
  have hm' : T.vm.method? m = some meth := X.method'
  show Steps p.tables e below (T.setTop { method := m, pc := pc, locals := Ls, stack := _ :: rest, locked := none }) _
  jvm_step X.here [X.here.top, hx, hd, hm', hret, hv, ht]
  first | (intro acts; rw [hl _ acts rfl rfl rfl]) | (refine ⟨meth, hm', ⟨_, hret, rfl⟩, fun acts => ?_⟩; rw [hl _ acts rfl rfl rfl])
  exact Steps.refl _
theorem own_ref {v : Value} (h : v.isRef = true) : v = .null ∨ ∃ b, v = .ref b := by
  cases v <;> simp [Value.isRef] at h <;> simp
theorem own_narrow {v : Value} {C : String} (h : v.isRef = true) : narrow (.object C) v = v := by
  rcases own_ref h with rfl | ⟨b, rfl⟩ <;> rfl
theorem own_fits {v : Value} {C : String} (h : v.isRef = true) : fits (.object C) v = true := by
  rcases own_ref h with rfl | ⟨b, rfl⟩ <;> rfl
end New
end Jvm.RoadKit
namespace Jvm.Pilot.@@N@@
open Jvm Jvm.ClassFile Sem Op Lib Jvm.Free Jvm.Stand Jvm.LawKit Jvm.RoadKit Bundle Jvm.Pilot.@@N@@.Jvm.D
theorem d3_0 : decode method_3_code 0 = .ok (.iload_n 0, 1) := by decide +kernel
theorem d3_1 : decode method_3_code 1 = .ok (.ifCond .ne 13, 3) := by decide +kernel
theorem d3_4 : decode method_3_code 4 = .ok (.iload_n 1, 1) := by decide +kernel
theorem d3_5 : decode method_3_code 5 = .ok (.iconst 1, 1) := by decide +kernel
theorem d3_6 : decode method_3_code 6 = .ok (.iand, 1) := by decide +kernel
theorem d3_7 : decode method_3_code 7 = .ok (.ifCond .eq 7, 3) := by decide +kernel
theorem d3_10 : decode method_3_code 10 = .ok (.ldc2_w 25, 3) := by decide +kernel
theorem d3_13 : decode method_3_code 13 = .ok (.dreturn, 1) := by decide +kernel
theorem d3_14 : decode method_3_code 14 = .ok (.iload_n 0, 1) := by decide +kernel
theorem d3_15 : decode method_3_code 15 = .ok (.i2d, 1) := by decide +kernel
theorem d3_16 : decode method_3_code 16 = .ok (.dreturn, 1) := by decide +kernel
theorem d30_0 : decode prog_30_method_4_code 0 = .ok (.iload_n 1, 1) := by decide +kernel
theorem d30_1 : decode prog_30_method_4_code 1 = .ok (.iconst 1, 1) := by decide +kernel
theorem d30_2 : decode prog_30_method_4_code 2 = .ok (.iadd, 1) := by decide +kernel
theorem d30_3 : decode prog_30_method_4_code 3 = .ok (.istore_n 3, 1) := by decide +kernel
theorem d30_4 : decode prog_30_method_4_code 4 = .ok (.iload_n 3, 1) := by decide +kernel
theorem d30_5 : decode prog_30_method_4_code 5 = .ok (.iload_n 2, 1) := by decide +kernel
theorem d30_6 : decode prog_30_method_4_code 6 = .ok (.if_icmp .ge 19, 3) := by decide +kernel
theorem d30_9 : decode prog_30_method_4_code 9 = .ok (.aload_n 0, 1) := by decide +kernel
theorem d30_10 : decode prog_30_method_4_code 10 = .ok (.iload_n 3, 1) := by decide +kernel
theorem d30_11 : decode prog_30_method_4_code 11 = .ok (.daload, 1) := by decide +kernel
theorem d30_12 : decode prog_30_method_4_code 12 = .ok (.aload_n 0, 1) := by decide +kernel
theorem d30_13 : decode prog_30_method_4_code 13 = .ok (.iload_n 1, 1) := by decide +kernel
theorem d30_14 : decode prog_30_method_4_code 14 = .ok (.daload, 1) := by decide +kernel
theorem d30_15 : decode prog_30_method_4_code 15 = .ok (.dcmp .l, 1) := by decide +kernel
theorem d30_16 : decode prog_30_method_4_code 16 = .ok (.ifCond .ne 9, 3) := by decide +kernel
theorem d30_19 : decode prog_30_method_4_code 19 = .ok (.iinc 3 1, 3) := by decide +kernel
theorem d30_22 : decode prog_30_method_4_code 22 = .ok (.goto (-18), 3) := by decide +kernel
theorem d30_25 : decode prog_30_method_4_code 25 = .ok (.iload_n 3, 1) := by decide +kernel
theorem d30_26 : decode prog_30_method_4_code 26 = .ok (.ireturn, 1) := by decide +kernel
theorem d196_0 : decode prog_19_method_6_code 0 = .ok (.aload_n 0, 1) := by decide +kernel
theorem d196_1 : decode prog_19_method_6_code 1 = .ok (.getfield 26, 3) := by decide +kernel
theorem d196_4 : decode prog_19_method_6_code 4 = .ok (.iload_n 1, 1) := by decide +kernel
theorem d196_5 : decode prog_19_method_6_code 5 = .ok (.aload_n 0, 1) := by decide +kernel
theorem d196_6 : decode prog_19_method_6_code 6 = .ok (.getfield 26, 3) := by decide +kernel
theorem d196_9 : decode prog_19_method_6_code 9 = .ok (.arraylength, 1) := by decide +kernel
theorem d196_10 : decode prog_19_method_6_code 10 = .ok (.invokestatic 30, 3) := by decide +kernel
theorem d196_13 : decode prog_19_method_6_code 13 = .ok (.ireturn, 1) := by decide +kernel
theorem d19_0 : decode prog_19_method_1_code 0 = .ok (.aload_n 0, 1) := by decide +kernel
theorem d19_1 : decode prog_19_method_1_code 1 = .ok (.invokespecial 1, 3) := by decide +kernel
theorem d19_4 : decode prog_19_method_1_code 4 = .ok (.aload_n 2, 1) := by decide +kernel
theorem d19_5 : decode prog_19_method_1_code 5 = .ok (.arraylength, 1) := by decide +kernel
theorem d19_6 : decode prog_19_method_1_code 6 = .ok (.aload_n 3, 1) := by decide +kernel
theorem d19_7 : decode prog_19_method_1_code 7 = .ok (.arraylength, 1) := by decide +kernel
theorem d19_8 : decode prog_19_method_1_code 8 = .ok (.if_icmp .eq 20, 3) := by decide +kernel
theorem d19_28 : decode prog_19_method_1_code 28 = .ok (.aload_n 0, 1) := by decide +kernel
theorem d19_29 : decode prog_19_method_1_code 29 = .ok (.aload_n 1, 1) := by decide +kernel
theorem d19_30 : decode prog_19_method_1_code 30 = .ok (.putfield 16, 3) := by decide +kernel
theorem d19_33 : decode prog_19_method_1_code 33 = .ok (.aload_n 0, 1) := by decide +kernel
theorem d19_34 : decode prog_19_method_1_code 34 = .ok (.aload_n 2, 1) := by decide +kernel
theorem d19_35 : decode prog_19_method_1_code 35 = .ok (.putfield 22, 3) := by decide +kernel
theorem d19_38 : decode prog_19_method_1_code 38 = .ok (.aload_n 0, 1) := by decide +kernel
theorem d19_39 : decode prog_19_method_1_code 39 = .ok (.aload_n 3, 1) := by decide +kernel
theorem d19_40 : decode prog_19_method_1_code 40 = .ok (.putfield 26, 3) := by decide +kernel
theorem d19_43 : decode prog_19_method_1_code 43 = .ok (.return_, 1) := by decide +kernel
theorem pn0 : plainName "com/example/canvass/canvass/core/RankingEndOfTiePinLaw" = true := by first | (simp [plainName, overriddenIn]; done) | decide +kernel
theorem pn1 : plainName "com/example/canvass/canvass/core/ScoreOrder" = true := by first | (simp [plainName, overriddenIn]; done) | decide +kernel
theorem pn2 : plainName "com/example/canvass/canvass/core/Ranking" = true := by first | (simp [plainName, overriddenIn]; done) | decide +kernel
theorem pd0 : parseMethodDescriptor "([DII)I" = some ⟨[(.array .double), .int, .int], some .int⟩ := by decide +kernel
theorem pd1 : parseMethodDescriptor "(II)D" = some ⟨[.int, .int], some .double⟩ := by decide +kernel
theorem pd2 : parseMethodDescriptor "(Ljava/lang/String;[I[D)V" = some ⟨[(.object "java/lang/String"), (.array .int), (.array .double)], none⟩ := by decide +kernel
theorem pd3 : parseMethodDescriptor "(I)I" = some ⟨[.int], some .int⟩ := by decide +kernel
theorem own_wS {a0 : Array Value} {Z : State} (hw : ∀ d ∈ tables_1, d.before a0 Z = true) : ∀ d ∈ Bundle.stringAtoms, d.before a0 Z = true := by
  intro d hd
  simp only [Bundle.stringAtoms, List.mem_cons, List.not_mem_nil, or_false] at hd
  rcases hd with rfl | rfl | rfl | rfl | rfl | rfl | rfl
  · exact hw _ (List.mem_of_getElem? (i := 11) rfl)
  · exact hw _ (List.mem_of_getElem? (i := 12) rfl)
  · exact hw _ (List.mem_of_getElem? (i := 13) rfl)
  · exact hw _ (List.mem_of_getElem? (i := 14) rfl)
  · exact hw _ (List.mem_of_getElem? (i := 15) rfl)
  · exact hw _ (List.mem_of_getElem? (i := 16) rfl)
  · exact hw _ (List.mem_of_getElem? (i := 17) rfl)
theorem own_wsz {h h' : Heap} {a : Addr} {j : Nat} {v : Value} (W : Wr h h' a j v) : h'.size = h.size := by
  obtain ⟨c, -, -, -, rfl⟩ := W; simp
theorem own_nz : Jvm.FP.Core.DInt (0 : Int32).toInt 9223372036854775808 := by
  show Jvm.FP.Core.Whole 0 (Jvm.FP.Core.val64 9223372036854775808)
  rw [show Jvm.FP.Core.val64 9223372036854775808 = .fin true 0 (-1074) by decide +kernel]
  show Jvm.FP.Core.signed true (0 * 2 ^ (-1074 : Int).toNat) = 0 * _
  rw [Int.zero_mul]; rfl
def own_eot (B : Int32 → Bool) (t : Int32) : Nat → Int32 → Int32
  | 0, x => x
  | n + 1, x => if x < t ∧ B x = true then own_eot B t n (x + 1) else x
theorem own_irr (N : Int32) : ¬ N < N := by rw [Int32.lt_iff_toInt_lt]; omega
theorem own_nlt {t x : Int32} (h : (t.toInt - x.toInt).toNat ≤ 0) : ¬ x < t := by rw [Int32.lt_iff_toInt_lt]; omega
theorem own_ltN {t x N : Int32} (h : x < t) (ht : ¬ N < t) : x < N := by rw [Int32.lt_iff_toInt_lt] at *; omega
theorem own_lt5 {x N : Int32} (h : x < N) (hN : ¬ 5 < N) : x < 5 := by rw [Int32.lt_iff_toInt_lt] at *; rw [show (5 : Int32).toInt = 5 from rfl] at *; omega
theorem own_inc {x : Int32} (h0 : ¬ x < 0) (h5 : x < 5) : (x + 1).toInt = x.toInt + 1 := by
  rw [Int32.lt_iff_toInt_lt] at *; rw [show (5 : Int32).toInt = 5 from rfl] at *; rw [show (0 : Int32).toInt = 0 from rfl] at *
  exact Jvm.Kit.i32_add (by show _ ≤ _ + (1 : Int); omega) (by show _ + (1 : Int) < _; omega)
theorem own_nn {x N : Int32} (h0 : ¬ x < 0) (hx : x < N) (hN : ¬ 5 < N) : ¬ x + 1 < 0 := by
  have h := own_inc h0 (own_lt5 hx hN)
  rw [Int32.lt_iff_toInt_lt] at *; rw [h]; rw [show (0 : Int32).toInt = 0 from rfl] at *; omega
theorem own_dec {x t N : Int32} {n : Nat} (h0 : ¬ x < 0) (hx : x < N) (hN : ¬ 5 < N) (h1 : x < t) (hn : (t.toInt - x.toInt).toNat ≤ n + 1) : (t.toInt - (x + 1).toInt).toNat ≤ n := by
  rw [own_inc h0 (own_lt5 hx hN)]; rw [Int32.lt_iff_toInt_lt] at h1; omega
theorem own_fuel {f t N : Int32} (h0 : ¬ f < 0) (hx : f < N) (hN : ¬ 5 < N) (ht : ¬ N < t) : (t.toInt - (f + 1).toInt).toNat ≤ 5 := by
  rw [own_inc h0 (own_lt5 hx hN)]; rw [Int32.lt_iff_toInt_lt] at *; rw [show (5 : Int32).toInt = 5 from rfl] at *; rw [show (0 : Int32).toInt = 0 from rfl] at *; omega
theorem own_n (i : Int32) : ((1 : Int32) + (i &&& (3 : Int32))) = 1 ∨ ((1 : Int32) + (i &&& (3 : Int32))) = 2 ∨ ((1 : Int32) + (i &&& (3 : Int32))) = 3 ∨ ((1 : Int32) + (i &&& (3 : Int32))) = 4 := by
  have e1 : (i &&& 3).toInt = i.toInt % 2 ^ 2 := Jvm.Kit.i32_mask i 3 (k := 2) (by decide) (by decide)
  have e2 : ((1 : Int32) + (i &&& 3)).toInt = (1 : Int32).toInt + (i &&& 3).toInt := Jvm.Kit.i32_add (by show _ ≤ (1 : Int) + _; omega) (by show (1 : Int) + _ < _; omega)
  rw [show (1 : Int32).toInt = 1 from rfl] at e2
  simp only [← Int32.toInt_inj, e2, show (1 : Int32).toInt = 1 from rfl, show (2 : Int32).toInt = 2 from rfl, show (3 : Int32).toInt = 3 from rfl, show (4 : Int32).toInt = 4 from rfl]
  omega
theorem own_Nz {N : Int32} (h : N = 1 ∨ N = 2 ∨ N = 3 ∨ N = 4) : N ≠ 0 := by rcases h with rfl | rfl | rfl | rfl <;> decide
theorem own_pos (i : Int32) : 0 ≤ (i &&& (2147483647 : Int32)).toInt := by
  have e1 : (i &&& 2147483647).toInt = i.toInt % 2 ^ 31 := Jvm.Kit.i32_mask i 2147483647 (k := 31) (by decide) (by decide)
  omega
theorem own_rem (x y : Int32) (hx : 0 ≤ x.toInt) (hy : 0 < y.toInt) : (x - x / y * y).toInt = x.toInt % y.toInt := by
  have h1 := Int32.toInt_lt x
  have h2 := Int32.toInt_lt y
  have hd0 : 0 ≤ x.toInt / y.toInt := Int.ediv_nonneg hx (by omega)
  have hd1 : x.toInt / y.toInt ≤ x.toInt := Int.ediv_le_self _ hx
  have hq : (x / y).toInt = x.toInt / y.toInt := by
    rw [Int32.toInt_div, Int.tdiv_eq_ediv_of_nonneg hx]
    exact Int.bmod_eq_of_le (by omega) (by omega)
  have hm : x.toInt / y.toInt * y.toInt ≤ x.toInt := Int.ediv_mul_le _ (by omega)
  have hm0 : 0 ≤ x.toInt / y.toInt * y.toInt := Int.mul_nonneg hd0 (by omega)
  have hmu : (x / y * y).toInt = x.toInt / y.toInt * y.toInt := by
    rw [Int32.toInt_mul, hq]
    exact Int.bmod_eq_of_le (by omega) (by omega)
  rw [Int32.toInt_sub, hmu, Int.bmod_eq_of_le (by omega) (by omega)]
  have := Int.emod_add_mul_ediv x.toInt y.toInt
  rw [Int.mul_comm] at this
  omega
theorem own_rank {N f i : Int32} (h : N = 1 ∨ N = 2 ∨ N = 3 ∨ N = 4) (hf : f = (i &&& (2147483647 : Int32)) - (i &&& (2147483647 : Int32)) / N * N) : ¬ f < 0 ∧ f < N := by
  have hN : 0 < N.toInt := by rcases h with rfl | rfl | rfl | rfl <;> decide
  have e : f.toInt = (i &&& (2147483647 : Int32)).toInt % N.toInt := by rw [hf, own_rem _ _ (own_pos i) hN]
  have h1 := Int.emod_nonneg (i &&& (2147483647 : Int32)).toInt (show N.toInt ≠ 0 by omega)
  have h2 := Int.emod_lt_of_pos (i &&& (2147483647 : Int32)).toInt hN
  rw [Int32.lt_iff_toInt_lt, Int32.lt_iff_toInt_lt, e, show (0 : Int32).toInt = 0 from rfl]; omega
theorem own_f4 {f n : Int32} (h : f < n) (hn : n ≤ 4) : f < 4 := by rw [Int32.lt_iff_toInt_lt] at *; rw [Int32.le_iff_toInt_le] at hn; omega
theorem own_four {f : Int32} (h0 : ¬ f < 0) (h4 : f < 4) : f = 0 ∨ f = 1 ∨ f = 2 ∨ f = 3 := by
  rw [Int32.lt_iff_toInt_lt] at *; rw [show (4 : Int32).toInt = 4 from rfl] at *; rw [show (0 : Int32).toInt = 0 from rfl] at *
  simp only [← Int32.toInt_inj, show (0 : Int32).toInt = 0 from rfl, show (1 : Int32).toInt = 1 from rfl, show (2 : Int32).toInt = 2 from rfl, show (3 : Int32).toInt = 3 from rfl]
  omega
theorem own_place {f k n : Int32} (h0 : ¬ f < 0) (hf : f < n) (hn : n ≤ 4 ∧ ¬ k < 0 ∧ k < 4) (h : f + k < n) : ¬ f + k < 0 ∧ f + k < 4 := by
  have h4 := own_f4 hf hn.1
  rcases own_four h0 h4 with rfl | rfl | rfl | rfl <;> rcases own_four hn.2.1 hn.2.2 with rfl | rfl | rfl | rfl <;> first | exact ⟨by decide, own_f4 h hn.1⟩
def own_V (v0 v1 v2 v3 : Int32) (j : Int32) : Int32 := if j = 0 then v0 else if j = 1 then v1 else if j = 2 then v2 else v3
theorem own_hV {v0 v1 v2 v3 : Int32} {c : Cell} {d : Value} (S : c.slots.size = (4 : Int32).toNatClampNeg) (H : Has c [.int v0, .int v1, .int v2, .int v3] d) : ∀ j : Int32, ¬ j < 0 → j < 4 → c.slots[j.toNatClampNeg]? = some (.int (own_V v0 v1 v2 v3 j)) := by
  intro j h0 h4
  have q : ∀ k, k < 4 → c.slots[k]? = some ([Value.int v0, .int v1, .int v2, .int v3].getD k d) := fun k hk => H k (by rw [S]; exact hk)
  rcases own_four h0 h4 with rfl | rfl | rfl | rfl
  · exact q 0 (by decide)
  · exact q 1 (by decide)
  · exact q 2 (by decide)
  · exact q 3 (by decide)
def own_D (d0 d1 d2 d3 : UInt64) (j : Int32) : UInt64 := if j = 0 then d0 else if j = 1 then d1 else if j = 2 then d2 else d3
theorem own_hD1 {d0 : UInt64} {c : Cell} {d : Value} (S : c.slots.size = (1 : Int32).toNatClampNeg) (H : Has c [.double d0] d) : ∀ j : Int32, ¬ j < 0 → j < 1 → c.slots[j.toNatClampNeg]? = some (.double (own_D d0 d0 d0 d0 j)) := by
  intro j h0 hn
  have q : ∀ k, k < 1 → c.slots[k]? = some (([.double d0] : List Value).getD k d) := fun k hk => H k (by rw [S]; exact hk)
  rcases own_four h0 (own_f4 hn (by decide)) with rfl | rfl | rfl | rfl
  · exact q 0 (by decide)
  · exact absurd hn (by decide)
  · exact absurd hn (by decide)
  · exact absurd hn (by decide)
theorem own_hD2 {d0 d1 : UInt64} {c : Cell} {d : Value} (S : c.slots.size = (2 : Int32).toNatClampNeg) (H : Has c [.double d0, .double d1] d) : ∀ j : Int32, ¬ j < 0 → j < 2 → c.slots[j.toNatClampNeg]? = some (.double (own_D d0 d1 d1 d1 j)) := by
  intro j h0 hn
  have q : ∀ k, k < 2 → c.slots[k]? = some (([.double d0, .double d1] : List Value).getD k d) := fun k hk => H k (by rw [S]; exact hk)
  rcases own_four h0 (own_f4 hn (by decide)) with rfl | rfl | rfl | rfl
  · exact q 0 (by decide)
  · exact q 1 (by decide)
  · exact absurd hn (by decide)
  · exact absurd hn (by decide)
theorem own_hD3 {d0 d1 d2 : UInt64} {c : Cell} {d : Value} (S : c.slots.size = (3 : Int32).toNatClampNeg) (H : Has c [.double d0, .double d1, .double d2] d) : ∀ j : Int32, ¬ j < 0 → j < 3 → c.slots[j.toNatClampNeg]? = some (.double (own_D d0 d1 d2 d2 j)) := by
  intro j h0 hn
  have q : ∀ k, k < 3 → c.slots[k]? = some (([.double d0, .double d1, .double d2] : List Value).getD k d) := fun k hk => H k (by rw [S]; exact hk)
  rcases own_four h0 (own_f4 hn (by decide)) with rfl | rfl | rfl | rfl
  · exact q 0 (by decide)
  · exact q 1 (by decide)
  · exact q 2 (by decide)
  · exact absurd hn (by decide)
theorem own_hD4 {d0 d1 d2 d3 : UInt64} {c : Cell} {d : Value} (S : c.slots.size = (4 : Int32).toNatClampNeg) (H : Has c [.double d0, .double d1, .double d2, .double d3] d) : ∀ j : Int32, ¬ j < 0 → j < 4 → c.slots[j.toNatClampNeg]? = some (.double (own_D d0 d1 d2 d3 j)) := by
  intro j h0 hn
  have q : ∀ k, k < 4 → c.slots[k]? = some (([.double d0, .double d1, .double d2, .double d3] : List Value).getD k d) := fun k hk => H k (by rw [S]; exact hk)
  rcases own_four h0 (own_f4 hn (by decide)) with rfl | rfl | rfl | rfl
  · exact q 0 (by decide)
  · exact q 1 (by decide)
  · exact q 2 (by decide)
  · exact q 3 (by decide)
theorem own_cmp {i j : Int32} {a b : UInt64} (ha : Jvm.FP.Core.DInt i.toInt a) (hb : Jvm.FP.Core.DInt j.toInt b) : decide (cmpValue (FP.dcmp a b) .l = 0) = decide (i = j) := by
  rw [show FP.dcmp a b = _ from Jvm.FP.Core.dcmp_int ha hb, Jvm.FP.Core.compare_ite]
  by_cases h1 : i.toInt < j.toInt
  · have : ¬ i = j := fun q => by subst q; omega
    rw [if_pos h1, decide_eq_false this]; decide
  · by_cases h2 : i.toInt = j.toInt
    · have : i = j := Int32.toInt_inj.mp h2
      rw [if_neg h1, if_pos h2, decide_eq_true this]; decide
    · have : ¬ i = j := fun q => h2 (by rw [q])
      rw [if_neg h1, if_neg h2, decide_eq_false this]; decide
theorem own_eot_congr {B B' : Int32 → Bool} {t : Int32} : ∀ (n : Nat) (x : Int32), (∀ k : Int32, ¬ k < 0 → k < t → B k = B' k) → ¬ x < 0 → (∀ k : Int32, ¬ k < 0 → k < t → ¬ k + 1 < 0) → own_eot B t n x = own_eot B' t n x
  | 0, x, _, _, _ => rfl
  | n + 1, x, h, h0, hi => by
    unfold own_eot
    by_cases hx : x < t
    · rw [h x h0 hx, own_eot_congr n (x + 1) h (hi x h0 hx) hi]
    · rw [if_neg (fun q => hx q.1), if_neg (fun q => hx q.1)]
theorem own_law1 {d0 d1 d2 d3 : UInt64} {v0 v1 v2 v3 : Int32} (f : Int32) (hf0 : ¬ f < 0) (hfN : f < 1) (hd0 : Jvm.FP.Core.DInt v0.toInt d0) (hd1 : Jvm.FP.Core.DInt v1.toInt d1) (hd2 : Jvm.FP.Core.DInt v2.toInt d2) (hd3 : Jvm.FP.Core.DInt v3.toInt d3) :
    own_eot (fun k => decide (cmpValue (FP.dcmp (own_D d0 d0 d0 d0 k) (own_D d0 d0 d0 d0 f)) .l = 0)) (1 : Int32) 5 (f + 1) = (if (f + (1 : Int32)) < (1 : Int32) then (if (own_V v0 v1 v2 v3) (f + (1 : Int32)) = (own_V v0 v1 v2 v3) f then (if (f + (2 : Int32)) < (1 : Int32) then (if (own_V v0 v1 v2 v3) (f + (2 : Int32)) = (own_V v0 v1 v2 v3) f then (if (f + (3 : Int32)) < (1 : Int32) then (if (own_V v0 v1 v2 v3) (f + (3 : Int32)) = (own_V v0 v1 v2 v3) f then (1 : Int32) else (f + (3 : Int32))) else (1 : Int32)) else (f + (2 : Int32))) else (if (f + (3 : Int32)) < (1 : Int32) then (if (own_V v0 v1 v2 v3) (f + (3 : Int32)) = (own_V v0 v1 v2 v3) f then (1 : Int32) else (f + (3 : Int32))) else (1 : Int32))) else (f + (1 : Int32))) else (if (f + (2 : Int32)) < (1 : Int32) then (if (own_V v0 v1 v2 v3) (f + (2 : Int32)) = (own_V v0 v1 v2 v3) f then (if (f + (3 : Int32)) < (1 : Int32) then (if (own_V v0 v1 v2 v3) (f + (3 : Int32)) = (own_V v0 v1 v2 v3) f then (1 : Int32) else (f + (3 : Int32))) else (1 : Int32)) else (f + (2 : Int32))) else (if (f + (3 : Int32)) < (1 : Int32) then (if (own_V v0 v1 v2 v3) (f + (3 : Int32)) = (own_V v0 v1 v2 v3) f then (1 : Int32) else (f + (3 : Int32))) else (1 : Int32)))) := by
  have hD : ∀ k : Int32, ¬ k < 0 → k < 1 → Jvm.FP.Core.DInt (own_V v0 v1 v2 v3 k).toInt (own_D d0 d0 d0 d0 k) := by
    intro k h0 hn
    rcases own_four h0 (own_f4 hn (by decide)) with rfl | rfl | rfl | rfl
    · exact hd0
    · exact absurd hn (by decide)
    · exact absurd hn (by decide)
    · exact absurd hn (by decide)
  have hs : ∀ k : Int32, ¬ k < 0 → k < 1 → ¬ k + 1 < 0 := fun k h0 hn => own_nn h0 hn (by decide)
  rw [own_eot_congr (B' := fun k => decide (own_V v0 v1 v2 v3 k = own_V v0 v1 v2 v3 f)) 5 (f + 1) (fun k h0 hn => own_cmp (hD k h0 hn) (hD f hf0 hfN)) (hs f hf0 hfN) hs]
  generalize own_V v0 v1 v2 v3 = W
  rcases own_four hf0 (own_f4 hfN (by decide)) with rfl | rfl | rfl | rfl
  · simp [own_eot]
  · exact absurd hfN (by decide)
  · exact absurd hfN (by decide)
  · exact absurd hfN (by decide)
theorem own_law2 {d0 d1 d2 d3 : UInt64} {v0 v1 v2 v3 : Int32} (f : Int32) (hf0 : ¬ f < 0) (hfN : f < 2) (hd0 : Jvm.FP.Core.DInt v0.toInt d0) (hd1 : Jvm.FP.Core.DInt v1.toInt d1) (hd2 : Jvm.FP.Core.DInt v2.toInt d2) (hd3 : Jvm.FP.Core.DInt v3.toInt d3) :
    own_eot (fun k => decide (cmpValue (FP.dcmp (own_D d0 d1 d1 d1 k) (own_D d0 d1 d1 d1 f)) .l = 0)) (2 : Int32) 5 (f + 1) = (if (f + (1 : Int32)) < (2 : Int32) then (if (own_V v0 v1 v2 v3) (f + (1 : Int32)) = (own_V v0 v1 v2 v3) f then (if (f + (2 : Int32)) < (2 : Int32) then (if (own_V v0 v1 v2 v3) (f + (2 : Int32)) = (own_V v0 v1 v2 v3) f then (if (f + (3 : Int32)) < (2 : Int32) then (if (own_V v0 v1 v2 v3) (f + (3 : Int32)) = (own_V v0 v1 v2 v3) f then (2 : Int32) else (f + (3 : Int32))) else (2 : Int32)) else (f + (2 : Int32))) else (if (f + (3 : Int32)) < (2 : Int32) then (if (own_V v0 v1 v2 v3) (f + (3 : Int32)) = (own_V v0 v1 v2 v3) f then (2 : Int32) else (f + (3 : Int32))) else (2 : Int32))) else (f + (1 : Int32))) else (if (f + (2 : Int32)) < (2 : Int32) then (if (own_V v0 v1 v2 v3) (f + (2 : Int32)) = (own_V v0 v1 v2 v3) f then (if (f + (3 : Int32)) < (2 : Int32) then (if (own_V v0 v1 v2 v3) (f + (3 : Int32)) = (own_V v0 v1 v2 v3) f then (2 : Int32) else (f + (3 : Int32))) else (2 : Int32)) else (f + (2 : Int32))) else (if (f + (3 : Int32)) < (2 : Int32) then (if (own_V v0 v1 v2 v3) (f + (3 : Int32)) = (own_V v0 v1 v2 v3) f then (2 : Int32) else (f + (3 : Int32))) else (2 : Int32)))) := by
  have hD : ∀ k : Int32, ¬ k < 0 → k < 2 → Jvm.FP.Core.DInt (own_V v0 v1 v2 v3 k).toInt (own_D d0 d1 d1 d1 k) := by
    intro k h0 hn
    rcases own_four h0 (own_f4 hn (by decide)) with rfl | rfl | rfl | rfl
    · exact hd0
    · exact hd1
    · exact absurd hn (by decide)
    · exact absurd hn (by decide)
  have hs : ∀ k : Int32, ¬ k < 0 → k < 2 → ¬ k + 1 < 0 := fun k h0 hn => own_nn h0 hn (by decide)
  rw [own_eot_congr (B' := fun k => decide (own_V v0 v1 v2 v3 k = own_V v0 v1 v2 v3 f)) 5 (f + 1) (fun k h0 hn => own_cmp (hD k h0 hn) (hD f hf0 hfN)) (hs f hf0 hfN) hs]
  generalize own_V v0 v1 v2 v3 = W
  rcases own_four hf0 (own_f4 hfN (by decide)) with rfl | rfl | rfl | rfl
  · by_cases h1 : W 1 = W 0 <;> simp [own_eot, h1]
  · by_cases h0 : W 0 = W 1 <;> simp [own_eot, h0]
  · exact absurd hfN (by decide)
  · exact absurd hfN (by decide)
theorem own_law3 {d0 d1 d2 d3 : UInt64} {v0 v1 v2 v3 : Int32} (f : Int32) (hf0 : ¬ f < 0) (hfN : f < 3) (hd0 : Jvm.FP.Core.DInt v0.toInt d0) (hd1 : Jvm.FP.Core.DInt v1.toInt d1) (hd2 : Jvm.FP.Core.DInt v2.toInt d2) (hd3 : Jvm.FP.Core.DInt v3.toInt d3) :
    own_eot (fun k => decide (cmpValue (FP.dcmp (own_D d0 d1 d2 d2 k) (own_D d0 d1 d2 d2 f)) .l = 0)) (3 : Int32) 5 (f + 1) = (if (f + (1 : Int32)) < (3 : Int32) then (if (own_V v0 v1 v2 v3) (f + (1 : Int32)) = (own_V v0 v1 v2 v3) f then (if (f + (2 : Int32)) < (3 : Int32) then (if (own_V v0 v1 v2 v3) (f + (2 : Int32)) = (own_V v0 v1 v2 v3) f then (if (f + (3 : Int32)) < (3 : Int32) then (if (own_V v0 v1 v2 v3) (f + (3 : Int32)) = (own_V v0 v1 v2 v3) f then (3 : Int32) else (f + (3 : Int32))) else (3 : Int32)) else (f + (2 : Int32))) else (if (f + (3 : Int32)) < (3 : Int32) then (if (own_V v0 v1 v2 v3) (f + (3 : Int32)) = (own_V v0 v1 v2 v3) f then (3 : Int32) else (f + (3 : Int32))) else (3 : Int32))) else (f + (1 : Int32))) else (if (f + (2 : Int32)) < (3 : Int32) then (if (own_V v0 v1 v2 v3) (f + (2 : Int32)) = (own_V v0 v1 v2 v3) f then (if (f + (3 : Int32)) < (3 : Int32) then (if (own_V v0 v1 v2 v3) (f + (3 : Int32)) = (own_V v0 v1 v2 v3) f then (3 : Int32) else (f + (3 : Int32))) else (3 : Int32)) else (f + (2 : Int32))) else (if (f + (3 : Int32)) < (3 : Int32) then (if (own_V v0 v1 v2 v3) (f + (3 : Int32)) = (own_V v0 v1 v2 v3) f then (3 : Int32) else (f + (3 : Int32))) else (3 : Int32)))) := by
  have hD : ∀ k : Int32, ¬ k < 0 → k < 3 → Jvm.FP.Core.DInt (own_V v0 v1 v2 v3 k).toInt (own_D d0 d1 d2 d2 k) := by
    intro k h0 hn
    rcases own_four h0 (own_f4 hn (by decide)) with rfl | rfl | rfl | rfl
    · exact hd0
    · exact hd1
    · exact hd2
    · exact absurd hn (by decide)
  have hs : ∀ k : Int32, ¬ k < 0 → k < 3 → ¬ k + 1 < 0 := fun k h0 hn => own_nn h0 hn (by decide)
  rw [own_eot_congr (B' := fun k => decide (own_V v0 v1 v2 v3 k = own_V v0 v1 v2 v3 f)) 5 (f + 1) (fun k h0 hn => own_cmp (hD k h0 hn) (hD f hf0 hfN)) (hs f hf0 hfN) hs]
  generalize own_V v0 v1 v2 v3 = W
  rcases own_four hf0 (own_f4 hfN (by decide)) with rfl | rfl | rfl | rfl
  · by_cases h1 : W 1 = W 0 <;> by_cases h2 : W 2 = W 0 <;> simp [own_eot, h1, h2]
  · by_cases h0 : W 0 = W 1 <;> by_cases h2 : W 2 = W 1 <;> simp [own_eot, h0, h2]
  · by_cases h0 : W 0 = W 2 <;> by_cases h1 : W 1 = W 2 <;> simp [own_eot, h0, h1]
  · exact absurd hfN (by decide)
theorem own_law4 {d0 d1 d2 d3 : UInt64} {v0 v1 v2 v3 : Int32} (f : Int32) (hf0 : ¬ f < 0) (hfN : f < 4) (hd0 : Jvm.FP.Core.DInt v0.toInt d0) (hd1 : Jvm.FP.Core.DInt v1.toInt d1) (hd2 : Jvm.FP.Core.DInt v2.toInt d2) (hd3 : Jvm.FP.Core.DInt v3.toInt d3) :
    own_eot (fun k => decide (cmpValue (FP.dcmp (own_D d0 d1 d2 d3 k) (own_D d0 d1 d2 d3 f)) .l = 0)) (4 : Int32) 5 (f + 1) = (if (f + (1 : Int32)) < (4 : Int32) then (if (own_V v0 v1 v2 v3) (f + (1 : Int32)) = (own_V v0 v1 v2 v3) f then (if (f + (2 : Int32)) < (4 : Int32) then (if (own_V v0 v1 v2 v3) (f + (2 : Int32)) = (own_V v0 v1 v2 v3) f then (if (f + (3 : Int32)) < (4 : Int32) then (if (own_V v0 v1 v2 v3) (f + (3 : Int32)) = (own_V v0 v1 v2 v3) f then (4 : Int32) else (f + (3 : Int32))) else (4 : Int32)) else (f + (2 : Int32))) else (if (f + (3 : Int32)) < (4 : Int32) then (if (own_V v0 v1 v2 v3) (f + (3 : Int32)) = (own_V v0 v1 v2 v3) f then (4 : Int32) else (f + (3 : Int32))) else (4 : Int32))) else (f + (1 : Int32))) else (if (f + (2 : Int32)) < (4 : Int32) then (if (own_V v0 v1 v2 v3) (f + (2 : Int32)) = (own_V v0 v1 v2 v3) f then (if (f + (3 : Int32)) < (4 : Int32) then (if (own_V v0 v1 v2 v3) (f + (3 : Int32)) = (own_V v0 v1 v2 v3) f then (4 : Int32) else (f + (3 : Int32))) else (4 : Int32)) else (f + (2 : Int32))) else (if (f + (3 : Int32)) < (4 : Int32) then (if (own_V v0 v1 v2 v3) (f + (3 : Int32)) = (own_V v0 v1 v2 v3) f then (4 : Int32) else (f + (3 : Int32))) else (4 : Int32)))) := by
  have hD : ∀ k : Int32, ¬ k < 0 → k < 4 → Jvm.FP.Core.DInt (own_V v0 v1 v2 v3 k).toInt (own_D d0 d1 d2 d3 k) := by
    intro k h0 hn
    rcases own_four h0 (own_f4 hn (by decide)) with rfl | rfl | rfl | rfl
    · exact hd0
    · exact hd1
    · exact hd2
    · exact hd3
  have hs : ∀ k : Int32, ¬ k < 0 → k < 4 → ¬ k + 1 < 0 := fun k h0 hn => own_nn h0 hn (by decide)
  rw [own_eot_congr (B' := fun k => decide (own_V v0 v1 v2 v3 k = own_V v0 v1 v2 v3 f)) 5 (f + 1) (fun k h0 hn => own_cmp (hD k h0 hn) (hD f hf0 hfN)) (hs f hf0 hfN) hs]
  generalize own_V v0 v1 v2 v3 = W
  rcases own_four hf0 (own_f4 hfN (by decide)) with rfl | rfl | rfl | rfl
  · by_cases h1 : W 1 = W 0 <;> by_cases h2 : W 2 = W 0 <;> by_cases h3 : W 3 = W 0 <;> simp [own_eot, h1, h2, h3]
  · by_cases h0 : W 0 = W 1 <;> by_cases h2 : W 2 = W 1 <;> by_cases h3 : W 3 = W 1 <;> simp [own_eot, h0, h2, h3]
  · by_cases h0 : W 0 = W 2 <;> by_cases h1 : W 1 = W 2 <;> by_cases h3 : W 3 = W 2 <;> simp [own_eot, h0, h1, h3]
  · by_cases h0 : W 0 = W 3 <;> by_cases h1 : W 1 = W 3 <;> by_cases h2 : W 2 = W 3 <;> simp [own_eot, h0, h1, h2]

def Q3 (Z : State) (x : Int32) (b : Int32) (h0 : Heap) (n0 : Nat) (v : Option Value) (h : Heap) (L : List Loc) : Prop := (∃ d : UInt64, v = some (.double d) ∧ Jvm.FP.Core.DInt x.toInt d) ∧ Fr n0 L ∧ h = h0
theorem ef3 (m : MethodId) (x : Int32) (b : Int32) : entryFrame m #[(.int x), (.int b)] 2 = mkF m 0 #[.val (.int x), .val (.int b)] [] := by first | (simp [entryFrame, mkF, argsToLocals, Value.category, List.replicate]; done) | rfl
set_option maxRecDepth 65536 in
set_option maxHeartbeats 40000000 in
theorem rm3 (l : Launch) (Z : State) (a0 : Array Value) (hw : ∀ d ∈ tables_1, d.before a0 Z = true) (ws : List Jvm.Cond) (x : Int32) (b : Int32) (h0 : Heap) (n0 : Nat) (Z0 : n0 ≤ h0.size)  :
    MetFree l (⟨"com/example/canvass/canvass/core/RankingEndOfTiePinLaw", "score", "(II)D"⟩ : MethodName) (head1 (Jvm.Cond.code (⟨"com/example/canvass/canvass/core/RankingEndOfTiePinLaw", "score", "(II)D"⟩ : MethodName) method_3_code 2 (some .double) :: ws) ({ frames := 0, cells := 0, slots := 0, locals := 0 } : Room)) (fun aa UU => aa = #[(.int x), (.int b)] ∧ Z.Warmed39 UU.vm ∧ UU.heap = h0) (fun _ _ _ _ _ => True) (fun _ UU oo UT => ∃ vv LL, oo = .returned vv ∧ Q3 Z x b h0 n0 vv UT.heap LL ∧ FrameEnd UU oo UT LL ({ frames := 0, cells := 0, slots := 0, locals := 0 } : Room).cells ({ frames := 0, cells := 0, slots := 0, locals := 0 } : Room).slots) := by
  refine MetFree.of_bodySF (plainFor_of_name pn0) hisR ?_
  intro p e s m args below meth c s₁ Bd hml0 hP hK
  obtain ⟨rfl, hZ, hh⟩ := hP
  have hx := Bd.exec
  have hby := Bd.bytes
  have hml : c.maxLocals = 2 := hml0
  have hown : s.vm.findClass "com/example/canvass/canvass/core/RankingEndOfTiePinLaw" = some m.cls := findClass_of_methodNamed Bd.named
  have hnm := (name_of_methodNamed Bd.named Bd.method).1
  have X0 : Stand p l e ({ frames := 0, cells := 0, slots := 0, locals := 0 } : Room) s m #[(.int x), (.int b)] below meth c s₁ [] 0 0 := Stand.of_body Bd
  have e0 : s₁.heap = h0 := by rw [← hh, Bd.state]; rfl
  have N0 := Fr.nil n0
  have c0 : Steps p.tables e below (s₁.setTop (entryFrame m #[(.int x), (.int b)] 2)) (s₁.setTop (mkF m 0 #[.val (.int x), .val (.int b)] [])) := castTop (ef3 m x b) (Steps.refl _)
  show ∃ s₂ oo, Steps p.tables e below (s₁.setTop (entryFrame m #[(.int x), (.int b)] 2)) s₂ ∧ _ ∧ _ ∧ _
  generalize s₁.setTop (entryFrame m #[(.int x), (.int b)] 2) = S0 at c0 ⊢
  by_cases hv : x = 0
  · by_cases hj : (b &&& (1 : Int32)) = 0
    · have c1 : Steps p.tables e below S0 (s₁.setTop (mkF m 14 #[.val (.int x), .val (.int b)] [])) := by
        refine c0.trans ?_
        show Steps p.tables e below (s₁.setTop (mkF m 0 #[.val (.int x), .val (.int b)] [])) _
        refine XS.iloadN X0.here hx rfl (hb hby d3_0) rfl ?_
        show Steps p.tables e below (s₁.setTop (mkF m 1 #[.val (.int x), .val (.int b)] [(.int x)])) _
        refine XS.ifNo X0.here hx rfl (hb hby d3_1) rfl ((if0 _ _).trans (teq hv).2) ?_
        show Steps p.tables e below (s₁.setTop (mkF m 4 #[.val (.int x), .val (.int b)] [])) _
        refine XS.iloadN X0.here hx rfl (hb hby d3_4) rfl ?_
        show Steps p.tables e below (s₁.setTop (mkF m 5 #[.val (.int x), .val (.int b)] [(.int b)])) _
        refine XS.iconst X0.here hx rfl (hb hby d3_5) ?_
        show Steps p.tables e below (s₁.setTop (mkF m 6 #[.val (.int x), .val (.int b)] [(.int (1 : Int32)), (.int b)])) _
        refine XS.iand X0.here hx rfl (hb hby d3_6) rfl ?_
        show Steps p.tables e below (s₁.setTop (mkF m 7 #[.val (.int x), .val (.int b)] [(.int (b &&& (1 : Int32)))])) _
        refine XS.ifYes X0.here hx rfl (pc0 := 7) (pc' := 14) rfl (hb hby d3_7) rfl ((if0 _ _).trans (teq hj).1) (by decide) (by decide) ?_
        exact Steps.refl _
      have c2 : Steps p.tables e below S0 (s₁.setTop (mkF m 16 #[.val (.int x), .val (.int b)] [(.double (FP.i2d x))])) := by
        refine c1.trans ?_
        show Steps p.tables e below (s₁.setTop (mkF m 14 #[.val (.int x), .val (.int b)] [])) _
        refine XS.iloadN X0.here hx rfl (hb hby d3_14) rfl ?_
        show Steps p.tables e below (s₁.setTop (mkF m 15 #[.val (.int x), .val (.int b)] [(.int x)])) _
        refine XS.i2dS X0.here hx rfl (v := (FP.i2d x)) (hb hby d3_15) rfl rfl ?_
        exact Steps.refl _
      obtain ⟨fs, hr, hrun, hended, hW, hsame⟩ := X0.leave (v := some (.double (FP.i2d x))) (fun h => by rw [Bd.returns] at h; cases h)
      refine ⟨_, _, c2.trans ?_, hrun, hended, _, _, rfl, ?_, ⟨_, rfl⟩, hW, hsame.mono (by decide) (by decide)⟩
      · show Steps p.tables e below (s₁.setTop (mkF m 16 #[.val (.int x), .val (.int b)] [(.double (FP.i2d x))])) _
        exact retD X0 hx Bd.returns (hb hby d3_16) hr
      · show Q3 Z x b h0 n0 _ s₁.heap _
        rw [e0]
        exact ⟨⟨_, rfl, Jvm.FP.Core.i2d_int x⟩, N0, rfl⟩
    · have c3 : Steps p.tables e below S0 (s₁.setTop (mkF m 10 #[.val (.int x), .val (.int b)] [])) := by
        refine c0.trans ?_
        show Steps p.tables e below (s₁.setTop (mkF m 0 #[.val (.int x), .val (.int b)] [])) _
        refine XS.iloadN X0.here hx rfl (hb hby d3_0) rfl ?_
        show Steps p.tables e below (s₁.setTop (mkF m 1 #[.val (.int x), .val (.int b)] [(.int x)])) _
        refine XS.ifNo X0.here hx rfl (hb hby d3_1) rfl ((if0 _ _).trans (teq hv).2) ?_
        show Steps p.tables e below (s₁.setTop (mkF m 4 #[.val (.int x), .val (.int b)] [])) _
        refine XS.iloadN X0.here hx rfl (hb hby d3_4) rfl ?_
        show Steps p.tables e below (s₁.setTop (mkF m 5 #[.val (.int x), .val (.int b)] [(.int b)])) _
        refine XS.iconst X0.here hx rfl (hb hby d3_5) ?_
        show Steps p.tables e below (s₁.setTop (mkF m 6 #[.val (.int x), .val (.int b)] [(.int (1 : Int32)), (.int b)])) _
        refine XS.iand X0.here hx rfl (hb hby d3_6) rfl ?_
        show Steps p.tables e below (s₁.setTop (mkF m 7 #[.val (.int x), .val (.int b)] [(.int (b &&& (1 : Int32)))])) _
        refine XS.ifNo X0.here hx rfl (hb hby d3_7) rfl ((if0 _ _).trans (feq hj).1) ?_
        exact Steps.refl _
      have c4 : Steps p.tables e below S0 (s₁.setTop (mkF m 13 #[.val (.int x), .val (.int b)] [(.double (9223372036854775808 : UInt64))])) := by
        refine c3.trans ?_
        show Steps p.tables e below (s₁.setTop (mkF m 10 #[.val (.int x), .val (.int b)] [])) _
        refine X0.ldc2DoubleC hx hown (mvT hZ (hw _ (List.mem_of_getElem? (i := 39) rfl))) (g := (mkF m 10 #[.val (.int x), .val (.int b)] [])) rfl (hb hby d3_10) _ ?_
        exact Steps.refl _
      obtain ⟨fs, hr, hrun, hended, hW, hsame⟩ := X0.leave (v := some (.double (9223372036854775808 : UInt64))) (fun h => by rw [Bd.returns] at h; cases h)
      refine ⟨_, _, c4.trans ?_, hrun, hended, _, _, rfl, ?_, ⟨_, rfl⟩, hW, hsame.mono (by decide) (by decide)⟩
      · show Steps p.tables e below (s₁.setTop (mkF m 13 #[.val (.int x), .val (.int b)] [(.double (9223372036854775808 : UInt64))])) _
        exact retD X0 hx Bd.returns (hb hby d3_13) hr
      · show Q3 Z x b h0 n0 _ s₁.heap _
        rw [e0]
        exact ⟨⟨_, rfl, by rw [hv]; exact own_nz⟩, N0, rfl⟩
  · have c5 : Steps p.tables e below S0 (s₁.setTop (mkF m 14 #[.val (.int x), .val (.int b)] [])) := by
      refine c0.trans ?_
      show Steps p.tables e below (s₁.setTop (mkF m 0 #[.val (.int x), .val (.int b)] [])) _
      refine XS.iloadN X0.here hx rfl (hb hby d3_0) rfl ?_
      show Steps p.tables e below (s₁.setTop (mkF m 1 #[.val (.int x), .val (.int b)] [(.int x)])) _
      refine XS.ifYes X0.here hx rfl (pc0 := 1) (pc' := 14) rfl (hb hby d3_1) rfl ((if0 _ _).trans (feq hv).2) (by decide) (by decide) ?_
      exact Steps.refl _
    have c6 : Steps p.tables e below S0 (s₁.setTop (mkF m 16 #[.val (.int x), .val (.int b)] [(.double (FP.i2d x))])) := by
      refine c5.trans ?_
      show Steps p.tables e below (s₁.setTop (mkF m 14 #[.val (.int x), .val (.int b)] [])) _
      refine XS.iloadN X0.here hx rfl (hb hby d3_14) rfl ?_
      show Steps p.tables e below (s₁.setTop (mkF m 15 #[.val (.int x), .val (.int b)] [(.int x)])) _
      refine XS.i2dS X0.here hx rfl (v := (FP.i2d x)) (hb hby d3_15) rfl rfl ?_
      exact Steps.refl _
    obtain ⟨fs, hr, hrun, hended, hW, hsame⟩ := X0.leave (v := some (.double (FP.i2d x))) (fun h => by rw [Bd.returns] at h; cases h)
    refine ⟨_, _, c6.trans ?_, hrun, hended, _, _, rfl, ?_, ⟨_, rfl⟩, hW, hsame.mono (by decide) (by decide)⟩
    · show Steps p.tables e below (s₁.setTop (mkF m 16 #[.val (.int x), .val (.int b)] [(.double (FP.i2d x))])) _
      exact retD X0 hx Bd.returns (hb hby d3_16) hr
    · show Q3 Z x b h0 n0 _ s₁.heap _
      rw [e0]
      exact ⟨⟨_, rfl, Jvm.FP.Core.i2d_int x⟩, N0, rfl⟩
def Q30 (Z : State) (a : Addr) (cl : Cell) (D : Int32 → UInt64) (N : Int32) (f : Int32) (t : Int32) (h0 : Heap) (n0 : Nat) (v : Option Value) (h : Heap) (L : List Loc) : Prop := v = some (.int (own_eot (fun k => decide (cmpValue (FP.dcmp (D k) (D f)) .l = 0)) t 5 (f + 1))) ∧ Fr n0 L ∧ h = h0
theorem ef30 (m : MethodId) (a : Addr) (f : Int32) (t : Int32) : entryFrame m #[(.ref a), (.int f), (.int t)] 4 = mkF m 0 #[.val (.ref a), .val (.int f), .val (.int t), .unset] [] := by first | (simp [entryFrame, mkF, argsToLocals, Value.category, List.replicate]; done) | rfl
set_option maxRecDepth 65536 in
set_option maxHeartbeats 40000000 in
theorem rm30 (l : Launch) (Z : State) (a0 : Array Value) (hw : ∀ d ∈ tables_1, d.before a0 Z = true) (ws : List Jvm.Cond) (a : Addr) (cl : Cell) (D : Int32 → UInt64) (N : Int32) (f : Int32) (t : Int32) (h0 : Heap) (n0 : Nat) (Z0 : n0 ≤ h0.size) (Ar : Arr Z h0 a cl .double) (hsz : cl.slots.size = N.toNatClampNeg) (hD : ∀ j : Int32, ¬ j < 0 → j < N → cl.slots[j.toNatClampNeg]? = some (.double (D j))) (hN5 : ¬ 5 < N) (hf0 : ¬ f < 0) (hf5 : f < N) (ht5 : ¬ N < t) :
    MetFree l (⟨"com/example/canvass/canvass/core/ScoreOrder", "endOfTie", "([DII)I"⟩ : MethodName) (head1 (Jvm.Cond.code (⟨"com/example/canvass/canvass/core/ScoreOrder", "endOfTie", "([DII)I"⟩ : MethodName) prog_30_method_4_code 4 (some .int) :: ws) ({ frames := 0, cells := 0, slots := 0, locals := 0 } : Room)) (fun aa UU => aa = #[(.ref a), (.int f), (.int t)] ∧ Z.Warmed39 UU.vm ∧ UU.heap = h0) (fun _ _ _ _ _ => True) (fun _ UU oo UT => ∃ vv LL, oo = .returned vv ∧ Q30 Z a cl D N f t h0 n0 vv UT.heap LL ∧ FrameEnd UU oo UT LL ({ frames := 0, cells := 0, slots := 0, locals := 0 } : Room).cells ({ frames := 0, cells := 0, slots := 0, locals := 0 } : Room).slots) := by
  refine MetFree.of_bodySF (plainFor_of_name pn1) hisR ?_
  intro p e s m args below meth c s₁ Bd hml0 hP hK
  obtain ⟨rfl, hZ, hh⟩ := hP
  have hx := Bd.exec
  have hby := Bd.bytes
  have hml : c.maxLocals = 4 := hml0
  have hown : s.vm.findClass "com/example/canvass/canvass/core/ScoreOrder" = some m.cls := findClass_of_methodNamed Bd.named
  have hnm := (name_of_methodNamed Bd.named Bd.method).1
  have X0 : Stand p l e ({ frames := 0, cells := 0, slots := 0, locals := 0 } : Room) s m #[(.ref a), (.int f), (.int t)] below meth c s₁ [] 0 0 := Stand.of_body Bd
  have e0 : s₁.heap = h0 := by rw [← hh, Bd.state]; rfl
  have N0 := Fr.nil n0
  have c0 : Steps p.tables e below (s₁.setTop (entryFrame m #[(.ref a), (.int f), (.int t)] 4)) (s₁.setTop (mkF m 0 #[.val (.ref a), .val (.int f), .val (.int t), .unset] [])) := castTop (ef30 m a f t) (Steps.refl _)
  show ∃ s₂ oo, Steps p.tables e below (s₁.setTop (entryFrame m #[(.ref a), (.int f), (.int t)] 4)) s₂ ∧ _ ∧ _ ∧ _
  generalize s₁.setTop (entryFrame m #[(.ref a), (.int f), (.int t)] 4) = S0 at c0 ⊢
  have c1 : Steps p.tables e below S0 (s₁.setTop (mkF m 4 #[.val (.ref a), .val (.int f), .val (.int t), .val (.int (f + (1 : Int32)))] [])) := by
    refine c0.trans ?_
    show Steps p.tables e below (s₁.setTop (mkF m 0 #[.val (.ref a), .val (.int f), .val (.int t), .unset] [])) _
    refine XS.iloadN X0.here hx rfl (hb hby d30_0) rfl ?_
    show Steps p.tables e below (s₁.setTop (mkF m 1 #[.val (.ref a), .val (.int f), .val (.int t), .unset] [(.int f)])) _
    refine XS.iconst X0.here hx rfl (hb hby d30_1) ?_
    show Steps p.tables e below (s₁.setTop (mkF m 2 #[.val (.ref a), .val (.int f), .val (.int t), .unset] [(.int (1 : Int32)), (.int f)])) _
    refine XS.iadd X0.here hx rfl (hb hby d30_2) rfl ?_
    show Steps p.tables e below (s₁.setTop (mkF m 3 #[.val (.ref a), .val (.int f), .val (.int t), .unset] [(.int (f + (1 : Int32)))])) _
    refine XS.istoreN X0.here hx rfl (hb hby d30_3) rfl (l' := #[.val (.ref a), .val (.int f), .val (.int t), .val (.int (f + (1 : Int32)))]) rfl ?_
    exact Steps.refl _
  have loop : ∀ (n : Nat) (x : Int32), ¬ x < 0 → (t.toInt - x.toInt).toNat ≤ n → Steps p.tables e below (s₁.setTop (mkF m 4 #[.val (.ref a), .val (.int f), .val (.int t), .val (.int x)] [])) (s₁.setTop (mkF m 25 #[.val (.ref a), .val (.int f), .val (.int t), .val (.int (own_eot (fun k => decide (cmpValue (FP.dcmp (D k) (D f)) .l = 0)) t n x))] [])) := by
    intro n
    induction n with
    | zero =>
      intro x hx0 hn
      have c2 : Steps p.tables e below (s₁.setTop (mkF m 4 #[.val (.ref a), .val (.int f), .val (.int t), .val (.int x)] [])) (s₁.setTop (mkF m 25 #[.val (.ref a), .val (.int f), .val (.int t), .val (.int x)] [])) := by
        refine (Steps.refl _).trans ?_
        show Steps p.tables e below (s₁.setTop (mkF m 4 #[.val (.ref a), .val (.int f), .val (.int t), .val (.int x)] [])) _
        refine XS.iloadN X0.here hx rfl (hb hby d30_4) rfl ?_
        show Steps p.tables e below (s₁.setTop (mkF m 5 #[.val (.ref a), .val (.int f), .val (.int t), .val (.int x)] [(.int x)])) _
        refine XS.iloadN X0.here hx rfl (hb hby d30_5) rfl ?_
        show Steps p.tables e below (s₁.setTop (mkF m 6 #[.val (.ref a), .val (.int f), .val (.int t), .val (.int x)] [(.int t), (.int x)])) _
        refine XS.icmpYes X0.here hx rfl (pc0 := 6) (pc' := 25) rfl (hb hby d30_6) rfl (flt (own_nlt hn)).2.1 (by decide) (by decide) ?_
        exact Steps.refl _
      exact c2
    | succ n ih =>
      intro x hx0 hn
      by_cases h1 : x < t
      · have c3 : Steps p.tables e below (s₁.setTop (mkF m 4 #[.val (.ref a), .val (.int f), .val (.int t), .val (.int x)] [])) (s₁.setTop (mkF m 9 #[.val (.ref a), .val (.int f), .val (.int t), .val (.int x)] [])) := by
          refine (Steps.refl _).trans ?_
          show Steps p.tables e below (s₁.setTop (mkF m 4 #[.val (.ref a), .val (.int f), .val (.int t), .val (.int x)] [])) _
          refine XS.iloadN X0.here hx rfl (hb hby d30_4) rfl ?_
          show Steps p.tables e below (s₁.setTop (mkF m 5 #[.val (.ref a), .val (.int f), .val (.int t), .val (.int x)] [(.int x)])) _
          refine XS.iloadN X0.here hx rfl (hb hby d30_5) rfl ?_
          show Steps p.tables e below (s₁.setTop (mkF m 6 #[.val (.ref a), .val (.int f), .val (.int t), .val (.int x)] [(.int t), (.int x)])) _
          refine XS.icmpNo X0.here hx rfl (hb hby d30_6) rfl (tlt h1).2.1 ?_
          exact Steps.refl _
        have hx5 : x < N := own_ltN h1 ht5
        have c4 : Steps p.tables e below (s₁.setTop (mkF m 4 #[.val (.ref a), .val (.int f), .val (.int t), .val (.int x)] [])) (s₁.setTop (mkF m 11 #[.val (.ref a), .val (.int f), .val (.int t), .val (.int x)] [(.int x), (.ref a)])) := by
          refine c3.trans ?_
          show Steps p.tables e below (s₁.setTop (mkF m 9 #[.val (.ref a), .val (.int f), .val (.int t), .val (.int x)] [])) _
          refine XS.aloadN X0.here hx rfl (hb hby d30_9) rfl rfl ?_
          show Steps p.tables e below (s₁.setTop (mkF m 10 #[.val (.ref a), .val (.int f), .val (.int t), .val (.int x)] [(.ref a)])) _
          refine XS.iloadN X0.here hx rfl (hb hby d30_10) rfl ?_
          exact Steps.refl _
        have c5 : Steps p.tables e below (s₁.setTop (mkF m 4 #[.val (.ref a), .val (.int f), .val (.int t), .val (.int x)] [])) (s₁.setTop (mkF m 12 #[.val (.ref a), .val (.int f), .val (.int t), .val (.int x)] [(.double (D x))])) := by
          refine c4.trans ?_
          show Steps p.tables e below (s₁.setTop (mkF m 11 #[.val (.ref a), .val (.int f), .val (.int t), .val (.int x)] [(.int x), (.ref a)])) _
          refine X0.daload hx (j := x) (v := .double (D x)) (by rw [e0]; exact Ar.1) (State.isArrayOf_alike hZ.alike Ar.2.1) Ar.2.2 (inb_of hsz ⟨hx0, hx5⟩) (hD _ hx0 hx5) (g := (mkF m 11 #[.val (.ref a), .val (.int f), .val (.int t), .val (.int x)] [(.int x), (.ref a)])) rfl rfl (hb hby d30_11) _ ?_
          exact Steps.refl _
        have c6 : Steps p.tables e below (s₁.setTop (mkF m 4 #[.val (.ref a), .val (.int f), .val (.int t), .val (.int x)] [])) (s₁.setTop (mkF m 14 #[.val (.ref a), .val (.int f), .val (.int t), .val (.int x)] [(.int f), (.ref a), (.double (D x))])) := by
          refine c5.trans ?_
          show Steps p.tables e below (s₁.setTop (mkF m 12 #[.val (.ref a), .val (.int f), .val (.int t), .val (.int x)] [(.double (D x))])) _
          refine XS.aloadN X0.here hx rfl (hb hby d30_12) rfl rfl ?_
          show Steps p.tables e below (s₁.setTop (mkF m 13 #[.val (.ref a), .val (.int f), .val (.int t), .val (.int x)] [(.ref a), (.double (D x))])) _
          refine XS.iloadN X0.here hx rfl (hb hby d30_13) rfl ?_
          exact Steps.refl _
        have c7 : Steps p.tables e below (s₁.setTop (mkF m 4 #[.val (.ref a), .val (.int f), .val (.int t), .val (.int x)] [])) (s₁.setTop (mkF m 15 #[.val (.ref a), .val (.int f), .val (.int t), .val (.int x)] [(.double (D f)), (.double (D x))])) := by
          refine c6.trans ?_
          show Steps p.tables e below (s₁.setTop (mkF m 14 #[.val (.ref a), .val (.int f), .val (.int t), .val (.int x)] [(.int f), (.ref a), (.double (D x))])) _
          refine X0.daload hx (j := f) (v := .double (D f)) (by rw [e0]; exact Ar.1) (State.isArrayOf_alike hZ.alike Ar.2.1) Ar.2.2 (inb_of hsz ⟨hf0, hf5⟩) (hD _ hf0 hf5) (g := (mkF m 14 #[.val (.ref a), .val (.int f), .val (.int t), .val (.int x)] [(.int f), (.ref a), (.double (D x))])) rfl rfl (hb hby d30_14) _ ?_
          exact Steps.refl _
        have c8 : Steps p.tables e below (s₁.setTop (mkF m 4 #[.val (.ref a), .val (.int f), .val (.int t), .val (.int x)] [])) (s₁.setTop (mkF m 16 #[.val (.ref a), .val (.int f), .val (.int t), .val (.int x)] [(.int (cmpValue (FP.dcmp (D x) (D f)) .l))])) := by
          refine c7.trans ?_
          show Steps p.tables e below (s₁.setTop (mkF m 15 #[.val (.ref a), .val (.int f), .val (.int t), .val (.int x)] [(.double (D f)), (.double (D x))])) _
          refine XS.dcmpS X0.here hx rfl (v := (cmpValue (FP.dcmp (D x) (D f)) .l)) (hb hby d30_15) rfl rfl ?_
          exact Steps.refl _
        by_cases h3 : cmpValue (FP.dcmp (D x) (D f)) .l = 0
        · have c9 : Steps p.tables e below (s₁.setTop (mkF m 4 #[.val (.ref a), .val (.int f), .val (.int t), .val (.int x)] [])) (s₁.setTop (mkF m 4 #[.val (.ref a), .val (.int f), .val (.int t), .val (.int (x + (1 : Int32)))] [])) := by
            refine c8.trans ?_
            show Steps p.tables e below (s₁.setTop (mkF m 16 #[.val (.ref a), .val (.int f), .val (.int t), .val (.int x)] [(.int (cmpValue (FP.dcmp (D x) (D f)) .l))])) _
            refine XS.ifNo X0.here hx rfl (hb hby d30_16) rfl ((if0 _ _).trans (teq h3).2) ?_
            show Steps p.tables e below (s₁.setTop (mkF m 19 #[.val (.ref a), .val (.int f), .val (.int t), .val (.int x)] [])) _
            refine XS.iinc X0.here hx rfl (hb hby d30_19) rfl (l' := #[.val (.ref a), .val (.int f), .val (.int t), .val (.int (x + (1 : Int32)))]) rfl ?_
            show Steps p.tables e below (s₁.setTop (mkF m 22 #[.val (.ref a), .val (.int f), .val (.int t), .val (.int (x + (1 : Int32)))] [])) _
            refine XS.goto X0.here hx rfl (pc0 := 22) (pc' := 4) rfl (hb hby d30_22) (by decide) (by decide) ?_
            exact Steps.refl _
          rw [own_eot, if_pos ⟨h1, decide_eq_true h3⟩]
          exact c9.trans (ih (x + 1) (own_nn hx0 hx5 hN5) (own_dec hx0 hx5 hN5 h1 hn))
        · have c10 : Steps p.tables e below (s₁.setTop (mkF m 4 #[.val (.ref a), .val (.int f), .val (.int t), .val (.int x)] [])) (s₁.setTop (mkF m 25 #[.val (.ref a), .val (.int f), .val (.int t), .val (.int x)] [])) := by
            refine c8.trans ?_
            show Steps p.tables e below (s₁.setTop (mkF m 16 #[.val (.ref a), .val (.int f), .val (.int t), .val (.int x)] [(.int (cmpValue (FP.dcmp (D x) (D f)) .l))])) _
            refine XS.ifYes X0.here hx rfl (pc0 := 16) (pc' := 25) rfl (hb hby d30_16) rfl ((if0 _ _).trans (feq h3).2) (by decide) (by decide) ?_
            exact Steps.refl _
          rw [own_eot, if_neg (fun q => h3 (of_decide_eq_true q.2))]
          exact c10
      · have c11 : Steps p.tables e below (s₁.setTop (mkF m 4 #[.val (.ref a), .val (.int f), .val (.int t), .val (.int x)] [])) (s₁.setTop (mkF m 25 #[.val (.ref a), .val (.int f), .val (.int t), .val (.int x)] [])) := by
          refine (Steps.refl _).trans ?_
          show Steps p.tables e below (s₁.setTop (mkF m 4 #[.val (.ref a), .val (.int f), .val (.int t), .val (.int x)] [])) _
          refine XS.iloadN X0.here hx rfl (hb hby d30_4) rfl ?_
          show Steps p.tables e below (s₁.setTop (mkF m 5 #[.val (.ref a), .val (.int f), .val (.int t), .val (.int x)] [(.int x)])) _
          refine XS.iloadN X0.here hx rfl (hb hby d30_5) rfl ?_
          show Steps p.tables e below (s₁.setTop (mkF m 6 #[.val (.ref a), .val (.int f), .val (.int t), .val (.int x)] [(.int t), (.int x)])) _
          refine XS.icmpYes X0.here hx rfl (pc0 := 6) (pc' := 25) rfl (hb hby d30_6) rfl (flt h1).2.1 (by decide) (by decide) ?_
          exact Steps.refl _
        rw [own_eot, if_neg (fun q => h1 q.1)]
        exact c11
  have c12 : Steps p.tables e below S0 (s₁.setTop (mkF m 25 #[.val (.ref a), .val (.int f), .val (.int t), .val (.int (own_eot (fun k => decide (cmpValue (FP.dcmp (D k) (D f)) .l = 0)) t 5 (f + (1 : Int32))))] [])) := c1.trans (loop 5 (f + 1) (own_nn hf0 hf5 hN5) (own_fuel hf0 hf5 hN5 ht5))
  have c13 : Steps p.tables e below S0 (s₁.setTop (mkF m 26 #[.val (.ref a), .val (.int f), .val (.int t), .val (.int (own_eot (fun k => decide (cmpValue (FP.dcmp (D k) (D f)) .l = 0)) t 5 (f + (1 : Int32))))] [(.int (own_eot (fun k => decide (cmpValue (FP.dcmp (D k) (D f)) .l = 0)) t 5 (f + (1 : Int32))))])) := by
    refine c12.trans ?_
    show Steps p.tables e below (s₁.setTop (mkF m 25 #[.val (.ref a), .val (.int f), .val (.int t), .val (.int (own_eot (fun k => decide (cmpValue (FP.dcmp (D k) (D f)) .l = 0)) t 5 (f + (1 : Int32))))] [])) _
    refine XS.iloadN X0.here hx rfl (hb hby d30_25) rfl ?_
    exact Steps.refl _
  obtain ⟨fs, hr, hrun, hended, hW, hsame⟩ := X0.leave (v := some (.int (own_eot (fun k => decide (cmpValue (FP.dcmp (D k) (D f)) .l = 0)) t 5 (f + (1 : Int32))))) (fun h => by rw [Bd.returns] at h; cases h)
  refine ⟨_, _, c13.trans ?_, hrun, hended, _, _, rfl, ?_, ⟨_, rfl⟩, hW, hsame.mono (by decide) (by decide)⟩
  · show Steps p.tables e below (s₁.setTop (mkF m 26 #[.val (.ref a), .val (.int f), .val (.int t), .val (.int (own_eot (fun k => decide (cmpValue (FP.dcmp (D k) (D f)) .l = 0)) t 5 (f + (1 : Int32))))] [(.int (own_eot (fun k => decide (cmpValue (FP.dcmp (D k) (D f)) .l = 0)) t 5 (f + (1 : Int32))))])) _
    exact retI X0 hx Bd.returns (hb hby d30_26) hr
  · show Q30 Z a cl D N f t h0 n0 _ s₁.heap _
    rw [e0]
    exact ⟨rfl, N0, rfl⟩
def Q196 (Z : State) (o : Addr) (a : Addr) (cl : Cell) (D : Int32 → UInt64) (N : Int32) (f : Int32) (h0 : Heap) (n0 : Nat) (v : Option Value) (h : Heap) (L : List Loc) : Prop := v = some (.int (own_eot (fun k => decide (cmpValue (FP.dcmp (D k) (D f)) .l = 0)) N 5 (f + 1))) ∧ Fr n0 L ∧ h = h0
theorem ef196 (m : MethodId) (o : Addr) (f : Int32) : entryFrame m #[(.ref o), (.int f)] 2 = mkF m 0 #[.val (.ref o), .val (.int f)] [] := by first | (simp [entryFrame, mkF, argsToLocals, Value.category, List.replicate]; done) | rfl
set_option maxRecDepth 65536 in
set_option maxHeartbeats 40000000 in
theorem rm196 (l : Launch) (Z : State) (a0 : Array Value) (hw : ∀ d ∈ tables_1, d.before a0 Z = true) (ws : List Jvm.Cond) (o : Addr) (a : Addr) (cl : Cell) (D : Int32 → UInt64) (N : Int32) (f : Int32) (h0 : Heap) (n0 : Nat) (Z0 : n0 ≤ h0.size) (Fs : Fld Z h0 o "com/example/canvass/canvass/core/Ranking" "scores" "[D" (.ref a)) (Ar : Arr Z h0 a cl .double) (hsz : cl.slots.size = N.toNatClampNeg) (hD : ∀ j : Int32, ¬ j < 0 → j < N → cl.slots[j.toNatClampNeg]? = some (.double (D j))) (hN5 : ¬ 5 < N) (hN0 : ¬ N < 0) (hf0 : ¬ f < 0) (hf5 : f < N) :
    MetFree l (⟨"com/example/canvass/canvass/core/Ranking", "endOfTie", "(I)I"⟩ : MethodName) (head1 (Jvm.Cond.code (⟨"com/example/canvass/canvass/core/Ranking", "endOfTie", "(I)I"⟩ : MethodName) prog_19_method_6_code 2 (some .int) :: ws) ({ frames := 1, cells := 0, slots := 0, locals := 17 } : Room)) (fun aa UU => aa = #[(.ref o), (.int f)] ∧ Z.Warmed39 UU.vm ∧ UU.heap = h0) (fun _ _ _ _ _ => True) (fun _ UU oo UT => ∃ vv LL, oo = .returned vv ∧ Q196 Z o a cl D N f h0 n0 vv UT.heap LL ∧ FrameEnd UU oo UT LL ({ frames := 1, cells := 0, slots := 0, locals := 17 } : Room).cells ({ frames := 1, cells := 0, slots := 0, locals := 17 } : Room).slots) := by
  refine MetFree.of_bodySF (plainFor_of_name pn2) hisR ?_
  intro p e s m args below meth c s₁ Bd hml0 hP hK
  obtain ⟨rfl, hZ, hh⟩ := hP
  have hx := Bd.exec
  have hby := Bd.bytes
  have hml : c.maxLocals = 2 := hml0
  have hown : s.vm.findClass "com/example/canvass/canvass/core/Ranking" = some m.cls := findClass_of_methodNamed Bd.named
  have hnm := (name_of_methodNamed Bd.named Bd.method).1
  have X0 : Stand p l e ({ frames := 1, cells := 0, slots := 0, locals := 17 } : Room) s m #[(.ref o), (.int f)] below meth c s₁ [] 0 0 := Stand.of_body Bd
  have e0 : s₁.heap = h0 := by rw [← hh, Bd.state]; rfl
  have N0 := Fr.nil n0
  have c0 : Steps p.tables e below (s₁.setTop (entryFrame m #[(.ref o), (.int f)] 2)) (s₁.setTop (mkF m 0 #[.val (.ref o), .val (.int f)] [])) := castTop (ef196 m o f) (Steps.refl _)
  show ∃ s₂ oo, Steps p.tables e below (s₁.setTop (entryFrame m #[(.ref o), (.int f)] 2)) s₂ ∧ _ ∧ _ ∧ _
  generalize s₁.setTop (entryFrame m #[(.ref o), (.int f)] 2) = S0 at c0 ⊢
  have c1 : Steps p.tables e below S0 (s₁.setTop (mkF m 1 #[.val (.ref o), .val (.int f)] [(.ref o)])) := by
    refine c0.trans ?_
    show Steps p.tables e below (s₁.setTop (mkF m 0 #[.val (.ref o), .val (.int f)] [])) _
    refine XS.aloadN X0.here hx rfl (hb hby d196_0) rfl rfl ?_
    exact Steps.refl _
  obtain ⟨T2, X2, e2, st2⟩ := getF X0 hx hZ hown (host := "") (Or.inl (hw _ (List.mem_of_getElem? (i := 28) rfl))) Via.refl e0 Fs (g := (mkF m 1 #[.val (.ref o), .val (.int f)] [(.ref o)])) rfl rfl (hb hby d196_1)
  have c2 : Steps p.tables e below S0 (T2.setTop (mkF m 4 #[.val (.ref o), .val (.int f)] [(.ref a)])) := by
    refine c1.trans ?_
    show Steps p.tables e below (s₁.setTop (mkF m 1 #[.val (.ref o), .val (.int f)] [(.ref o)])) _
    refine st2 _ ?_
    exact Steps.refl _
  have c3 : Steps p.tables e below S0 (T2.setTop (mkF m 6 #[.val (.ref o), .val (.int f)] [(.ref o), (.int f), (.ref a)])) := by
    refine c2.trans ?_
    show Steps p.tables e below (T2.setTop (mkF m 4 #[.val (.ref o), .val (.int f)] [(.ref a)])) _
    refine XS.iloadN X2.here hx rfl (hb hby d196_4) rfl ?_
    show Steps p.tables e below (T2.setTop (mkF m 5 #[.val (.ref o), .val (.int f)] [(.int f), (.ref a)])) _
    refine XS.aloadN X2.here hx rfl (hb hby d196_5) rfl rfl ?_
    exact Steps.refl _
  obtain ⟨T4, X4, e4, st4⟩ := getF X2 hx hZ hown (host := "") (Or.inl (hw _ (List.mem_of_getElem? (i := 28) rfl))) Via.refl e2 Fs (g := (mkF m 6 #[.val (.ref o), .val (.int f)] [(.ref o), (.int f), (.ref a)])) rfl rfl (hb hby d196_6)
  have c4 : Steps p.tables e below S0 (T4.setTop (mkF m 9 #[.val (.ref o), .val (.int f)] [(.ref a), (.int f), (.ref a)])) := by
    refine c3.trans ?_
    show Steps p.tables e below (T2.setTop (mkF m 6 #[.val (.ref o), .val (.int f)] [(.ref o), (.int f), (.ref a)])) _
    refine st4 _ ?_
    exact Steps.refl _
  have c5 : Steps p.tables e below S0 (T4.setTop (mkF m 10 #[.val (.ref o), .val (.int f)] [(.int N), (.int f), (.ref a)])) := by
    refine c4.trans ?_
    show Steps p.tables e below (T4.setTop (mkF m 9 #[.val (.ref o), .val (.int f)] [(.ref a), (.int f), (.ref a)])) _
    refine X4.arraylength hx (by rw [e4]; exact Ar.1) (State.isArrayOf_alike hZ.alike Ar.2.1) (g := (mkF m 9 #[.val (.ref o), .val (.int f)] [(.ref a), (.int f), (.ref a)])) rfl rfl (hb hby d196_9) _ ?_
    rw [len_of hsz hN0]
    exact Steps.refl _
  obtain ⟨_, _, ⟨T6, L6, k6, n6⟩, -, X6, ⟨Lc6, hQ6, l6, y6, z6⟩, st6⟩ := Jvm.LawKit.callS X4 hx (y := (⟨"com/example/canvass/canvass/core/ScoreOrder", "endOfTie", "([DII)I"⟩ : MethodName)) hown (mvT hZ (hw _ (List.mem_of_getElem? (i := 35) rfl))) (mvT hZ (hw _ (List.mem_of_getElem? (i := 36) rfl))) (mvT hZ (hw _ (List.mem_of_getElem? (i := 37) rfl))) (mvT hZ (hw _ (List.mem_of_getElem? (i := 38) rfl))) (by decide) (backOf (W := 0) (rm30 l Z a0 hw [] a cl D N f N h0 n0 Z0 Ar hsz hD hN5 hf0 hf5 (own_irr N)) hZ (hw _ (List.mem_of_getElem? (i := 38) rfl)) (hw _ (List.mem_of_getElem? (i := 37) rfl)) (by decide) (by decide)) (g := (mkF m 10 #[.val (.ref o), .val (.int f)] [(.int N), (.int f), (.ref a)])) rfl (by rw [hml]; rfl) (argsL := [(.ref a), (.int f), (.int N)]) (rest := []) (lenOf pd0 rfl) rfl (by show 2 * 0 + _ ≤ _; exact Nat.le_of_eq rfl) (hb hby d196_10) (fun _ _ => ⟨rfl, e4, (by decide : 0 + 0 ≤ _), (by decide : 0 + 0 ≤ _)⟩)
  dsimp only [Pt.U, Pt.locs, Pt.cells, Pt.slots] at X6 l6 y6 z6 st6 hQ6
  subst l6 y6 z6
  obtain ⟨rfl, N1, e1⟩ := hQ6
  have c6 : Steps p.tables e below S0 (T6.setTop (mkF m 13 #[.val (.ref o), .val (.int f)] [(.int (own_eot (fun k => decide (cmpValue (FP.dcmp (D k) (D f)) .l = 0)) N 5 (f + 1)))])) := by
    refine c5.trans ?_
    show Steps p.tables e below (T4.setTop (mkF m 10 #[.val (.ref o), .val (.int f)] [(.int N), (.int f), (.ref a)])) _
    refine st6 _ ?_
    exact Steps.refl _
  obtain ⟨fs, hr, hrun, hended, hW, hsame⟩ := X6.leave (v := some (.int (own_eot (fun k => decide (cmpValue (FP.dcmp (D k) (D f)) .l = 0)) N 5 (f + 1)))) (fun h => by rw [Bd.returns] at h; cases h)
  refine ⟨_, _, c6.trans ?_, hrun, hended, _, _, rfl, ?_, ⟨_, rfl⟩, hW, hsame.mono (by decide) (by decide)⟩
  · show Steps p.tables e below (T6.setTop (mkF m 13 #[.val (.ref o), .val (.int f)] [(.int (own_eot (fun k => decide (cmpValue (FP.dcmp (D k) (D f)) .l = 0)) N 5 (f + 1)))])) _
    exact retI X6 hx Bd.returns (hb hby d196_13) hr
  · show Q196 Z o a cl D N f h0 n0 _ T6.heap _
    rw [e1]
    exact ⟨rfl, Fr.app N0 N1, rfl⟩
def Q19 (Z : State) (o : Addr) (q : Addr) (d : Addr) (a : Addr) (cd : Cell) (cl : Cell) (N : Int32) (h0 : Heap) (n0 : Nat) (v : Option Value) (h : Heap) (L : List Loc) : Prop := v = none ∧ Fr n0 L ∧ Keep h0 h [o] ∧ Exa Z h o "com/example/canvass/canvass/core/Ranking" ∧ Fld Z h o "com/example/canvass/canvass/core/Ranking" "scores" "[D" (.ref a)
theorem ef19 (m : MethodId) (o : Addr) (q : Addr) (d : Addr) (a : Addr) : entryFrame m #[(.ref o), (.ref q), (.ref d), (.ref a)] 4 = mkF m 0 #[.val (.ref o), .val (.ref q), .val (.ref d), .val (.ref a)] [] := by first | (simp [entryFrame, mkF, argsToLocals, Value.category, List.replicate]; done) | rfl
set_option maxRecDepth 65536 in
set_option maxHeartbeats 40000000 in
theorem rm19 (l : Launch) (Z : State) (a0 : Array Value) (hw : ∀ d ∈ tables_1, d.before a0 Z = true) (ws : List Jvm.Cond) (o : Addr) (q : Addr) (d : Addr) (a : Addr) (cd : Cell) (cl : Cell) (N : Int32) (h0 : Heap) (n0 : Nat) (Z0 : n0 ≤ h0.size) (Ad : Arr Z h0 d cd .int) (Sd : cd.slots.size = N.toNatClampNeg) (Ar : Arr Z h0 a cl .double) (Sa : cl.slots.size = N.toNatClampNeg) (hN0 : ¬ N < 0) (Eo : Exa Z h0 o "com/example/canvass/canvass/core/Ranking") (Fq : Fld Z h0 o "com/example/canvass/canvass/core/Ranking" "query" "Ljava/lang/String;" .null) (Fd : Fld Z h0 o "com/example/canvass/canvass/core/Ranking" "documents" "[I" .null) (Fs : Fld Z h0 o "com/example/canvass/canvass/core/Ranking" "scores" "[D" .null) (go : n0 ≤ o) :
    MetFree l (⟨"com/example/canvass/canvass/core/Ranking", "<init>", "(Ljava/lang/String;[I[D)V"⟩ : MethodName) (head1 (Jvm.Cond.code (⟨"com/example/canvass/canvass/core/Ranking", "<init>", "(Ljava/lang/String;[I[D)V"⟩ : MethodName) prog_19_method_1_code 4 none :: ws) ({ frames := 1, cells := 0, slots := 0, locals := 12 } : Room)) (fun aa UU => aa = #[(.ref o), (.ref q), (.ref d), (.ref a)] ∧ Z.Warmed39 UU.vm ∧ UU.heap = h0) (fun _ _ _ _ _ => True) (fun _ UU oo UT => ∃ vv LL, oo = .returned vv ∧ Q19 Z o q d a cd cl N h0 n0 vv UT.heap LL ∧ FrameEnd UU oo UT LL ({ frames := 1, cells := 0, slots := 0, locals := 12 } : Room).cells ({ frames := 1, cells := 0, slots := 0, locals := 12 } : Room).slots) := by
  refine MetFree.of_bodySF (plainFor_of_name pn2) hisR ?_
  intro p e s m args below meth c s₁ Bd hml0 hP hK
  obtain ⟨rfl, hZ, hh⟩ := hP
  have hx := Bd.exec
  have hby := Bd.bytes
  have hml : c.maxLocals = 4 := hml0
  have hown : s.vm.findClass "com/example/canvass/canvass/core/Ranking" = some m.cls := findClass_of_methodNamed Bd.named
  have hnm := (name_of_methodNamed Bd.named Bd.method).1
  have X0 : Stand p l e ({ frames := 1, cells := 0, slots := 0, locals := 12 } : Room) s m #[(.ref o), (.ref q), (.ref d), (.ref a)] below meth c s₁ [] 0 0 := Stand.of_body Bd
  have e0 : s₁.heap = h0 := by rw [← hh, Bd.state]; rfl
  have N0 := Fr.nil n0
  have c0 : Steps p.tables e below (s₁.setTop (entryFrame m #[(.ref o), (.ref q), (.ref d), (.ref a)] 4)) (s₁.setTop (mkF m 0 #[.val (.ref o), .val (.ref q), .val (.ref d), .val (.ref a)] [])) := castTop (ef19 m o q d a) (Steps.refl _)
  show ∃ s₂ oo, Steps p.tables e below (s₁.setTop (entryFrame m #[(.ref o), (.ref q), (.ref d), (.ref a)] 4)) s₂ ∧ _ ∧ _ ∧ _
  generalize s₁.setTop (entryFrame m #[(.ref o), (.ref q), (.ref d), (.ref a)] 4) = S0 at c0 ⊢
  have c1 : Steps p.tables e below S0 (s₁.setTop (mkF m 1 #[.val (.ref o), .val (.ref q), .val (.ref d), .val (.ref a)] [(.ref o)])) := by
    refine c0.trans ?_
    show Steps p.tables e below (s₁.setTop (mkF m 0 #[.val (.ref o), .val (.ref q), .val (.ref d), .val (.ref a)] [])) _
    refine XS.aloadN X0.here hx rfl (hb hby d19_0) rfl rfl ?_
    exact Steps.refl _
  obtain ⟨T2, X2, e2, st2⟩ := initO X0 hx hZ hown (hw _ (List.mem_of_getElem? (i := 21) rfl)) (hw _ (List.mem_of_getElem? (i := 22) rfl)) (hw _ (List.mem_of_getElem? (i := 23) rfl)) e0 (g := (mkF m 1 #[.val (.ref o), .val (.ref q), .val (.ref d), .val (.ref a)] [(.ref o)])) rfl (by rw [hml]; rfl) rfl (hb hby d19_1) (by decide) (W := 0) (by show 2 * 0 + _ ≤ _; exact Nat.le_of_eq rfl) (by decide)
  have c2 : Steps p.tables e below S0 (T2.setTop (mkF m 4 #[.val (.ref o), .val (.ref q), .val (.ref d), .val (.ref a)] [])) := by
    refine c1.trans ?_
    show Steps p.tables e below (s₁.setTop (mkF m 1 #[.val (.ref o), .val (.ref q), .val (.ref d), .val (.ref a)] [(.ref o)])) _
    refine st2 _ ?_
    exact Steps.refl _
  have c3 : Steps p.tables e below S0 (T2.setTop (mkF m 5 #[.val (.ref o), .val (.ref q), .val (.ref d), .val (.ref a)] [(.ref d)])) := by
    refine c2.trans ?_
    show Steps p.tables e below (T2.setTop (mkF m 4 #[.val (.ref o), .val (.ref q), .val (.ref d), .val (.ref a)] [])) _
    refine XS.aloadN X2.here hx rfl (hb hby d19_4) rfl rfl ?_
    exact Steps.refl _
  have c4 : Steps p.tables e below S0 (T2.setTop (mkF m 6 #[.val (.ref o), .val (.ref q), .val (.ref d), .val (.ref a)] [(.int N)])) := by
    refine c3.trans ?_
    show Steps p.tables e below (T2.setTop (mkF m 5 #[.val (.ref o), .val (.ref q), .val (.ref d), .val (.ref a)] [(.ref d)])) _
    refine X2.arraylength hx (by rw [e2]; exact Ad.1) (State.isArrayOf_alike hZ.alike Ad.2.1) (g := (mkF m 5 #[.val (.ref o), .val (.ref q), .val (.ref d), .val (.ref a)] [(.ref d)])) rfl rfl (hb hby d19_5) _ ?_
    rw [len_of Sd hN0]
    exact Steps.refl _
  have c5 : Steps p.tables e below S0 (T2.setTop (mkF m 7 #[.val (.ref o), .val (.ref q), .val (.ref d), .val (.ref a)] [(.ref a), (.int N)])) := by
    refine c4.trans ?_
    show Steps p.tables e below (T2.setTop (mkF m 6 #[.val (.ref o), .val (.ref q), .val (.ref d), .val (.ref a)] [(.int N)])) _
    refine XS.aloadN X2.here hx rfl (hb hby d19_6) rfl rfl ?_
    exact Steps.refl _
  have c6 : Steps p.tables e below S0 (T2.setTop (mkF m 8 #[.val (.ref o), .val (.ref q), .val (.ref d), .val (.ref a)] [(.int N), (.int N)])) := by
    refine c5.trans ?_
    show Steps p.tables e below (T2.setTop (mkF m 7 #[.val (.ref o), .val (.ref q), .val (.ref d), .val (.ref a)] [(.ref a), (.int N)])) _
    refine X2.arraylength hx (by rw [e2]; exact Ar.1) (State.isArrayOf_alike hZ.alike Ar.2.1) (g := (mkF m 7 #[.val (.ref o), .val (.ref q), .val (.ref d), .val (.ref a)] [(.ref a), (.int N)])) rfl rfl (hb hby d19_7) _ ?_
    rw [len_of Sa hN0]
    exact Steps.refl _
  have c7 : Steps p.tables e below S0 (T2.setTop (mkF m 28 #[.val (.ref o), .val (.ref q), .val (.ref d), .val (.ref a)] [])) := by
    refine c6.trans ?_
    show Steps p.tables e below (T2.setTop (mkF m 8 #[.val (.ref o), .val (.ref q), .val (.ref d), .val (.ref a)] [(.int N), (.int N)])) _
    refine XS.icmpYes X2.here hx rfl (pc0 := 8) (pc' := 28) rfl (hb hby d19_8) rfl (teq rfl).1 (by decide) (by decide) ?_
    exact Steps.refl _
  have c8 : Steps p.tables e below S0 (T2.setTop (mkF m 30 #[.val (.ref o), .val (.ref q), .val (.ref d), .val (.ref a)] [(.ref q), (.ref o)])) := by
    refine c7.trans ?_
    show Steps p.tables e below (T2.setTop (mkF m 28 #[.val (.ref o), .val (.ref q), .val (.ref d), .val (.ref a)] [])) _
    refine XS.aloadN X2.here hx rfl (hb hby d19_28) rfl rfl ?_
    show Steps p.tables e below (T2.setTop (mkF m 29 #[.val (.ref o), .val (.ref q), .val (.ref d), .val (.ref a)] [(.ref o)])) _
    refine XS.aloadN X2.here hx rfl (hb hby d19_29) rfl rfl ?_
    exact Steps.refl _
  obtain ⟨T9, h9, X9, e9, W9, st9⟩ := putF X2 hx hZ hown (host := "") (Or.inl (hw _ (List.mem_of_getElem? (i := 24) rfl))) Via.refl e2 Fq Eo (Or.inr ⟨(hw _ (List.mem_of_getElem? (i := 25) rfl)), rfl, hnm⟩) (hw _ (List.mem_of_getElem? (i := 8) rfl)) (ty := (.object "java/lang/String")) (by decide) rfl rfl (g := (mkF m 30 #[.val (.ref o), .val (.ref q), .val (.ref d), .val (.ref a)] [(.ref q), (.ref o)])) rfl rfl (hb hby d19_30)
  have c9 : Steps p.tables e below S0 (T9.setTop (mkF m 33 #[.val (.ref o), .val (.ref q), .val (.ref d), .val (.ref a)] [])) := by
    refine c8.trans ?_
    show Steps p.tables e below (T2.setTop (mkF m 30 #[.val (.ref o), .val (.ref q), .val (.ref d), .val (.ref a)] [(.ref q), (.ref o)])) _
    refine st9 _ ?_
    exact Steps.refl _
  have Na := Fr.snoc X9 N0 go
  have Fd1 := Fd.other W9 (Or.inr (slot_ne (Or.inr (hw _ (List.mem_of_getElem? (i := 27) rfl))) (Or.inr (hw _ (List.mem_of_getElem? (i := 25) rfl))) (by decide) (t := (.array .int)) (t' := (.object "java/lang/String")) (by decide) (by decide)))
  have Fs1 := Fs.other W9 (Or.inr (slot_ne (Or.inr (hw _ (List.mem_of_getElem? (i := 29) rfl))) (Or.inr (hw _ (List.mem_of_getElem? (i := 25) rfl))) (by decide) (t := (.array .double)) (t' := (.object "java/lang/String")) (by decide) (by decide)))
  have c10 : Steps p.tables e below S0 (T9.setTop (mkF m 35 #[.val (.ref o), .val (.ref q), .val (.ref d), .val (.ref a)] [(.ref d), (.ref o)])) := by
    refine c9.trans ?_
    show Steps p.tables e below (T9.setTop (mkF m 33 #[.val (.ref o), .val (.ref q), .val (.ref d), .val (.ref a)] [])) _
    refine XS.aloadN X9.here hx rfl (hb hby d19_33) rfl rfl ?_
    show Steps p.tables e below (T9.setTop (mkF m 34 #[.val (.ref o), .val (.ref q), .val (.ref d), .val (.ref a)] [(.ref o)])) _
    refine XS.aloadN X9.here hx rfl (hb hby d19_34) rfl rfl ?_
    exact Steps.refl _
  obtain ⟨T11, h11, X11, e11, W11, st11⟩ := putF X9 hx hZ hown (host := "") (Or.inl (hw _ (List.mem_of_getElem? (i := 26) rfl))) Via.refl e9 Fd1 (Eo.wr W9) (Or.inr ⟨(hw _ (List.mem_of_getElem? (i := 27) rfl)), rfl, hnm⟩) (hw _ (List.mem_of_getElem? (i := 8) rfl)) (ty := (.array .int)) (by decide) rfl rfl (g := (mkF m 35 #[.val (.ref o), .val (.ref q), .val (.ref d), .val (.ref a)] [(.ref d), (.ref o)])) rfl rfl (hb hby d19_35)
  have c11 : Steps p.tables e below S0 (T11.setTop (mkF m 38 #[.val (.ref o), .val (.ref q), .val (.ref d), .val (.ref a)] [])) := by
    refine c10.trans ?_
    show Steps p.tables e below (T9.setTop (mkF m 35 #[.val (.ref o), .val (.ref q), .val (.ref d), .val (.ref a)] [(.ref d), (.ref o)])) _
    refine st11 _ ?_
    exact Steps.refl _
  have Nb := Fr.snoc X11 Na go
  have Fs2 := Fs1.other W11 (Or.inr (slot_ne (Or.inr (hw _ (List.mem_of_getElem? (i := 29) rfl))) (Or.inr (hw _ (List.mem_of_getElem? (i := 27) rfl))) (by decide) (t := (.array .double)) (t' := (.array .int)) (by decide) (by decide)))
  have c12 : Steps p.tables e below S0 (T11.setTop (mkF m 40 #[.val (.ref o), .val (.ref q), .val (.ref d), .val (.ref a)] [(.ref a), (.ref o)])) := by
    refine c11.trans ?_
    show Steps p.tables e below (T11.setTop (mkF m 38 #[.val (.ref o), .val (.ref q), .val (.ref d), .val (.ref a)] [])) _
    refine XS.aloadN X11.here hx rfl (hb hby d19_38) rfl rfl ?_
    show Steps p.tables e below (T11.setTop (mkF m 39 #[.val (.ref o), .val (.ref q), .val (.ref d), .val (.ref a)] [(.ref o)])) _
    refine XS.aloadN X11.here hx rfl (hb hby d19_39) rfl rfl ?_
    exact Steps.refl _
  obtain ⟨T13, h13, X13, e13, W13, st13⟩ := putF X11 hx hZ hown (host := "") (Or.inl (hw _ (List.mem_of_getElem? (i := 28) rfl))) Via.refl e11 Fs2 ((Eo.wr W9).wr W11) (Or.inr ⟨(hw _ (List.mem_of_getElem? (i := 29) rfl)), rfl, hnm⟩) (hw _ (List.mem_of_getElem? (i := 8) rfl)) (ty := (.array .double)) (by decide) rfl rfl (g := (mkF m 40 #[.val (.ref o), .val (.ref q), .val (.ref d), .val (.ref a)] [(.ref a), (.ref o)])) rfl rfl (hb hby d19_40)
  have c13 : Steps p.tables e below S0 (T13.setTop (mkF m 43 #[.val (.ref o), .val (.ref q), .val (.ref d), .val (.ref a)] [])) := by
    refine c12.trans ?_
    show Steps p.tables e below (T11.setTop (mkF m 40 #[.val (.ref o), .val (.ref q), .val (.ref d), .val (.ref a)] [(.ref a), (.ref o)])) _
    refine st13 _ ?_
    exact Steps.refl _
  have Nc := Fr.snoc X13 Nb go
  obtain ⟨fs, hr, hrun, hended, hW, hsame⟩ := X13.leave (v := none) (fun _ => rfl)
  refine ⟨_, _, c13.trans ?_, hrun, hended, _, _, rfl, ?_, ⟨_, rfl⟩, hW, hsame.mono (by decide) (by decide)⟩
  · show Steps p.tables e below (T13.setTop (mkF m 43 #[.val (.ref o), .val (.ref q), .val (.ref d), .val (.ref a)] [])) _
    exact X13.returnOut hx Bd.returns (hb hby d19_43) hr
  · show Q19 Z o q d a cd cl N h0 n0 _ T13.heap _
    rw [e13]
    exact ⟨rfl, Nc, (((Keep.refl _ _).wr W9 (Or.inl (List.mem_of_getElem? (i := 0) rfl))).wr W11 (Or.inl (List.mem_of_getElem? (i := 0) rfl))).wr W13 (Or.inl (List.mem_of_getElem? (i := 0) rfl)), ((Eo.wr W9).wr W11).wr W13, Fs2.same W13⟩
def Q0 (Z : State) (i0 : Int32) (i1 : Int32) (h0 : Heap) (n0 : Nat) (v : Option Value) (h : Heap) (L : List Loc) : Prop := v = some (.int 1) ∧ Fr n0 L
theorem ef0 (m : MethodId) (i0 : Int32) (i1 : Int32) : entryFrame m #[(.int i0), (.int i1)] maxLocals = mkF m 0 #[.val (.int i0), .val (.int i1), .unset, .unset, .unset, .unset, .unset, .unset, .unset, .unset, .unset, .unset, .unset, .unset, .unset, .unset, .unset, .unset, .unset, .unset, .unset] [] := by first | (simp [entryFrame, mkF, argsToLocals, Value.category, maxLocals]; done) | rfl
set_option maxRecDepth 65536 in
set_option maxHeartbeats 40000000 in
theorem rm0 (l : Launch) (Z : State) (a0 : Array Value) (hw : ∀ d ∈ tables_1, d.before a0 Z = true) (ws : List Jvm.Cond) (i0 : Int32) (i1 : Int32) (h0 : Heap) (n0 : Nat) (Z0 : n0 ≤ h0.size)  :
    MetFree l x (head1 (Jvm.Cond.code x code maxLocals ret :: ws) room_1) (fun aa UU => aa = #[(.int i0), (.int i1)] ∧ Z.Warmed39 UU.vm ∧ UU.heap = h0) (fun _ _ _ _ _ => True) (fun _ UU oo UT => ∃ vv LL, oo = .returned vv ∧ Q0 Z i0 i1 h0 n0 vv UT.heap LL ∧ ReturnedEndW UU oo UT LL 24 1152) := by
  refine MetFree.of_bodySF (plainFor_of_name pn0) hisR ?_
  intro p e s m args below meth c s₁ Bd hml0 hP hK
  obtain ⟨rfl, hZ, hh⟩ := hP
  have hx := Bd.exec
  have hby := Bd.bytes
  have hml : c.maxLocals = 21 := hml0
  have hown : s.vm.findClass "com/example/canvass/canvass/core/RankingEndOfTiePinLaw" = some m.cls := findClass_of_methodNamed Bd.named
  have hnm := (name_of_methodNamed Bd.named Bd.method).1
  have X0 : Stand p l e room_1 s m #[(.int i0), (.int i1)] below meth c s₁ [] 0 0 := Stand.of_body Bd
  have e0 : s₁.heap = h0 := by rw [← hh, Bd.state]; rfl
  have N0 := Fr.nil n0
  have c0 : Steps p.tables e below (s₁.setTop (entryFrame m #[(.int i0), (.int i1)] maxLocals)) (s₁.setTop (mkF m 0 #[.val (.int i0), .val (.int i1), .unset, .unset, .unset, .unset, .unset, .unset, .unset, .unset, .unset, .unset, .unset, .unset, .unset, .unset, .unset, .unset, .unset, .unset, .unset] [])) := castTop (ef0 m i0 i1) (Steps.refl _)
  show ∃ s₂ oo, Steps p.tables e below (s₁.setTop (entryFrame m #[(.int i0), (.int i1)] maxLocals)) s₂ ∧ _ ∧ _ ∧ _
  generalize s₁.setTop (entryFrame m #[(.int i0), (.int i1)] maxLocals) = S0 at c0 ⊢
  obtain ⟨V0, hV0⟩ : ∃ V, V = s.vm := ⟨_, rfl⟩
  have Xs : Stand p l e room_1 (s.setVm V0) m #[(.int i0), (.int i1)] below meth c s₁ [] 0 0 := by subst hV0; exact X0
  have hS : s.Since V0 h0.size := by subst hV0; exact (State.WarmedH.refl s).since _
  replace hZ : Z.Warmed39 (s.setVm V0).vm := by subst hV0; exact hZ
  replace hown : (s.setVm V0).vm.findClass "com/example/canvass/canvass/core/RankingEndOfTiePinLaw" = some m.cls := by subst hV0; exact hown
  have hk : h0.size ≤ h0.size := Nat.le_refl _
  have Zh := Z0
  have hn4 := own_n i1
  have c1 : Steps p.tables e below S0 (s₁.setTop (mkF m 5 #[.val (.int i0), .val (.int i1), .unset, .unset, .unset, .unset, .unset, .unset, .unset, .unset, .unset, .unset, .unset, .unset, .unset, .unset, .unset, .unset, .unset, .unset, .unset] [(.int ((1 : Int32) + (i1 &&& (3 : Int32))))])) := by
    refine c0.trans ?_
    show Steps p.tables e below (s₁.setTop (mkF m 0 #[.val (.int i0), .val (.int i1), .unset, .unset, .unset, .unset, .unset, .unset, .unset, .unset, .unset, .unset, .unset, .unset, .unset, .unset, .unset, .unset, .unset, .unset, .unset] [])) _
    refine XS.iconst Xs.here hx rfl (hb hby at_0) ?_
    show Steps p.tables e below (s₁.setTop (mkF m 1 #[.val (.int i0), .val (.int i1), .unset, .unset, .unset, .unset, .unset, .unset, .unset, .unset, .unset, .unset, .unset, .unset, .unset, .unset, .unset, .unset, .unset, .unset, .unset] [(.int (1 : Int32))])) _
    refine XS.iloadN Xs.here hx rfl (hb hby at_1) rfl ?_
    show Steps p.tables e below (s₁.setTop (mkF m 2 #[.val (.int i0), .val (.int i1), .unset, .unset, .unset, .unset, .unset, .unset, .unset, .unset, .unset, .unset, .unset, .unset, .unset, .unset, .unset, .unset, .unset, .unset, .unset] [(.int i1), (.int (1 : Int32))])) _
    refine XS.iconst Xs.here hx rfl (hb hby at_2) ?_
    show Steps p.tables e below (s₁.setTop (mkF m 3 #[.val (.int i0), .val (.int i1), .unset, .unset, .unset, .unset, .unset, .unset, .unset, .unset, .unset, .unset, .unset, .unset, .unset, .unset, .unset, .unset, .unset, .unset, .unset] [(.int (3 : Int32)), (.int i1), (.int (1 : Int32))])) _
    refine XS.iand Xs.here hx rfl (hb hby at_3) rfl ?_
    show Steps p.tables e below (s₁.setTop (mkF m 4 #[.val (.int i0), .val (.int i1), .unset, .unset, .unset, .unset, .unset, .unset, .unset, .unset, .unset, .unset, .unset, .unset, .unset, .unset, .unset, .unset, .unset, .unset, .unset] [(.int (i1 &&& (3 : Int32))), (.int (1 : Int32))])) _
    refine XS.iadd Xs.here hx rfl (hb hby at_4) rfl ?_
    exact Steps.refl _
  obtain ⟨N, hN⟩ : ∃ z, z = ((1 : Int32) + (i1 &&& (3 : Int32))) := ⟨_, rfl⟩
  rw [← hN] at hn4 c1
  have hNz : N ≠ 0 := own_Nz hn4
  have c2 : Steps p.tables e below S0 (s₁.setTop (mkF m 14 #[.val (.int i0), .val (.int i1), .val (.int N), .unset, .unset, .unset, .unset, .unset, .unset, .unset, .unset, .unset, .unset, .unset, .unset, .unset, .unset, .unset, .unset, .unset, .unset] [(.int ((((i1.toUInt32 >>> ((2 : Int32) &&& 31).toUInt32).toInt32) &&& (2147483647 : Int32)) - (((i1.toUInt32 >>> ((2 : Int32) &&& 31).toUInt32).toInt32) &&& (2147483647 : Int32)) / N * N))])) := by
    refine c1.trans ?_
    show Steps p.tables e below (s₁.setTop (mkF m 5 #[.val (.int i0), .val (.int i1), .unset, .unset, .unset, .unset, .unset, .unset, .unset, .unset, .unset, .unset, .unset, .unset, .unset, .unset, .unset, .unset, .unset, .unset, .unset] [(.int N)])) _
    refine XS.istoreN Xs.here hx rfl (hb hby at_5) rfl (l' := #[.val (.int i0), .val (.int i1), .val (.int N), .unset, .unset, .unset, .unset, .unset, .unset, .unset, .unset, .unset, .unset, .unset, .unset, .unset, .unset, .unset, .unset, .unset, .unset]) rfl ?_
    show Steps p.tables e below (s₁.setTop (mkF m 6 #[.val (.int i0), .val (.int i1), .val (.int N), .unset, .unset, .unset, .unset, .unset, .unset, .unset, .unset, .unset, .unset, .unset, .unset, .unset, .unset, .unset, .unset, .unset, .unset] [])) _
    refine XS.iloadN Xs.here hx rfl (hb hby at_6) rfl ?_
    show Steps p.tables e below (s₁.setTop (mkF m 7 #[.val (.int i0), .val (.int i1), .val (.int N), .unset, .unset, .unset, .unset, .unset, .unset, .unset, .unset, .unset, .unset, .unset, .unset, .unset, .unset, .unset, .unset, .unset, .unset] [(.int i1)])) _
    refine XS.iconst Xs.here hx rfl (hb hby at_7) ?_
    show Steps p.tables e below (s₁.setTop (mkF m 8 #[.val (.int i0), .val (.int i1), .val (.int N), .unset, .unset, .unset, .unset, .unset, .unset, .unset, .unset, .unset, .unset, .unset, .unset, .unset, .unset, .unset, .unset, .unset, .unset] [(.int (2 : Int32)), (.int i1)])) _
    refine XS.iushr Xs.here hx rfl (hb hby at_8) rfl ?_
    show Steps p.tables e below (s₁.setTop (mkF m 9 #[.val (.int i0), .val (.int i1), .val (.int N), .unset, .unset, .unset, .unset, .unset, .unset, .unset, .unset, .unset, .unset, .unset, .unset, .unset, .unset, .unset, .unset, .unset, .unset] [(.int ((i1.toUInt32 >>> ((2 : Int32) &&& 31).toUInt32).toInt32))])) _
    refine Xs.ldcInt hx hown (mvT hZ (hw _ (List.mem_of_getElem? (i := 0) rfl))) (g := (mkF m 9 #[.val (.int i0), .val (.int i1), .val (.int N), .unset, .unset, .unset, .unset, .unset, .unset, .unset, .unset, .unset, .unset, .unset, .unset, .unset, .unset, .unset, .unset, .unset, .unset] [(.int ((i1.toUInt32 >>> ((2 : Int32) &&& 31).toUInt32).toInt32))])) rfl (hb hby at_9) _ ?_
    show Steps p.tables e below (s₁.setTop (mkF m 11 #[.val (.int i0), .val (.int i1), .val (.int N), .unset, .unset, .unset, .unset, .unset, .unset, .unset, .unset, .unset, .unset, .unset, .unset, .unset, .unset, .unset, .unset, .unset, .unset] [(.int (2147483647 : Int32)), (.int ((i1.toUInt32 >>> ((2 : Int32) &&& 31).toUInt32).toInt32))])) _
    refine XS.iand Xs.here hx rfl (hb hby at_11) rfl ?_
    show Steps p.tables e below (s₁.setTop (mkF m 12 #[.val (.int i0), .val (.int i1), .val (.int N), .unset, .unset, .unset, .unset, .unset, .unset, .unset, .unset, .unset, .unset, .unset, .unset, .unset, .unset, .unset, .unset, .unset, .unset] [(.int (((i1.toUInt32 >>> ((2 : Int32) &&& 31).toUInt32).toInt32) &&& (2147483647 : Int32)))])) _
    refine XS.iloadN Xs.here hx rfl (hb hby at_12) rfl ?_
    show Steps p.tables e below (s₁.setTop (mkF m 13 #[.val (.int i0), .val (.int i1), .val (.int N), .unset, .unset, .unset, .unset, .unset, .unset, .unset, .unset, .unset, .unset, .unset, .unset, .unset, .unset, .unset, .unset, .unset, .unset] [(.int N), (.int (((i1.toUInt32 >>> ((2 : Int32) &&& 31).toUInt32).toInt32) &&& (2147483647 : Int32)))])) _
    refine XS.irem Xs.here hx rfl (hb hby at_13) rfl hNz ?_
    exact Steps.refl _
  obtain ⟨f, hf⟩ : ∃ z, z = ((((i1.toUInt32 >>> ((2 : Int32) &&& 31).toUInt32).toInt32) &&& (2147483647 : Int32)) - (((i1.toUInt32 >>> ((2 : Int32) &&& 31).toUInt32).toInt32) &&& (2147483647 : Int32)) / N * N) := ⟨_, rfl⟩
  rw [← hf] at c2
  obtain ⟨hf0, hfN⟩ := own_rank hn4 hf
  have c3 : Steps p.tables e below S0 (s₁.setTop (mkF m 53 #[.val (.int i0), .val (.int i1), .val (.int N), .val (.int f), .val (.int ((i0 &&& (7 : Int32)) - (3 : Int32))), .val (.int (((i0 &&& (7 : Int32)) - (3 : Int32)) - (((i0.toUInt32 >>> ((3 : Int32) &&& 31).toUInt32).toInt32) &&& (1 : Int32)))), .val (.int ((((i0 &&& (7 : Int32)) - (3 : Int32)) - (((i0.toUInt32 >>> ((3 : Int32) &&& 31).toUInt32).toInt32) &&& (1 : Int32))) - (((i0.toUInt32 >>> ((4 : Int32) &&& 31).toUInt32).toInt32) &&& (1 : Int32)))), .val (.int (((((i0 &&& (7 : Int32)) - (3 : Int32)) - (((i0.toUInt32 >>> ((3 : Int32) &&& 31).toUInt32).toInt32) &&& (1 : Int32))) - (((i0.toUInt32 >>> ((4 : Int32) &&& 31).toUInt32).toInt32) &&& (1 : Int32))) - (((i0.toUInt32 >>> ((5 : Int32) &&& 31).toUInt32).toInt32) &&& (1 : Int32)))), .unset, .unset, .unset, .unset, .unset, .unset, .unset, .unset, .unset, .unset, .unset, .unset, .unset] [])) := by
    refine c2.trans ?_
    show Steps p.tables e below (s₁.setTop (mkF m 14 #[.val (.int i0), .val (.int i1), .val (.int N), .unset, .unset, .unset, .unset, .unset, .unset, .unset, .unset, .unset, .unset, .unset, .unset, .unset, .unset, .unset, .unset, .unset, .unset] [(.int f)])) _
    refine XS.istoreN Xs.here hx rfl (hb hby at_14) rfl (l' := #[.val (.int i0), .val (.int i1), .val (.int N), .val (.int f), .unset, .unset, .unset, .unset, .unset, .unset, .unset, .unset, .unset, .unset, .unset, .unset, .unset, .unset, .unset, .unset, .unset]) rfl ?_
    show Steps p.tables e below (s₁.setTop (mkF m 15 #[.val (.int i0), .val (.int i1), .val (.int N), .val (.int f), .unset, .unset, .unset, .unset, .unset, .unset, .unset, .unset, .unset, .unset, .unset, .unset, .unset, .unset, .unset, .unset, .unset] [])) _
    refine XS.iloadN Xs.here hx rfl (hb hby at_15) rfl ?_
    show Steps p.tables e below (s₁.setTop (mkF m 16 #[.val (.int i0), .val (.int i1), .val (.int N), .val (.int f), .unset, .unset, .unset, .unset, .unset, .unset, .unset, .unset, .unset, .unset, .unset, .unset, .unset, .unset, .unset, .unset, .unset] [(.int i0)])) _
    refine XS.bipush Xs.here hx rfl (hb hby at_16) ?_
    show Steps p.tables e below (s₁.setTop (mkF m 18 #[.val (.int i0), .val (.int i1), .val (.int N), .val (.int f), .unset, .unset, .unset, .unset, .unset, .unset, .unset, .unset, .unset, .unset, .unset, .unset, .unset, .unset, .unset, .unset, .unset] [(.int (7 : Int32)), (.int i0)])) _
    refine XS.iand Xs.here hx rfl (hb hby at_18) rfl ?_
    show Steps p.tables e below (s₁.setTop (mkF m 19 #[.val (.int i0), .val (.int i1), .val (.int N), .val (.int f), .unset, .unset, .unset, .unset, .unset, .unset, .unset, .unset, .unset, .unset, .unset, .unset, .unset, .unset, .unset, .unset, .unset] [(.int (i0 &&& (7 : Int32)))])) _
    refine XS.iconst Xs.here hx rfl (hb hby at_19) ?_
    show Steps p.tables e below (s₁.setTop (mkF m 20 #[.val (.int i0), .val (.int i1), .val (.int N), .val (.int f), .unset, .unset, .unset, .unset, .unset, .unset, .unset, .unset, .unset, .unset, .unset, .unset, .unset, .unset, .unset, .unset, .unset] [(.int (3 : Int32)), (.int (i0 &&& (7 : Int32)))])) _
    refine XS.isub Xs.here hx rfl (hb hby at_20) rfl ?_
    show Steps p.tables e below (s₁.setTop (mkF m 21 #[.val (.int i0), .val (.int i1), .val (.int N), .val (.int f), .unset, .unset, .unset, .unset, .unset, .unset, .unset, .unset, .unset, .unset, .unset, .unset, .unset, .unset, .unset, .unset, .unset] [(.int ((i0 &&& (7 : Int32)) - (3 : Int32)))])) _
    refine XS.istore Xs.here hx rfl (hb hby at_21) rfl (l' := #[.val (.int i0), .val (.int i1), .val (.int N), .val (.int f), .val (.int ((i0 &&& (7 : Int32)) - (3 : Int32))), .unset, .unset, .unset, .unset, .unset, .unset, .unset, .unset, .unset, .unset, .unset, .unset, .unset, .unset, .unset, .unset]) rfl ?_
    show Steps p.tables e below (s₁.setTop (mkF m 23 #[.val (.int i0), .val (.int i1), .val (.int N), .val (.int f), .val (.int ((i0 &&& (7 : Int32)) - (3 : Int32))), .unset, .unset, .unset, .unset, .unset, .unset, .unset, .unset, .unset, .unset, .unset, .unset, .unset, .unset, .unset, .unset] [])) _
    refine XS.iload Xs.here hx rfl (hb hby at_23) rfl ?_
    show Steps p.tables e below (s₁.setTop (mkF m 25 #[.val (.int i0), .val (.int i1), .val (.int N), .val (.int f), .val (.int ((i0 &&& (7 : Int32)) - (3 : Int32))), .unset, .unset, .unset, .unset, .unset, .unset, .unset, .unset, .unset, .unset, .unset, .unset, .unset, .unset, .unset, .unset] [(.int ((i0 &&& (7 : Int32)) - (3 : Int32)))])) _
    refine XS.iloadN Xs.here hx rfl (hb hby at_25) rfl ?_
    show Steps p.tables e below (s₁.setTop (mkF m 26 #[.val (.int i0), .val (.int i1), .val (.int N), .val (.int f), .val (.int ((i0 &&& (7 : Int32)) - (3 : Int32))), .unset, .unset, .unset, .unset, .unset, .unset, .unset, .unset, .unset, .unset, .unset, .unset, .unset, .unset, .unset, .unset] [(.int i0), (.int ((i0 &&& (7 : Int32)) - (3 : Int32)))])) _
    refine XS.iconst Xs.here hx rfl (hb hby at_26) ?_
    show Steps p.tables e below (s₁.setTop (mkF m 27 #[.val (.int i0), .val (.int i1), .val (.int N), .val (.int f), .val (.int ((i0 &&& (7 : Int32)) - (3 : Int32))), .unset, .unset, .unset, .unset, .unset, .unset, .unset, .unset, .unset, .unset, .unset, .unset, .unset, .unset, .unset, .unset] [(.int (3 : Int32)), (.int i0), (.int ((i0 &&& (7 : Int32)) - (3 : Int32)))])) _
    refine XS.iushr Xs.here hx rfl (hb hby at_27) rfl ?_
    show Steps p.tables e below (s₁.setTop (mkF m 28 #[.val (.int i0), .val (.int i1), .val (.int N), .val (.int f), .val (.int ((i0 &&& (7 : Int32)) - (3 : Int32))), .unset, .unset, .unset, .unset, .unset, .unset, .unset, .unset, .unset, .unset, .unset, .unset, .unset, .unset, .unset, .unset] [(.int ((i0.toUInt32 >>> ((3 : Int32) &&& 31).toUInt32).toInt32)), (.int ((i0 &&& (7 : Int32)) - (3 : Int32)))])) _
    refine XS.iconst Xs.here hx rfl (hb hby at_28) ?_
    show Steps p.tables e below (s₁.setTop (mkF m 29 #[.val (.int i0), .val (.int i1), .val (.int N), .val (.int f), .val (.int ((i0 &&& (7 : Int32)) - (3 : Int32))), .unset, .unset, .unset, .unset, .unset, .unset, .unset, .unset, .unset, .unset, .unset, .unset, .unset, .unset, .unset, .unset] [(.int (1 : Int32)), (.int ((i0.toUInt32 >>> ((3 : Int32) &&& 31).toUInt32).toInt32)), (.int ((i0 &&& (7 : Int32)) - (3 : Int32)))])) _
    refine XS.iand Xs.here hx rfl (hb hby at_29) rfl ?_
    show Steps p.tables e below (s₁.setTop (mkF m 30 #[.val (.int i0), .val (.int i1), .val (.int N), .val (.int f), .val (.int ((i0 &&& (7 : Int32)) - (3 : Int32))), .unset, .unset, .unset, .unset, .unset, .unset, .unset, .unset, .unset, .unset, .unset, .unset, .unset, .unset, .unset, .unset] [(.int (((i0.toUInt32 >>> ((3 : Int32) &&& 31).toUInt32).toInt32) &&& (1 : Int32))), (.int ((i0 &&& (7 : Int32)) - (3 : Int32)))])) _
    refine XS.isub Xs.here hx rfl (hb hby at_30) rfl ?_
    show Steps p.tables e below (s₁.setTop (mkF m 31 #[.val (.int i0), .val (.int i1), .val (.int N), .val (.int f), .val (.int ((i0 &&& (7 : Int32)) - (3 : Int32))), .unset, .unset, .unset, .unset, .unset, .unset, .unset, .unset, .unset, .unset, .unset, .unset, .unset, .unset, .unset, .unset] [(.int (((i0 &&& (7 : Int32)) - (3 : Int32)) - (((i0.toUInt32 >>> ((3 : Int32) &&& 31).toUInt32).toInt32) &&& (1 : Int32))))])) _
    refine XS.istore Xs.here hx rfl (hb hby at_31) rfl (l' := #[.val (.int i0), .val (.int i1), .val (.int N), .val (.int f), .val (.int ((i0 &&& (7 : Int32)) - (3 : Int32))), .val (.int (((i0 &&& (7 : Int32)) - (3 : Int32)) - (((i0.toUInt32 >>> ((3 : Int32) &&& 31).toUInt32).toInt32) &&& (1 : Int32)))), .unset, .unset, .unset, .unset, .unset, .unset, .unset, .unset, .unset, .unset, .unset, .unset, .unset, .unset, .unset]) rfl ?_
    show Steps p.tables e below (s₁.setTop (mkF m 33 #[.val (.int i0), .val (.int i1), .val (.int N), .val (.int f), .val (.int ((i0 &&& (7 : Int32)) - (3 : Int32))), .val (.int (((i0 &&& (7 : Int32)) - (3 : Int32)) - (((i0.toUInt32 >>> ((3 : Int32) &&& 31).toUInt32).toInt32) &&& (1 : Int32)))), .unset, .unset, .unset, .unset, .unset, .unset, .unset, .unset, .unset, .unset, .unset, .unset, .unset, .unset, .unset] [])) _
    refine XS.iload Xs.here hx rfl (hb hby at_33) rfl ?_
    show Steps p.tables e below (s₁.setTop (mkF m 35 #[.val (.int i0), .val (.int i1), .val (.int N), .val (.int f), .val (.int ((i0 &&& (7 : Int32)) - (3 : Int32))), .val (.int (((i0 &&& (7 : Int32)) - (3 : Int32)) - (((i0.toUInt32 >>> ((3 : Int32) &&& 31).toUInt32).toInt32) &&& (1 : Int32)))), .unset, .unset, .unset, .unset, .unset, .unset, .unset, .unset, .unset, .unset, .unset, .unset, .unset, .unset, .unset] [(.int (((i0 &&& (7 : Int32)) - (3 : Int32)) - (((i0.toUInt32 >>> ((3 : Int32) &&& 31).toUInt32).toInt32) &&& (1 : Int32))))])) _
    refine XS.iloadN Xs.here hx rfl (hb hby at_35) rfl ?_
    show Steps p.tables e below (s₁.setTop (mkF m 36 #[.val (.int i0), .val (.int i1), .val (.int N), .val (.int f), .val (.int ((i0 &&& (7 : Int32)) - (3 : Int32))), .val (.int (((i0 &&& (7 : Int32)) - (3 : Int32)) - (((i0.toUInt32 >>> ((3 : Int32) &&& 31).toUInt32).toInt32) &&& (1 : Int32)))), .unset, .unset, .unset, .unset, .unset, .unset, .unset, .unset, .unset, .unset, .unset, .unset, .unset, .unset, .unset] [(.int i0), (.int (((i0 &&& (7 : Int32)) - (3 : Int32)) - (((i0.toUInt32 >>> ((3 : Int32) &&& 31).toUInt32).toInt32) &&& (1 : Int32))))])) _
    refine XS.iconst Xs.here hx rfl (hb hby at_36) ?_
    show Steps p.tables e below (s₁.setTop (mkF m 37 #[.val (.int i0), .val (.int i1), .val (.int N), .val (.int f), .val (.int ((i0 &&& (7 : Int32)) - (3 : Int32))), .val (.int (((i0 &&& (7 : Int32)) - (3 : Int32)) - (((i0.toUInt32 >>> ((3 : Int32) &&& 31).toUInt32).toInt32) &&& (1 : Int32)))), .unset, .unset, .unset, .unset, .unset, .unset, .unset, .unset, .unset, .unset, .unset, .unset, .unset, .unset, .unset] [(.int (4 : Int32)), (.int i0), (.int (((i0 &&& (7 : Int32)) - (3 : Int32)) - (((i0.toUInt32 >>> ((3 : Int32) &&& 31).toUInt32).toInt32) &&& (1 : Int32))))])) _
    refine XS.iushr Xs.here hx rfl (hb hby at_37) rfl ?_
    show Steps p.tables e below (s₁.setTop (mkF m 38 #[.val (.int i0), .val (.int i1), .val (.int N), .val (.int f), .val (.int ((i0 &&& (7 : Int32)) - (3 : Int32))), .val (.int (((i0 &&& (7 : Int32)) - (3 : Int32)) - (((i0.toUInt32 >>> ((3 : Int32) &&& 31).toUInt32).toInt32) &&& (1 : Int32)))), .unset, .unset, .unset, .unset, .unset, .unset, .unset, .unset, .unset, .unset, .unset, .unset, .unset, .unset, .unset] [(.int ((i0.toUInt32 >>> ((4 : Int32) &&& 31).toUInt32).toInt32)), (.int (((i0 &&& (7 : Int32)) - (3 : Int32)) - (((i0.toUInt32 >>> ((3 : Int32) &&& 31).toUInt32).toInt32) &&& (1 : Int32))))])) _
    refine XS.iconst Xs.here hx rfl (hb hby at_38) ?_
    show Steps p.tables e below (s₁.setTop (mkF m 39 #[.val (.int i0), .val (.int i1), .val (.int N), .val (.int f), .val (.int ((i0 &&& (7 : Int32)) - (3 : Int32))), .val (.int (((i0 &&& (7 : Int32)) - (3 : Int32)) - (((i0.toUInt32 >>> ((3 : Int32) &&& 31).toUInt32).toInt32) &&& (1 : Int32)))), .unset, .unset, .unset, .unset, .unset, .unset, .unset, .unset, .unset, .unset, .unset, .unset, .unset, .unset, .unset] [(.int (1 : Int32)), (.int ((i0.toUInt32 >>> ((4 : Int32) &&& 31).toUInt32).toInt32)), (.int (((i0 &&& (7 : Int32)) - (3 : Int32)) - (((i0.toUInt32 >>> ((3 : Int32) &&& 31).toUInt32).toInt32) &&& (1 : Int32))))])) _
    refine XS.iand Xs.here hx rfl (hb hby at_39) rfl ?_
    show Steps p.tables e below (s₁.setTop (mkF m 40 #[.val (.int i0), .val (.int i1), .val (.int N), .val (.int f), .val (.int ((i0 &&& (7 : Int32)) - (3 : Int32))), .val (.int (((i0 &&& (7 : Int32)) - (3 : Int32)) - (((i0.toUInt32 >>> ((3 : Int32) &&& 31).toUInt32).toInt32) &&& (1 : Int32)))), .unset, .unset, .unset, .unset, .unset, .unset, .unset, .unset, .unset, .unset, .unset, .unset, .unset, .unset, .unset] [(.int (((i0.toUInt32 >>> ((4 : Int32) &&& 31).toUInt32).toInt32) &&& (1 : Int32))), (.int (((i0 &&& (7 : Int32)) - (3 : Int32)) - (((i0.toUInt32 >>> ((3 : Int32) &&& 31).toUInt32).toInt32) &&& (1 : Int32))))])) _
    refine XS.isub Xs.here hx rfl (hb hby at_40) rfl ?_
    show Steps p.tables e below (s₁.setTop (mkF m 41 #[.val (.int i0), .val (.int i1), .val (.int N), .val (.int f), .val (.int ((i0 &&& (7 : Int32)) - (3 : Int32))), .val (.int (((i0 &&& (7 : Int32)) - (3 : Int32)) - (((i0.toUInt32 >>> ((3 : Int32) &&& 31).toUInt32).toInt32) &&& (1 : Int32)))), .unset, .unset, .unset, .unset, .unset, .unset, .unset, .unset, .unset, .unset, .unset, .unset, .unset, .unset, .unset] [(.int ((((i0 &&& (7 : Int32)) - (3 : Int32)) - (((i0.toUInt32 >>> ((3 : Int32) &&& 31).toUInt32).toInt32) &&& (1 : Int32))) - (((i0.toUInt32 >>> ((4 : Int32) &&& 31).toUInt32).toInt32) &&& (1 : Int32))))])) _
    refine XS.istore Xs.here hx rfl (hb hby at_41) rfl (l' := #[.val (.int i0), .val (.int i1), .val (.int N), .val (.int f), .val (.int ((i0 &&& (7 : Int32)) - (3 : Int32))), .val (.int (((i0 &&& (7 : Int32)) - (3 : Int32)) - (((i0.toUInt32 >>> ((3 : Int32) &&& 31).toUInt32).toInt32) &&& (1 : Int32)))), .val (.int ((((i0 &&& (7 : Int32)) - (3 : Int32)) - (((i0.toUInt32 >>> ((3 : Int32) &&& 31).toUInt32).toInt32) &&& (1 : Int32))) - (((i0.toUInt32 >>> ((4 : Int32) &&& 31).toUInt32).toInt32) &&& (1 : Int32)))), .unset, .unset, .unset, .unset, .unset, .unset, .unset, .unset, .unset, .unset, .unset, .unset, .unset, .unset]) rfl ?_
    show Steps p.tables e below (s₁.setTop (mkF m 43 #[.val (.int i0), .val (.int i1), .val (.int N), .val (.int f), .val (.int ((i0 &&& (7 : Int32)) - (3 : Int32))), .val (.int (((i0 &&& (7 : Int32)) - (3 : Int32)) - (((i0.toUInt32 >>> ((3 : Int32) &&& 31).toUInt32).toInt32) &&& (1 : Int32)))), .val (.int ((((i0 &&& (7 : Int32)) - (3 : Int32)) - (((i0.toUInt32 >>> ((3 : Int32) &&& 31).toUInt32).toInt32) &&& (1 : Int32))) - (((i0.toUInt32 >>> ((4 : Int32) &&& 31).toUInt32).toInt32) &&& (1 : Int32)))), .unset, .unset, .unset, .unset, .unset, .unset, .unset, .unset, .unset, .unset, .unset, .unset, .unset, .unset] [])) _
    refine XS.iload Xs.here hx rfl (hb hby at_43) rfl ?_
    show Steps p.tables e below (s₁.setTop (mkF m 45 #[.val (.int i0), .val (.int i1), .val (.int N), .val (.int f), .val (.int ((i0 &&& (7 : Int32)) - (3 : Int32))), .val (.int (((i0 &&& (7 : Int32)) - (3 : Int32)) - (((i0.toUInt32 >>> ((3 : Int32) &&& 31).toUInt32).toInt32) &&& (1 : Int32)))), .val (.int ((((i0 &&& (7 : Int32)) - (3 : Int32)) - (((i0.toUInt32 >>> ((3 : Int32) &&& 31).toUInt32).toInt32) &&& (1 : Int32))) - (((i0.toUInt32 >>> ((4 : Int32) &&& 31).toUInt32).toInt32) &&& (1 : Int32)))), .unset, .unset, .unset, .unset, .unset, .unset, .unset, .unset, .unset, .unset, .unset, .unset, .unset, .unset] [(.int ((((i0 &&& (7 : Int32)) - (3 : Int32)) - (((i0.toUInt32 >>> ((3 : Int32) &&& 31).toUInt32).toInt32) &&& (1 : Int32))) - (((i0.toUInt32 >>> ((4 : Int32) &&& 31).toUInt32).toInt32) &&& (1 : Int32))))])) _
    refine XS.iloadN Xs.here hx rfl (hb hby at_45) rfl ?_
    show Steps p.tables e below (s₁.setTop (mkF m 46 #[.val (.int i0), .val (.int i1), .val (.int N), .val (.int f), .val (.int ((i0 &&& (7 : Int32)) - (3 : Int32))), .val (.int (((i0 &&& (7 : Int32)) - (3 : Int32)) - (((i0.toUInt32 >>> ((3 : Int32) &&& 31).toUInt32).toInt32) &&& (1 : Int32)))), .val (.int ((((i0 &&& (7 : Int32)) - (3 : Int32)) - (((i0.toUInt32 >>> ((3 : Int32) &&& 31).toUInt32).toInt32) &&& (1 : Int32))) - (((i0.toUInt32 >>> ((4 : Int32) &&& 31).toUInt32).toInt32) &&& (1 : Int32)))), .unset, .unset, .unset, .unset, .unset, .unset, .unset, .unset, .unset, .unset, .unset, .unset, .unset, .unset] [(.int i0), (.int ((((i0 &&& (7 : Int32)) - (3 : Int32)) - (((i0.toUInt32 >>> ((3 : Int32) &&& 31).toUInt32).toInt32) &&& (1 : Int32))) - (((i0.toUInt32 >>> ((4 : Int32) &&& 31).toUInt32).toInt32) &&& (1 : Int32))))])) _
    refine XS.iconst Xs.here hx rfl (hb hby at_46) ?_
    show Steps p.tables e below (s₁.setTop (mkF m 47 #[.val (.int i0), .val (.int i1), .val (.int N), .val (.int f), .val (.int ((i0 &&& (7 : Int32)) - (3 : Int32))), .val (.int (((i0 &&& (7 : Int32)) - (3 : Int32)) - (((i0.toUInt32 >>> ((3 : Int32) &&& 31).toUInt32).toInt32) &&& (1 : Int32)))), .val (.int ((((i0 &&& (7 : Int32)) - (3 : Int32)) - (((i0.toUInt32 >>> ((3 : Int32) &&& 31).toUInt32).toInt32) &&& (1 : Int32))) - (((i0.toUInt32 >>> ((4 : Int32) &&& 31).toUInt32).toInt32) &&& (1 : Int32)))), .unset, .unset, .unset, .unset, .unset, .unset, .unset, .unset, .unset, .unset, .unset, .unset, .unset, .unset] [(.int (5 : Int32)), (.int i0), (.int ((((i0 &&& (7 : Int32)) - (3 : Int32)) - (((i0.toUInt32 >>> ((3 : Int32) &&& 31).toUInt32).toInt32) &&& (1 : Int32))) - (((i0.toUInt32 >>> ((4 : Int32) &&& 31).toUInt32).toInt32) &&& (1 : Int32))))])) _
    refine XS.iushr Xs.here hx rfl (hb hby at_47) rfl ?_
    show Steps p.tables e below (s₁.setTop (mkF m 48 #[.val (.int i0), .val (.int i1), .val (.int N), .val (.int f), .val (.int ((i0 &&& (7 : Int32)) - (3 : Int32))), .val (.int (((i0 &&& (7 : Int32)) - (3 : Int32)) - (((i0.toUInt32 >>> ((3 : Int32) &&& 31).toUInt32).toInt32) &&& (1 : Int32)))), .val (.int ((((i0 &&& (7 : Int32)) - (3 : Int32)) - (((i0.toUInt32 >>> ((3 : Int32) &&& 31).toUInt32).toInt32) &&& (1 : Int32))) - (((i0.toUInt32 >>> ((4 : Int32) &&& 31).toUInt32).toInt32) &&& (1 : Int32)))), .unset, .unset, .unset, .unset, .unset, .unset, .unset, .unset, .unset, .unset, .unset, .unset, .unset, .unset] [(.int ((i0.toUInt32 >>> ((5 : Int32) &&& 31).toUInt32).toInt32)), (.int ((((i0 &&& (7 : Int32)) - (3 : Int32)) - (((i0.toUInt32 >>> ((3 : Int32) &&& 31).toUInt32).toInt32) &&& (1 : Int32))) - (((i0.toUInt32 >>> ((4 : Int32) &&& 31).toUInt32).toInt32) &&& (1 : Int32))))])) _
    refine XS.iconst Xs.here hx rfl (hb hby at_48) ?_
    show Steps p.tables e below (s₁.setTop (mkF m 49 #[.val (.int i0), .val (.int i1), .val (.int N), .val (.int f), .val (.int ((i0 &&& (7 : Int32)) - (3 : Int32))), .val (.int (((i0 &&& (7 : Int32)) - (3 : Int32)) - (((i0.toUInt32 >>> ((3 : Int32) &&& 31).toUInt32).toInt32) &&& (1 : Int32)))), .val (.int ((((i0 &&& (7 : Int32)) - (3 : Int32)) - (((i0.toUInt32 >>> ((3 : Int32) &&& 31).toUInt32).toInt32) &&& (1 : Int32))) - (((i0.toUInt32 >>> ((4 : Int32) &&& 31).toUInt32).toInt32) &&& (1 : Int32)))), .unset, .unset, .unset, .unset, .unset, .unset, .unset, .unset, .unset, .unset, .unset, .unset, .unset, .unset] [(.int (1 : Int32)), (.int ((i0.toUInt32 >>> ((5 : Int32) &&& 31).toUInt32).toInt32)), (.int ((((i0 &&& (7 : Int32)) - (3 : Int32)) - (((i0.toUInt32 >>> ((3 : Int32) &&& 31).toUInt32).toInt32) &&& (1 : Int32))) - (((i0.toUInt32 >>> ((4 : Int32) &&& 31).toUInt32).toInt32) &&& (1 : Int32))))])) _
    refine XS.iand Xs.here hx rfl (hb hby at_49) rfl ?_
    show Steps p.tables e below (s₁.setTop (mkF m 50 #[.val (.int i0), .val (.int i1), .val (.int N), .val (.int f), .val (.int ((i0 &&& (7 : Int32)) - (3 : Int32))), .val (.int (((i0 &&& (7 : Int32)) - (3 : Int32)) - (((i0.toUInt32 >>> ((3 : Int32) &&& 31).toUInt32).toInt32) &&& (1 : Int32)))), .val (.int ((((i0 &&& (7 : Int32)) - (3 : Int32)) - (((i0.toUInt32 >>> ((3 : Int32) &&& 31).toUInt32).toInt32) &&& (1 : Int32))) - (((i0.toUInt32 >>> ((4 : Int32) &&& 31).toUInt32).toInt32) &&& (1 : Int32)))), .unset, .unset, .unset, .unset, .unset, .unset, .unset, .unset, .unset, .unset, .unset, .unset, .unset, .unset] [(.int (((i0.toUInt32 >>> ((5 : Int32) &&& 31).toUInt32).toInt32) &&& (1 : Int32))), (.int ((((i0 &&& (7 : Int32)) - (3 : Int32)) - (((i0.toUInt32 >>> ((3 : Int32) &&& 31).toUInt32).toInt32) &&& (1 : Int32))) - (((i0.toUInt32 >>> ((4 : Int32) &&& 31).toUInt32).toInt32) &&& (1 : Int32))))])) _
    refine XS.isub Xs.here hx rfl (hb hby at_50) rfl ?_
    show Steps p.tables e below (s₁.setTop (mkF m 51 #[.val (.int i0), .val (.int i1), .val (.int N), .val (.int f), .val (.int ((i0 &&& (7 : Int32)) - (3 : Int32))), .val (.int (((i0 &&& (7 : Int32)) - (3 : Int32)) - (((i0.toUInt32 >>> ((3 : Int32) &&& 31).toUInt32).toInt32) &&& (1 : Int32)))), .val (.int ((((i0 &&& (7 : Int32)) - (3 : Int32)) - (((i0.toUInt32 >>> ((3 : Int32) &&& 31).toUInt32).toInt32) &&& (1 : Int32))) - (((i0.toUInt32 >>> ((4 : Int32) &&& 31).toUInt32).toInt32) &&& (1 : Int32)))), .unset, .unset, .unset, .unset, .unset, .unset, .unset, .unset, .unset, .unset, .unset, .unset, .unset, .unset] [(.int (((((i0 &&& (7 : Int32)) - (3 : Int32)) - (((i0.toUInt32 >>> ((3 : Int32) &&& 31).toUInt32).toInt32) &&& (1 : Int32))) - (((i0.toUInt32 >>> ((4 : Int32) &&& 31).toUInt32).toInt32) &&& (1 : Int32))) - (((i0.toUInt32 >>> ((5 : Int32) &&& 31).toUInt32).toInt32) &&& (1 : Int32))))])) _
    refine XS.istore Xs.here hx rfl (hb hby at_51) rfl (l' := #[.val (.int i0), .val (.int i1), .val (.int N), .val (.int f), .val (.int ((i0 &&& (7 : Int32)) - (3 : Int32))), .val (.int (((i0 &&& (7 : Int32)) - (3 : Int32)) - (((i0.toUInt32 >>> ((3 : Int32) &&& 31).toUInt32).toInt32) &&& (1 : Int32)))), .val (.int ((((i0 &&& (7 : Int32)) - (3 : Int32)) - (((i0.toUInt32 >>> ((3 : Int32) &&& 31).toUInt32).toInt32) &&& (1 : Int32))) - (((i0.toUInt32 >>> ((4 : Int32) &&& 31).toUInt32).toInt32) &&& (1 : Int32)))), .val (.int (((((i0 &&& (7 : Int32)) - (3 : Int32)) - (((i0.toUInt32 >>> ((3 : Int32) &&& 31).toUInt32).toInt32) &&& (1 : Int32))) - (((i0.toUInt32 >>> ((4 : Int32) &&& 31).toUInt32).toInt32) &&& (1 : Int32))) - (((i0.toUInt32 >>> ((5 : Int32) &&& 31).toUInt32).toInt32) &&& (1 : Int32)))), .unset, .unset, .unset, .unset, .unset, .unset, .unset, .unset, .unset, .unset, .unset, .unset, .unset]) rfl ?_
    exact Steps.refl _
  generalize (((((i0 &&& (7 : Int32)) - (3 : Int32)) - (((i0.toUInt32 >>> ((3 : Int32) &&& 31).toUInt32).toInt32) &&& (1 : Int32))) - (((i0.toUInt32 >>> ((4 : Int32) &&& 31).toUInt32).toInt32) &&& (1 : Int32))) - (((i0.toUInt32 >>> ((5 : Int32) &&& 31).toUInt32).toInt32) &&& (1 : Int32))) = v3 at c3
  generalize ((((i0 &&& (7 : Int32)) - (3 : Int32)) - (((i0.toUInt32 >>> ((3 : Int32) &&& 31).toUInt32).toInt32) &&& (1 : Int32))) - (((i0.toUInt32 >>> ((4 : Int32) &&& 31).toUInt32).toInt32) &&& (1 : Int32))) = v2 at c3
  generalize (((i0 &&& (7 : Int32)) - (3 : Int32)) - (((i0.toUInt32 >>> ((3 : Int32) &&& 31).toUInt32).toInt32) &&& (1 : Int32))) = v1 at c3
  generalize ((i0 &&& (7 : Int32)) - (3 : Int32)) = v0 at c3
  have c4 : Steps p.tables e below S0 (s₁.setTop (mkF m 59 #[.val (.int i0), .val (.int i1), .val (.int N), .val (.int f), .val (.int v0), .val (.int v1), .val (.int v2), .val (.int v3), .unset, .unset, .unset, .unset, .unset, .unset, .unset, .unset, .unset, .unset, .unset, .unset, .unset] [(.int ((i0.toUInt32 >>> ((6 : Int32) &&& 31).toUInt32).toInt32)), (.int v0)])) := by
    refine c3.trans ?_
    show Steps p.tables e below (s₁.setTop (mkF m 53 #[.val (.int i0), .val (.int i1), .val (.int N), .val (.int f), .val (.int v0), .val (.int v1), .val (.int v2), .val (.int v3), .unset, .unset, .unset, .unset, .unset, .unset, .unset, .unset, .unset, .unset, .unset, .unset, .unset] [])) _
    refine XS.iload Xs.here hx rfl (hb hby at_53) rfl ?_
    show Steps p.tables e below (s₁.setTop (mkF m 55 #[.val (.int i0), .val (.int i1), .val (.int N), .val (.int f), .val (.int v0), .val (.int v1), .val (.int v2), .val (.int v3), .unset, .unset, .unset, .unset, .unset, .unset, .unset, .unset, .unset, .unset, .unset, .unset, .unset] [(.int v0)])) _
    refine XS.iloadN Xs.here hx rfl (hb hby at_55) rfl ?_
    show Steps p.tables e below (s₁.setTop (mkF m 56 #[.val (.int i0), .val (.int i1), .val (.int N), .val (.int f), .val (.int v0), .val (.int v1), .val (.int v2), .val (.int v3), .unset, .unset, .unset, .unset, .unset, .unset, .unset, .unset, .unset, .unset, .unset, .unset, .unset] [(.int i0), (.int v0)])) _
    refine XS.bipush Xs.here hx rfl (hb hby at_56) ?_
    show Steps p.tables e below (s₁.setTop (mkF m 58 #[.val (.int i0), .val (.int i1), .val (.int N), .val (.int f), .val (.int v0), .val (.int v1), .val (.int v2), .val (.int v3), .unset, .unset, .unset, .unset, .unset, .unset, .unset, .unset, .unset, .unset, .unset, .unset, .unset] [(.int (6 : Int32)), (.int i0), (.int v0)])) _
    refine XS.iushr Xs.here hx rfl (hb hby at_58) rfl ?_
    exact Steps.refl _
  obtain ⟨_, _, ⟨T5, L5, k5, n5⟩, -, X5, ⟨Lc5, hQ5, l5, y5, z5⟩, st5⟩ := Jvm.LawKit.callS Xs hx (y := (⟨"com/example/canvass/canvass/core/RankingEndOfTiePinLaw", "score", "(II)D"⟩ : MethodName)) hown (mvT hZ (hw _ (List.mem_of_getElem? (i := 1) rfl))) (mvT hZ (hw _ (List.mem_of_getElem? (i := 2) rfl))) (mvT hZ (hw _ (List.mem_of_getElem? (i := 3) rfl))) (mvT hZ (hw _ (List.mem_of_getElem? (i := 4) rfl))) (by decide) (backOf (W := 0) (rm3 l Z a0 hw [] v0 ((i0.toUInt32 >>> ((6 : Int32) &&& 31).toUInt32).toInt32) h0 n0 Z0) hZ (hw _ (List.mem_of_getElem? (i := 4) rfl)) (hw _ (List.mem_of_getElem? (i := 3) rfl)) (by decide) (by decide)) (g := (mkF m 59 #[.val (.int i0), .val (.int i1), .val (.int N), .val (.int f), .val (.int v0), .val (.int v1), .val (.int v2), .val (.int v3), .unset, .unset, .unset, .unset, .unset, .unset, .unset, .unset, .unset, .unset, .unset, .unset, .unset] [(.int ((i0.toUInt32 >>> ((6 : Int32) &&& 31).toUInt32).toInt32)), (.int v0)])) rfl (by rw [hml]; rfl) (argsL := [(.int v0), (.int ((i0.toUInt32 >>> ((6 : Int32) &&& 31).toUInt32).toInt32))]) (rest := []) (lenOf pd1 rfl) rfl (by show 2 * 0 + _ ≤ _; exact Nat.le_of_eq rfl) (hb hby at_59) (fun _ _ => ⟨rfl, e0, (by decide : 0 + 0 ≤ _), (by decide : 0 + 0 ≤ _)⟩)
  dsimp only [Pt.U, Pt.locs, Pt.cells, Pt.slots] at X5 l5 y5 z5 st5 hQ5
  subst l5 y5 z5
  obtain ⟨⟨d0, rfl, hd0⟩, Ns0, es0⟩ := hQ5
  have c5 : Steps p.tables e below S0 (T5.setTop (mkF m 62 #[.val (.int i0), .val (.int i1), .val (.int N), .val (.int f), .val (.int v0), .val (.int v1), .val (.int v2), .val (.int v3), .unset, .unset, .unset, .unset, .unset, .unset, .unset, .unset, .unset, .unset, .unset, .unset, .unset] [(.double d0)])) := by
    refine c4.trans ?_
    show Steps p.tables e below (s₁.setTop (mkF m 59 #[.val (.int i0), .val (.int i1), .val (.int N), .val (.int f), .val (.int v0), .val (.int v1), .val (.int v2), .val (.int v3), .unset, .unset, .unset, .unset, .unset, .unset, .unset, .unset, .unset, .unset, .unset, .unset, .unset] [(.int ((i0.toUInt32 >>> ((6 : Int32) &&& 31).toUInt32).toInt32)), (.int v0)])) _
    refine st5 _ ?_
    exact Steps.refl _
  have Na0 := Fr.app N0 Ns0
  have c6 : Steps p.tables e below S0 (T5.setTop (mkF m 70 #[.val (.int i0), .val (.int i1), .val (.int N), .val (.int f), .val (.int v0), .val (.int v1), .val (.int v2), .val (.int v3), .val (.double d0), .second, .unset, .unset, .unset, .unset, .unset, .unset, .unset, .unset, .unset, .unset, .unset] [(.int ((i0.toUInt32 >>> ((7 : Int32) &&& 31).toUInt32).toInt32)), (.int v1)])) := by
    refine c5.trans ?_
    show Steps p.tables e below (T5.setTop (mkF m 62 #[.val (.int i0), .val (.int i1), .val (.int N), .val (.int f), .val (.int v0), .val (.int v1), .val (.int v2), .val (.int v3), .unset, .unset, .unset, .unset, .unset, .unset, .unset, .unset, .unset, .unset, .unset, .unset, .unset] [(.double d0)])) _
    refine XS.dstore X5.here hx rfl (hb hby at_62) rfl (l' := #[.val (.int i0), .val (.int i1), .val (.int N), .val (.int f), .val (.int v0), .val (.int v1), .val (.int v2), .val (.int v3), .val (.double d0), .second, .unset, .unset, .unset, .unset, .unset, .unset, .unset, .unset, .unset, .unset, .unset]) rfl ?_
    show Steps p.tables e below (T5.setTop (mkF m 64 #[.val (.int i0), .val (.int i1), .val (.int N), .val (.int f), .val (.int v0), .val (.int v1), .val (.int v2), .val (.int v3), .val (.double d0), .second, .unset, .unset, .unset, .unset, .unset, .unset, .unset, .unset, .unset, .unset, .unset] [])) _
    refine XS.iload X5.here hx rfl (hb hby at_64) rfl ?_
    show Steps p.tables e below (T5.setTop (mkF m 66 #[.val (.int i0), .val (.int i1), .val (.int N), .val (.int f), .val (.int v0), .val (.int v1), .val (.int v2), .val (.int v3), .val (.double d0), .second, .unset, .unset, .unset, .unset, .unset, .unset, .unset, .unset, .unset, .unset, .unset] [(.int v1)])) _
    refine XS.iloadN X5.here hx rfl (hb hby at_66) rfl ?_
    show Steps p.tables e below (T5.setTop (mkF m 67 #[.val (.int i0), .val (.int i1), .val (.int N), .val (.int f), .val (.int v0), .val (.int v1), .val (.int v2), .val (.int v3), .val (.double d0), .second, .unset, .unset, .unset, .unset, .unset, .unset, .unset, .unset, .unset, .unset, .unset] [(.int i0), (.int v1)])) _
    refine XS.bipush X5.here hx rfl (hb hby at_67) ?_
    show Steps p.tables e below (T5.setTop (mkF m 69 #[.val (.int i0), .val (.int i1), .val (.int N), .val (.int f), .val (.int v0), .val (.int v1), .val (.int v2), .val (.int v3), .val (.double d0), .second, .unset, .unset, .unset, .unset, .unset, .unset, .unset, .unset, .unset, .unset, .unset] [(.int (7 : Int32)), (.int i0), (.int v1)])) _
    refine XS.iushr X5.here hx rfl (hb hby at_69) rfl ?_
    exact Steps.refl _
  obtain ⟨_, _, ⟨T7, L7, k7, n7⟩, -, X7, ⟨Lc7, hQ7, l7, y7, z7⟩, st7⟩ := Jvm.LawKit.callS X5 hx (y := (⟨"com/example/canvass/canvass/core/RankingEndOfTiePinLaw", "score", "(II)D"⟩ : MethodName)) hown (mvT hZ (hw _ (List.mem_of_getElem? (i := 1) rfl))) (mvT hZ (hw _ (List.mem_of_getElem? (i := 2) rfl))) (mvT hZ (hw _ (List.mem_of_getElem? (i := 3) rfl))) (mvT hZ (hw _ (List.mem_of_getElem? (i := 4) rfl))) (by decide) (backOf (W := 0) (rm3 l Z a0 hw [] v1 ((i0.toUInt32 >>> ((7 : Int32) &&& 31).toUInt32).toInt32) h0 n0 Z0) hZ (hw _ (List.mem_of_getElem? (i := 4) rfl)) (hw _ (List.mem_of_getElem? (i := 3) rfl)) (by decide) (by decide)) (g := (mkF m 70 #[.val (.int i0), .val (.int i1), .val (.int N), .val (.int f), .val (.int v0), .val (.int v1), .val (.int v2), .val (.int v3), .val (.double d0), .second, .unset, .unset, .unset, .unset, .unset, .unset, .unset, .unset, .unset, .unset, .unset] [(.int ((i0.toUInt32 >>> ((7 : Int32) &&& 31).toUInt32).toInt32)), (.int v1)])) rfl (by rw [hml]; rfl) (argsL := [(.int v1), (.int ((i0.toUInt32 >>> ((7 : Int32) &&& 31).toUInt32).toInt32))]) (rest := []) (lenOf pd1 rfl) rfl (by show 2 * 0 + _ ≤ _; exact Nat.le_of_eq rfl) (hb hby at_70) (fun _ _ => ⟨rfl, es0, (by decide : 0 + 0 ≤ _), (by decide : 0 + 0 ≤ _)⟩)
  dsimp only [Pt.U, Pt.locs, Pt.cells, Pt.slots] at X7 l7 y7 z7 st7 hQ7
  subst l7 y7 z7
  obtain ⟨⟨d1, rfl, hd1⟩, Ns1, es1⟩ := hQ7
  have c7 : Steps p.tables e below S0 (T7.setTop (mkF m 73 #[.val (.int i0), .val (.int i1), .val (.int N), .val (.int f), .val (.int v0), .val (.int v1), .val (.int v2), .val (.int v3), .val (.double d0), .second, .unset, .unset, .unset, .unset, .unset, .unset, .unset, .unset, .unset, .unset, .unset] [(.double d1)])) := by
    refine c6.trans ?_
    show Steps p.tables e below (T5.setTop (mkF m 70 #[.val (.int i0), .val (.int i1), .val (.int N), .val (.int f), .val (.int v0), .val (.int v1), .val (.int v2), .val (.int v3), .val (.double d0), .second, .unset, .unset, .unset, .unset, .unset, .unset, .unset, .unset, .unset, .unset, .unset] [(.int ((i0.toUInt32 >>> ((7 : Int32) &&& 31).toUInt32).toInt32)), (.int v1)])) _
    refine st7 _ ?_
    exact Steps.refl _
  have Na1 := Fr.app Na0 Ns1
  have c8 : Steps p.tables e below S0 (T7.setTop (mkF m 81 #[.val (.int i0), .val (.int i1), .val (.int N), .val (.int f), .val (.int v0), .val (.int v1), .val (.int v2), .val (.int v3), .val (.double d0), .second, .val (.double d1), .second, .unset, .unset, .unset, .unset, .unset, .unset, .unset, .unset, .unset] [(.int ((i0.toUInt32 >>> ((8 : Int32) &&& 31).toUInt32).toInt32)), (.int v2)])) := by
    refine c7.trans ?_
    show Steps p.tables e below (T7.setTop (mkF m 73 #[.val (.int i0), .val (.int i1), .val (.int N), .val (.int f), .val (.int v0), .val (.int v1), .val (.int v2), .val (.int v3), .val (.double d0), .second, .unset, .unset, .unset, .unset, .unset, .unset, .unset, .unset, .unset, .unset, .unset] [(.double d1)])) _
    refine XS.dstore X7.here hx rfl (hb hby at_73) rfl (l' := #[.val (.int i0), .val (.int i1), .val (.int N), .val (.int f), .val (.int v0), .val (.int v1), .val (.int v2), .val (.int v3), .val (.double d0), .second, .val (.double d1), .second, .unset, .unset, .unset, .unset, .unset, .unset, .unset, .unset, .unset]) rfl ?_
    show Steps p.tables e below (T7.setTop (mkF m 75 #[.val (.int i0), .val (.int i1), .val (.int N), .val (.int f), .val (.int v0), .val (.int v1), .val (.int v2), .val (.int v3), .val (.double d0), .second, .val (.double d1), .second, .unset, .unset, .unset, .unset, .unset, .unset, .unset, .unset, .unset] [])) _
    refine XS.iload X7.here hx rfl (hb hby at_75) rfl ?_
    show Steps p.tables e below (T7.setTop (mkF m 77 #[.val (.int i0), .val (.int i1), .val (.int N), .val (.int f), .val (.int v0), .val (.int v1), .val (.int v2), .val (.int v3), .val (.double d0), .second, .val (.double d1), .second, .unset, .unset, .unset, .unset, .unset, .unset, .unset, .unset, .unset] [(.int v2)])) _
    refine XS.iloadN X7.here hx rfl (hb hby at_77) rfl ?_
    show Steps p.tables e below (T7.setTop (mkF m 78 #[.val (.int i0), .val (.int i1), .val (.int N), .val (.int f), .val (.int v0), .val (.int v1), .val (.int v2), .val (.int v3), .val (.double d0), .second, .val (.double d1), .second, .unset, .unset, .unset, .unset, .unset, .unset, .unset, .unset, .unset] [(.int i0), (.int v2)])) _
    refine XS.bipush X7.here hx rfl (hb hby at_78) ?_
    show Steps p.tables e below (T7.setTop (mkF m 80 #[.val (.int i0), .val (.int i1), .val (.int N), .val (.int f), .val (.int v0), .val (.int v1), .val (.int v2), .val (.int v3), .val (.double d0), .second, .val (.double d1), .second, .unset, .unset, .unset, .unset, .unset, .unset, .unset, .unset, .unset] [(.int (8 : Int32)), (.int i0), (.int v2)])) _
    refine XS.iushr X7.here hx rfl (hb hby at_80) rfl ?_
    exact Steps.refl _
  obtain ⟨_, _, ⟨T9, L9, k9, n9⟩, -, X9, ⟨Lc9, hQ9, l9, y9, z9⟩, st9⟩ := Jvm.LawKit.callS X7 hx (y := (⟨"com/example/canvass/canvass/core/RankingEndOfTiePinLaw", "score", "(II)D"⟩ : MethodName)) hown (mvT hZ (hw _ (List.mem_of_getElem? (i := 1) rfl))) (mvT hZ (hw _ (List.mem_of_getElem? (i := 2) rfl))) (mvT hZ (hw _ (List.mem_of_getElem? (i := 3) rfl))) (mvT hZ (hw _ (List.mem_of_getElem? (i := 4) rfl))) (by decide) (backOf (W := 0) (rm3 l Z a0 hw [] v2 ((i0.toUInt32 >>> ((8 : Int32) &&& 31).toUInt32).toInt32) h0 n0 Z0) hZ (hw _ (List.mem_of_getElem? (i := 4) rfl)) (hw _ (List.mem_of_getElem? (i := 3) rfl)) (by decide) (by decide)) (g := (mkF m 81 #[.val (.int i0), .val (.int i1), .val (.int N), .val (.int f), .val (.int v0), .val (.int v1), .val (.int v2), .val (.int v3), .val (.double d0), .second, .val (.double d1), .second, .unset, .unset, .unset, .unset, .unset, .unset, .unset, .unset, .unset] [(.int ((i0.toUInt32 >>> ((8 : Int32) &&& 31).toUInt32).toInt32)), (.int v2)])) rfl (by rw [hml]; rfl) (argsL := [(.int v2), (.int ((i0.toUInt32 >>> ((8 : Int32) &&& 31).toUInt32).toInt32))]) (rest := []) (lenOf pd1 rfl) rfl (by show 2 * 0 + _ ≤ _; exact Nat.le_of_eq rfl) (hb hby at_81) (fun _ _ => ⟨rfl, es1, (by decide : 0 + 0 ≤ _), (by decide : 0 + 0 ≤ _)⟩)
  dsimp only [Pt.U, Pt.locs, Pt.cells, Pt.slots] at X9 l9 y9 z9 st9 hQ9
  subst l9 y9 z9
  obtain ⟨⟨d2, rfl, hd2⟩, Ns2, es2⟩ := hQ9
  have c9 : Steps p.tables e below S0 (T9.setTop (mkF m 84 #[.val (.int i0), .val (.int i1), .val (.int N), .val (.int f), .val (.int v0), .val (.int v1), .val (.int v2), .val (.int v3), .val (.double d0), .second, .val (.double d1), .second, .unset, .unset, .unset, .unset, .unset, .unset, .unset, .unset, .unset] [(.double d2)])) := by
    refine c8.trans ?_
    show Steps p.tables e below (T7.setTop (mkF m 81 #[.val (.int i0), .val (.int i1), .val (.int N), .val (.int f), .val (.int v0), .val (.int v1), .val (.int v2), .val (.int v3), .val (.double d0), .second, .val (.double d1), .second, .unset, .unset, .unset, .unset, .unset, .unset, .unset, .unset, .unset] [(.int ((i0.toUInt32 >>> ((8 : Int32) &&& 31).toUInt32).toInt32)), (.int v2)])) _
    refine st9 _ ?_
    exact Steps.refl _
  have Na2 := Fr.app Na1 Ns2
  have c10 : Steps p.tables e below S0 (T9.setTop (mkF m 92 #[.val (.int i0), .val (.int i1), .val (.int N), .val (.int f), .val (.int v0), .val (.int v1), .val (.int v2), .val (.int v3), .val (.double d0), .second, .val (.double d1), .second, .val (.double d2), .second, .unset, .unset, .unset, .unset, .unset, .unset, .unset] [(.int ((i0.toUInt32 >>> ((9 : Int32) &&& 31).toUInt32).toInt32)), (.int v3)])) := by
    refine c9.trans ?_
    show Steps p.tables e below (T9.setTop (mkF m 84 #[.val (.int i0), .val (.int i1), .val (.int N), .val (.int f), .val (.int v0), .val (.int v1), .val (.int v2), .val (.int v3), .val (.double d0), .second, .val (.double d1), .second, .unset, .unset, .unset, .unset, .unset, .unset, .unset, .unset, .unset] [(.double d2)])) _
    refine XS.dstore X9.here hx rfl (hb hby at_84) rfl (l' := #[.val (.int i0), .val (.int i1), .val (.int N), .val (.int f), .val (.int v0), .val (.int v1), .val (.int v2), .val (.int v3), .val (.double d0), .second, .val (.double d1), .second, .val (.double d2), .second, .unset, .unset, .unset, .unset, .unset, .unset, .unset]) rfl ?_
    show Steps p.tables e below (T9.setTop (mkF m 86 #[.val (.int i0), .val (.int i1), .val (.int N), .val (.int f), .val (.int v0), .val (.int v1), .val (.int v2), .val (.int v3), .val (.double d0), .second, .val (.double d1), .second, .val (.double d2), .second, .unset, .unset, .unset, .unset, .unset, .unset, .unset] [])) _
    refine XS.iload X9.here hx rfl (hb hby at_86) rfl ?_
    show Steps p.tables e below (T9.setTop (mkF m 88 #[.val (.int i0), .val (.int i1), .val (.int N), .val (.int f), .val (.int v0), .val (.int v1), .val (.int v2), .val (.int v3), .val (.double d0), .second, .val (.double d1), .second, .val (.double d2), .second, .unset, .unset, .unset, .unset, .unset, .unset, .unset] [(.int v3)])) _
    refine XS.iloadN X9.here hx rfl (hb hby at_88) rfl ?_
    show Steps p.tables e below (T9.setTop (mkF m 89 #[.val (.int i0), .val (.int i1), .val (.int N), .val (.int f), .val (.int v0), .val (.int v1), .val (.int v2), .val (.int v3), .val (.double d0), .second, .val (.double d1), .second, .val (.double d2), .second, .unset, .unset, .unset, .unset, .unset, .unset, .unset] [(.int i0), (.int v3)])) _
    refine XS.bipush X9.here hx rfl (hb hby at_89) ?_
    show Steps p.tables e below (T9.setTop (mkF m 91 #[.val (.int i0), .val (.int i1), .val (.int N), .val (.int f), .val (.int v0), .val (.int v1), .val (.int v2), .val (.int v3), .val (.double d0), .second, .val (.double d1), .second, .val (.double d2), .second, .unset, .unset, .unset, .unset, .unset, .unset, .unset] [(.int (9 : Int32)), (.int i0), (.int v3)])) _
    refine XS.iushr X9.here hx rfl (hb hby at_91) rfl ?_
    exact Steps.refl _
  obtain ⟨_, _, ⟨T11, L11, k11, n11⟩, -, X11, ⟨Lc11, hQ11, l11, y11, z11⟩, st11⟩ := Jvm.LawKit.callS X9 hx (y := (⟨"com/example/canvass/canvass/core/RankingEndOfTiePinLaw", "score", "(II)D"⟩ : MethodName)) hown (mvT hZ (hw _ (List.mem_of_getElem? (i := 1) rfl))) (mvT hZ (hw _ (List.mem_of_getElem? (i := 2) rfl))) (mvT hZ (hw _ (List.mem_of_getElem? (i := 3) rfl))) (mvT hZ (hw _ (List.mem_of_getElem? (i := 4) rfl))) (by decide) (backOf (W := 0) (rm3 l Z a0 hw [] v3 ((i0.toUInt32 >>> ((9 : Int32) &&& 31).toUInt32).toInt32) h0 n0 Z0) hZ (hw _ (List.mem_of_getElem? (i := 4) rfl)) (hw _ (List.mem_of_getElem? (i := 3) rfl)) (by decide) (by decide)) (g := (mkF m 92 #[.val (.int i0), .val (.int i1), .val (.int N), .val (.int f), .val (.int v0), .val (.int v1), .val (.int v2), .val (.int v3), .val (.double d0), .second, .val (.double d1), .second, .val (.double d2), .second, .unset, .unset, .unset, .unset, .unset, .unset, .unset] [(.int ((i0.toUInt32 >>> ((9 : Int32) &&& 31).toUInt32).toInt32)), (.int v3)])) rfl (by rw [hml]; rfl) (argsL := [(.int v3), (.int ((i0.toUInt32 >>> ((9 : Int32) &&& 31).toUInt32).toInt32))]) (rest := []) (lenOf pd1 rfl) rfl (by show 2 * 0 + _ ≤ _; exact Nat.le_of_eq rfl) (hb hby at_92) (fun _ _ => ⟨rfl, es2, (by decide : 0 + 0 ≤ _), (by decide : 0 + 0 ≤ _)⟩)
  dsimp only [Pt.U, Pt.locs, Pt.cells, Pt.slots] at X11 l11 y11 z11 st11 hQ11
  subst l11 y11 z11
  obtain ⟨⟨d3, rfl, hd3⟩, Ns3, es3⟩ := hQ11
  have c11 : Steps p.tables e below S0 (T11.setTop (mkF m 95 #[.val (.int i0), .val (.int i1), .val (.int N), .val (.int f), .val (.int v0), .val (.int v1), .val (.int v2), .val (.int v3), .val (.double d0), .second, .val (.double d1), .second, .val (.double d2), .second, .unset, .unset, .unset, .unset, .unset, .unset, .unset] [(.double d3)])) := by
    refine c10.trans ?_
    show Steps p.tables e below (T9.setTop (mkF m 92 #[.val (.int i0), .val (.int i1), .val (.int N), .val (.int f), .val (.int v0), .val (.int v1), .val (.int v2), .val (.int v3), .val (.double d0), .second, .val (.double d1), .second, .val (.double d2), .second, .unset, .unset, .unset, .unset, .unset, .unset, .unset] [(.int ((i0.toUInt32 >>> ((9 : Int32) &&& 31).toUInt32).toInt32)), (.int v3)])) _
    refine st11 _ ?_
    exact Steps.refl _
  have Na3 := Fr.app Na2 Ns3
  have c12 : Steps p.tables e below S0 (T11.setTop (mkF m 99 #[.val (.int i0), .val (.int i1), .val (.int N), .val (.int f), .val (.int v0), .val (.int v1), .val (.int v2), .val (.int v3), .val (.double d0), .second, .val (.double d1), .second, .val (.double d2), .second, .val (.double d3), .second, .unset, .unset, .unset, .unset, .unset] [(.int (1 : Int32)), (.int N)])) := by
    refine c11.trans ?_
    show Steps p.tables e below (T11.setTop (mkF m 95 #[.val (.int i0), .val (.int i1), .val (.int N), .val (.int f), .val (.int v0), .val (.int v1), .val (.int v2), .val (.int v3), .val (.double d0), .second, .val (.double d1), .second, .val (.double d2), .second, .unset, .unset, .unset, .unset, .unset, .unset, .unset] [(.double d3)])) _
    refine XS.dstore X11.here hx rfl (hb hby at_95) rfl (l' := #[.val (.int i0), .val (.int i1), .val (.int N), .val (.int f), .val (.int v0), .val (.int v1), .val (.int v2), .val (.int v3), .val (.double d0), .second, .val (.double d1), .second, .val (.double d2), .second, .val (.double d3), .second, .unset, .unset, .unset, .unset, .unset]) rfl ?_
    show Steps p.tables e below (T11.setTop (mkF m 97 #[.val (.int i0), .val (.int i1), .val (.int N), .val (.int f), .val (.int v0), .val (.int v1), .val (.int v2), .val (.int v3), .val (.double d0), .second, .val (.double d1), .second, .val (.double d2), .second, .val (.double d3), .second, .unset, .unset, .unset, .unset, .unset] [])) _
    refine XS.iloadN X11.here hx rfl (hb hby at_97) rfl ?_
    show Steps p.tables e below (T11.setTop (mkF m 98 #[.val (.int i0), .val (.int i1), .val (.int N), .val (.int f), .val (.int v0), .val (.int v1), .val (.int v2), .val (.int v3), .val (.double d0), .second, .val (.double d1), .second, .val (.double d2), .second, .val (.double d3), .second, .unset, .unset, .unset, .unset, .unset] [(.int N)])) _
    refine XS.iconst X11.here hx rfl (hb hby at_98) ?_
    exact Steps.refl _
  rcases hn4 with hcase | hcase | hcase | hcase
  · subst hcase
    clear hN hNz
    have hf4 : f < 4 := own_f4 hfN (by decide)
    have c13 : Steps p.tables e below S0 (T11.setTop (mkF m 102 #[.val (.int i0), .val (.int i1), .val (.int (1 : Int32)), .val (.int f), .val (.int v0), .val (.int v1), .val (.int v2), .val (.int v3), .val (.double d0), .second, .val (.double d1), .second, .val (.double d2), .second, .val (.double d3), .second, .unset, .unset, .unset, .unset, .unset] [])) := by
      refine c12.trans ?_
      show Steps p.tables e below (T11.setTop (mkF m 99 #[.val (.int i0), .val (.int i1), .val (.int (1 : Int32)), .val (.int f), .val (.int v0), .val (.int v1), .val (.int v2), .val (.int v3), .val (.double d0), .second, .val (.double d1), .second, .val (.double d2), .second, .val (.double d3), .second, .unset, .unset, .unset, .unset, .unset] [(.int (1 : Int32)), (.int (1 : Int32))])) _
      refine XS.icmpNo X11.here hx rfl (hb hby at_99) rfl (teq rfl).2 ?_
      exact Steps.refl _
    have c14 : Steps p.tables e below S0 (T11.setTop (mkF m 103 #[.val (.int i0), .val (.int i1), .val (.int (1 : Int32)), .val (.int f), .val (.int v0), .val (.int v1), .val (.int v2), .val (.int v3), .val (.double d0), .second, .val (.double d1), .second, .val (.double d2), .second, .val (.double d3), .second, .unset, .unset, .unset, .unset, .unset] [(.int (1 : Int32))])) := by
      refine c13.trans ?_
      show Steps p.tables e below (T11.setTop (mkF m 102 #[.val (.int i0), .val (.int i1), .val (.int (1 : Int32)), .val (.int f), .val (.int v0), .val (.int v1), .val (.int v2), .val (.int v3), .val (.double d0), .second, .val (.double d1), .second, .val (.double d2), .second, .val (.double d3), .second, .unset, .unset, .unset, .unset, .unset] [])) _
      refine XS.iconst X11.here hx rfl (hb hby at_102) ?_
      exact Steps.refl _
    obtain ⟨T15, h15, kA15, X15, e15, E15, A15, st15⟩ := newP X11 hx hZ (hw _ (List.mem_of_getElem? (i := 5) rfl)) es3 (g := (mkF m 103 #[.val (.int i0), .val (.int i1), .val (.int (1 : Int32)), .val (.int f), .val (.int v0), .val (.int v1), .val (.int v2), .val (.int v3), .val (.double d0), .second, .val (.double d1), .second, .val (.double d2), .second, .val (.double d3), .second, .unset, .unset, .unset, .unset, .unset] [(.int (1 : Int32))])) rfl (hb hby at_103) rfl (by decide : ¬ ((1 : Int32) < (0 : Int32))) (cap := 1) (by decide) (by decide) (by decide) (by decide)
    obtain ⟨b15, g15⟩ : ∃ z, z = h0.size := ⟨_, rfl⟩
    rw [← g15] at A15 st15
    have c15 : Steps p.tables e below S0 (T15.setTop (mkF m 105 #[.val (.int i0), .val (.int i1), .val (.int (1 : Int32)), .val (.int f), .val (.int v0), .val (.int v1), .val (.int v2), .val (.int v3), .val (.double d0), .second, .val (.double d1), .second, .val (.double d2), .second, .val (.double d3), .second, .unset, .unset, .unset, .unset, .unset] [(.ref b15)])) := by
      refine c14.trans ?_
      show Steps p.tables e below (T11.setTop (mkF m 103 #[.val (.int i0), .val (.int i1), .val (.int (1 : Int32)), .val (.int f), .val (.int v0), .val (.int v1), .val (.int v2), .val (.int v3), .val (.double d0), .second, .val (.double d1), .second, .val (.double d2), .second, .val (.double d3), .second, .unset, .unset, .unset, .unset, .unset] [(.int (1 : Int32))])) _
      refine st15 _ ?_
      exact Steps.refl _
    have V15 := Arv.new A15 (by decide)
    have gb15 : n0 ≤ b15 := Nat.le_trans Zh (Nat.le_of_eq g15.symm)
    have Zh := Nat.le_trans Zh E15.1
    have hk := Nat.le_trans hk E15.1
    have c16 : Steps p.tables e below S0 (T15.setTop (mkF m 109 #[.val (.int i0), .val (.int i1), .val (.int (1 : Int32)), .val (.int f), .val (.int v0), .val (.int v1), .val (.int v2), .val (.int v3), .val (.double d0), .second, .val (.double d1), .second, .val (.double d2), .second, .val (.double d3), .second, .unset, .unset, .unset, .unset, .unset] [(.double d0), (.int (0 : Int32)), (.ref b15), (.ref b15)])) := by
      refine c15.trans ?_
      show Steps p.tables e below (T15.setTop (mkF m 105 #[.val (.int i0), .val (.int i1), .val (.int (1 : Int32)), .val (.int f), .val (.int v0), .val (.int v1), .val (.int v2), .val (.int v3), .val (.double d0), .second, .val (.double d1), .second, .val (.double d2), .second, .val (.double d3), .second, .unset, .unset, .unset, .unset, .unset] [(.ref b15)])) _
      refine XS.dup X15.here hx rfl (hb hby at_105) rfl rfl ?_
      show Steps p.tables e below (T15.setTop (mkF m 106 #[.val (.int i0), .val (.int i1), .val (.int (1 : Int32)), .val (.int f), .val (.int v0), .val (.int v1), .val (.int v2), .val (.int v3), .val (.double d0), .second, .val (.double d1), .second, .val (.double d2), .second, .val (.double d3), .second, .unset, .unset, .unset, .unset, .unset] [(.ref b15), (.ref b15)])) _
      refine XS.iconst X15.here hx rfl (hb hby at_106) ?_
      show Steps p.tables e below (T15.setTop (mkF m 107 #[.val (.int i0), .val (.int i1), .val (.int (1 : Int32)), .val (.int f), .val (.int v0), .val (.int v1), .val (.int v2), .val (.int v3), .val (.double d0), .second, .val (.double d1), .second, .val (.double d2), .second, .val (.double d3), .second, .unset, .unset, .unset, .unset, .unset] [(.int (0 : Int32)), (.ref b15), (.ref b15)])) _
      refine XS.dload X15.here hx rfl (hb hby at_107) rfl ?_
      exact Steps.refl _
    have Vp17 : Arv Z _ b15 kA15 .double (1 : Int32) [(.double 0)] (.double 0) := V15.pad (pad_rep [] (.double 0) 1)
    obtain ⟨cl17, Ar17, qr17, S17, M17, Hs17, U17⟩ := Vp17
    obtain ⟨T17, h17, X17, e17, W17, st17⟩ := stD X15 hx hZ e15 Ar17 (j := (0 : Int32)) (inb_of S17 ⟨(by decide), (by decide)⟩) (g := (mkF m 109 #[.val (.int i0), .val (.int i1), .val (.int (1 : Int32)), .val (.int f), .val (.int v0), .val (.int v1), .val (.int v2), .val (.int v3), .val (.double d0), .second, .val (.double d1), .second, .val (.double d2), .second, .val (.double d3), .second, .unset, .unset, .unset, .unset, .unset] [(.double d0), (.int (0 : Int32)), (.ref b15), (.ref b15)])) rfl rfl (hb hby at_109)
    have V17 : Arv Z h17 b15 kA15 .double (1 : Int32) [(.double d0)] (.double 0) := Arv.set Ar17 qr17 S17 M17 Hs17 U17 rfl W17 0 rfl (Nat.le_of_ble_eq_true rfl)
    have c17 : Steps p.tables e below S0 (T17.setTop (mkF m 110 #[.val (.int i0), .val (.int i1), .val (.int (1 : Int32)), .val (.int f), .val (.int v0), .val (.int v1), .val (.int v2), .val (.int v3), .val (.double d0), .second, .val (.double d1), .second, .val (.double d2), .second, .val (.double d3), .second, .unset, .unset, .unset, .unset, .unset] [(.ref b15)])) := by
      refine c16.trans ?_
      show Steps p.tables e below (T15.setTop (mkF m 109 #[.val (.int i0), .val (.int i1), .val (.int (1 : Int32)), .val (.int f), .val (.int v0), .val (.int v1), .val (.int v2), .val (.int v3), .val (.double d0), .second, .val (.double d1), .second, .val (.double d2), .second, .val (.double d3), .second, .unset, .unset, .unset, .unset, .unset] [(.double d0), (.int (0 : Int32)), (.ref b15), (.ref b15)])) _
      refine st17 _ ?_
      exact Steps.refl _
    have Ns0 := Fr.snoc X17 Na3 gb15
    have Zh := Nat.le_trans Zh (Nat.le_of_eq (own_wsz W17).symm)
    have hk := Nat.le_trans hk (Nat.le_of_eq (own_wsz W17).symm)
    have c18 : Steps p.tables e below S0 (T17.setTop (mkF m 113 #[.val (.int i0), .val (.int i1), .val (.int (1 : Int32)), .val (.int f), .val (.int v0), .val (.int v1), .val (.int v2), .val (.int v3), .val (.double d0), .second, .val (.double d1), .second, .val (.double d2), .second, .val (.double d3), .second, .val (.ref b15), .unset, .unset, .unset, .unset] [(.int (1 : Int32))])) := by
      refine c17.trans ?_
      show Steps p.tables e below (T17.setTop (mkF m 110 #[.val (.int i0), .val (.int i1), .val (.int (1 : Int32)), .val (.int f), .val (.int v0), .val (.int v1), .val (.int v2), .val (.int v3), .val (.double d0), .second, .val (.double d1), .second, .val (.double d2), .second, .val (.double d3), .second, .unset, .unset, .unset, .unset, .unset] [(.ref b15)])) _
      refine XS.astore X17.here hx rfl (hb hby at_110) rfl rfl (l' := #[.val (.int i0), .val (.int i1), .val (.int (1 : Int32)), .val (.int f), .val (.int v0), .val (.int v1), .val (.int v2), .val (.int v3), .val (.double d0), .second, .val (.double d1), .second, .val (.double d2), .second, .val (.double d3), .second, .val (.ref b15), .unset, .unset, .unset, .unset]) rfl ?_
      show Steps p.tables e below (T17.setTop (mkF m 112 #[.val (.int i0), .val (.int i1), .val (.int (1 : Int32)), .val (.int f), .val (.int v0), .val (.int v1), .val (.int v2), .val (.int v3), .val (.double d0), .second, .val (.double d1), .second, .val (.double d2), .second, .val (.double d3), .second, .val (.ref b15), .unset, .unset, .unset, .unset] [])) _
      refine XS.iconst X17.here hx rfl (hb hby at_112) ?_
      exact Steps.refl _
    obtain ⟨T19, h19, kA19, X19, e19, E19, A19, st19⟩ := newP X17 hx hZ (hw _ (List.mem_of_getElem? (i := 6) rfl)) e17 (g := (mkF m 113 #[.val (.int i0), .val (.int i1), .val (.int (1 : Int32)), .val (.int f), .val (.int v0), .val (.int v1), .val (.int v2), .val (.int v3), .val (.double d0), .second, .val (.double d1), .second, .val (.double d2), .second, .val (.double d3), .second, .val (.ref b15), .unset, .unset, .unset, .unset] [(.int (1 : Int32))])) rfl (hb hby at_113) rfl (by decide : ¬ ((1 : Int32) < (0 : Int32))) (cap := 1) (by decide) (by decide) (by decide) (by decide)
    obtain ⟨b19, g19⟩ : ∃ z, z = h17.size := ⟨_, rfl⟩
    rw [← g19] at A19 st19
    have c19 : Steps p.tables e below S0 (T19.setTop (mkF m 115 #[.val (.int i0), .val (.int i1), .val (.int (1 : Int32)), .val (.int f), .val (.int v0), .val (.int v1), .val (.int v2), .val (.int v3), .val (.double d0), .second, .val (.double d1), .second, .val (.double d2), .second, .val (.double d3), .second, .val (.ref b15), .unset, .unset, .unset, .unset] [(.ref b19)])) := by
      refine c18.trans ?_
      show Steps p.tables e below (T17.setTop (mkF m 113 #[.val (.int i0), .val (.int i1), .val (.int (1 : Int32)), .val (.int f), .val (.int v0), .val (.int v1), .val (.int v2), .val (.int v3), .val (.double d0), .second, .val (.double d1), .second, .val (.double d2), .second, .val (.double d3), .second, .val (.ref b15), .unset, .unset, .unset, .unset] [(.int (1 : Int32))])) _
      refine st19 _ ?_
      exact Steps.refl _
    have V19 := Arv.new A19 (by decide)
    have gb19 : n0 ≤ b19 := Nat.le_trans Zh (Nat.le_of_eq g19.symm)
    have Zh := Nat.le_trans Zh E19.1
    have hk := Nat.le_trans hk E19.1
    have c20 : Steps p.tables e below S0 (T19.setTop (mkF m 118 #[.val (.int i0), .val (.int i1), .val (.int (1 : Int32)), .val (.int f), .val (.int v0), .val (.int v1), .val (.int v2), .val (.int v3), .val (.double d0), .second, .val (.double d1), .second, .val (.double d2), .second, .val (.double d3), .second, .val (.ref b15), .unset, .unset, .unset, .unset] [(.int (0 : Int32)), (.int (0 : Int32)), (.ref b19), (.ref b19)])) := by
      refine c19.trans ?_
      show Steps p.tables e below (T19.setTop (mkF m 115 #[.val (.int i0), .val (.int i1), .val (.int (1 : Int32)), .val (.int f), .val (.int v0), .val (.int v1), .val (.int v2), .val (.int v3), .val (.double d0), .second, .val (.double d1), .second, .val (.double d2), .second, .val (.double d3), .second, .val (.ref b15), .unset, .unset, .unset, .unset] [(.ref b19)])) _
      refine XS.dup X19.here hx rfl (hb hby at_115) rfl rfl ?_
      show Steps p.tables e below (T19.setTop (mkF m 116 #[.val (.int i0), .val (.int i1), .val (.int (1 : Int32)), .val (.int f), .val (.int v0), .val (.int v1), .val (.int v2), .val (.int v3), .val (.double d0), .second, .val (.double d1), .second, .val (.double d2), .second, .val (.double d3), .second, .val (.ref b15), .unset, .unset, .unset, .unset] [(.ref b19), (.ref b19)])) _
      refine XS.iconst X19.here hx rfl (hb hby at_116) ?_
      show Steps p.tables e below (T19.setTop (mkF m 117 #[.val (.int i0), .val (.int i1), .val (.int (1 : Int32)), .val (.int f), .val (.int v0), .val (.int v1), .val (.int v2), .val (.int v3), .val (.double d0), .second, .val (.double d1), .second, .val (.double d2), .second, .val (.double d3), .second, .val (.ref b15), .unset, .unset, .unset, .unset] [(.int (0 : Int32)), (.ref b19), (.ref b19)])) _
      refine XS.iconst X19.here hx rfl (hb hby at_117) ?_
      exact Steps.refl _
    have Vp21 : Arv Z _ b19 kA19 .int (1 : Int32) [(.int 0)] (.int 0) := V19.pad (pad_rep [] (.int 0) 1)
    obtain ⟨cl21, Ar21, qr21, S21, M21, Hs21, U21⟩ := Vp21
    obtain ⟨T21, h21, X21, e21, W21, st21⟩ := stI X19 hx hZ e19 Ar21 (j := (0 : Int32)) (inb_of S21 ⟨(by decide), (by decide)⟩) (g := (mkF m 118 #[.val (.int i0), .val (.int i1), .val (.int (1 : Int32)), .val (.int f), .val (.int v0), .val (.int v1), .val (.int v2), .val (.int v3), .val (.double d0), .second, .val (.double d1), .second, .val (.double d2), .second, .val (.double d3), .second, .val (.ref b15), .unset, .unset, .unset, .unset] [(.int (0 : Int32)), (.int (0 : Int32)), (.ref b19), (.ref b19)])) rfl rfl (hb hby at_118)
    have V21 : Arv Z h21 b19 kA19 .int (1 : Int32) [(.int (0 : Int32))] (.int 0) := Arv.set Ar21 qr21 S21 M21 Hs21 U21 rfl W21 0 rfl (Nat.le_of_ble_eq_true rfl)
    have c21 : Steps p.tables e below S0 (T21.setTop (mkF m 119 #[.val (.int i0), .val (.int i1), .val (.int (1 : Int32)), .val (.int f), .val (.int v0), .val (.int v1), .val (.int v2), .val (.int v3), .val (.double d0), .second, .val (.double d1), .second, .val (.double d2), .second, .val (.double d3), .second, .val (.ref b15), .unset, .unset, .unset, .unset] [(.ref b19)])) := by
      refine c20.trans ?_
      show Steps p.tables e below (T19.setTop (mkF m 118 #[.val (.int i0), .val (.int i1), .val (.int (1 : Int32)), .val (.int f), .val (.int v0), .val (.int v1), .val (.int v2), .val (.int v3), .val (.double d0), .second, .val (.double d1), .second, .val (.double d2), .second, .val (.double d3), .second, .val (.ref b15), .unset, .unset, .unset, .unset] [(.int (0 : Int32)), (.int (0 : Int32)), (.ref b19), (.ref b19)])) _
      refine st21 _ ?_
      exact Steps.refl _
    have Nd0 := Fr.snoc X21 Ns0 gb19
    have Zh := Nat.le_trans Zh (Nat.le_of_eq (own_wsz W21).symm)
    have hk := Nat.le_trans hk (Nat.le_of_eq (own_wsz W21).symm)
    have c22 : Steps p.tables e below S0 (T21.setTop (mkF m 251 #[.val (.int i0), .val (.int i1), .val (.int (1 : Int32)), .val (.int f), .val (.int v0), .val (.int v1), .val (.int v2), .val (.int v3), .val (.double d0), .second, .val (.double d1), .second, .val (.double d2), .second, .val (.double d3), .second, .val (.ref b15), .val (.ref b19), .unset, .unset, .unset] [])) := by
      refine c21.trans ?_
      show Steps p.tables e below (T21.setTop (mkF m 119 #[.val (.int i0), .val (.int i1), .val (.int (1 : Int32)), .val (.int f), .val (.int v0), .val (.int v1), .val (.int v2), .val (.int v3), .val (.double d0), .second, .val (.double d1), .second, .val (.double d2), .second, .val (.double d3), .second, .val (.ref b15), .unset, .unset, .unset, .unset] [(.ref b19)])) _
      refine XS.astore X21.here hx rfl (hb hby at_119) rfl rfl (l' := #[.val (.int i0), .val (.int i1), .val (.int (1 : Int32)), .val (.int f), .val (.int v0), .val (.int v1), .val (.int v2), .val (.int v3), .val (.double d0), .second, .val (.double d1), .second, .val (.double d2), .second, .val (.double d3), .second, .val (.ref b15), .val (.ref b19), .unset, .unset, .unset]) rfl ?_
      show Steps p.tables e below (T21.setTop (mkF m 121 #[.val (.int i0), .val (.int i1), .val (.int (1 : Int32)), .val (.int f), .val (.int v0), .val (.int v1), .val (.int v2), .val (.int v3), .val (.double d0), .second, .val (.double d1), .second, .val (.double d2), .second, .val (.double d3), .second, .val (.ref b15), .val (.ref b19), .unset, .unset, .unset] [])) _
      refine XS.goto X21.here hx rfl (pc0 := 121) (pc' := 251) rfl (hb hby at_121) (by decide) (by decide) ?_
      exact Steps.refl _
    have c23 : Steps p.tables e below S0 (T21.setTop (mkF m 252 #[.val (.int i0), .val (.int i1), .val (.int (1 : Int32)), .val (.int f), .val (.int v0), .val (.int v1), .val (.int v2), .val (.int v3), .val (.double d0), .second, .val (.double d1), .second, .val (.double d2), .second, .val (.double d3), .second, .val (.ref b15), .val (.ref b19), .unset, .unset, .unset] [(.int (4 : Int32))])) := by
      refine c22.trans ?_
      show Steps p.tables e below (T21.setTop (mkF m 251 #[.val (.int i0), .val (.int i1), .val (.int (1 : Int32)), .val (.int f), .val (.int v0), .val (.int v1), .val (.int v2), .val (.int v3), .val (.double d0), .second, .val (.double d1), .second, .val (.double d2), .second, .val (.double d3), .second, .val (.ref b15), .val (.ref b19), .unset, .unset, .unset] [])) _
      refine XS.iconst X21.here hx rfl (hb hby at_251) ?_
      exact Steps.refl _
    obtain ⟨T24, h24, kA24, X24, e24, E24, A24, st24⟩ := newP X21 hx hZ (hw _ (List.mem_of_getElem? (i := 6) rfl)) e21 (g := (mkF m 252 #[.val (.int i0), .val (.int i1), .val (.int (1 : Int32)), .val (.int f), .val (.int v0), .val (.int v1), .val (.int v2), .val (.int v3), .val (.double d0), .second, .val (.double d1), .second, .val (.double d2), .second, .val (.double d3), .second, .val (.ref b15), .val (.ref b19), .unset, .unset, .unset] [(.int (4 : Int32))])) rfl (hb hby at_252) rfl (by decide : ¬ ((4 : Int32) < (0 : Int32))) (cap := 4) (by decide) (by decide) (by decide) (by decide)
    obtain ⟨b24, g24⟩ : ∃ z, z = h21.size := ⟨_, rfl⟩
    rw [← g24] at A24 st24
    have c24 : Steps p.tables e below S0 (T24.setTop (mkF m 254 #[.val (.int i0), .val (.int i1), .val (.int (1 : Int32)), .val (.int f), .val (.int v0), .val (.int v1), .val (.int v2), .val (.int v3), .val (.double d0), .second, .val (.double d1), .second, .val (.double d2), .second, .val (.double d3), .second, .val (.ref b15), .val (.ref b19), .unset, .unset, .unset] [(.ref b24)])) := by
      refine c23.trans ?_
      show Steps p.tables e below (T21.setTop (mkF m 252 #[.val (.int i0), .val (.int i1), .val (.int (1 : Int32)), .val (.int f), .val (.int v0), .val (.int v1), .val (.int v2), .val (.int v3), .val (.double d0), .second, .val (.double d1), .second, .val (.double d2), .second, .val (.double d3), .second, .val (.ref b15), .val (.ref b19), .unset, .unset, .unset] [(.int (4 : Int32))])) _
      refine st24 _ ?_
      exact Steps.refl _
    have V24 := Arv.new A24 (by decide)
    have gb24 : n0 ≤ b24 := Nat.le_trans Zh (Nat.le_of_eq g24.symm)
    have Zh := Nat.le_trans Zh E24.1
    have hk := Nat.le_trans hk E24.1
    have c25 : Steps p.tables e below S0 (T24.setTop (mkF m 258 #[.val (.int i0), .val (.int i1), .val (.int (1 : Int32)), .val (.int f), .val (.int v0), .val (.int v1), .val (.int v2), .val (.int v3), .val (.double d0), .second, .val (.double d1), .second, .val (.double d2), .second, .val (.double d3), .second, .val (.ref b15), .val (.ref b19), .unset, .unset, .unset] [(.int v0), (.int (0 : Int32)), (.ref b24), (.ref b24)])) := by
      refine c24.trans ?_
      show Steps p.tables e below (T24.setTop (mkF m 254 #[.val (.int i0), .val (.int i1), .val (.int (1 : Int32)), .val (.int f), .val (.int v0), .val (.int v1), .val (.int v2), .val (.int v3), .val (.double d0), .second, .val (.double d1), .second, .val (.double d2), .second, .val (.double d3), .second, .val (.ref b15), .val (.ref b19), .unset, .unset, .unset] [(.ref b24)])) _
      refine XS.dup X24.here hx rfl (hb hby at_254) rfl rfl ?_
      show Steps p.tables e below (T24.setTop (mkF m 255 #[.val (.int i0), .val (.int i1), .val (.int (1 : Int32)), .val (.int f), .val (.int v0), .val (.int v1), .val (.int v2), .val (.int v3), .val (.double d0), .second, .val (.double d1), .second, .val (.double d2), .second, .val (.double d3), .second, .val (.ref b15), .val (.ref b19), .unset, .unset, .unset] [(.ref b24), (.ref b24)])) _
      refine XS.iconst X24.here hx rfl (hb hby at_255) ?_
      show Steps p.tables e below (T24.setTop (mkF m 256 #[.val (.int i0), .val (.int i1), .val (.int (1 : Int32)), .val (.int f), .val (.int v0), .val (.int v1), .val (.int v2), .val (.int v3), .val (.double d0), .second, .val (.double d1), .second, .val (.double d2), .second, .val (.double d3), .second, .val (.ref b15), .val (.ref b19), .unset, .unset, .unset] [(.int (0 : Int32)), (.ref b24), (.ref b24)])) _
      refine XS.iload X24.here hx rfl (hb hby at_256) rfl ?_
      exact Steps.refl _
    have Vp26 : Arv Z _ b24 kA24 .int (4 : Int32) [(.int 0)] (.int 0) := V24.pad (pad_rep [] (.int 0) 1)
    obtain ⟨cl26, Ar26, qr26, S26, M26, Hs26, U26⟩ := Vp26
    obtain ⟨T26, h26, X26, e26, W26, st26⟩ := stI X24 hx hZ e24 Ar26 (j := (0 : Int32)) (inb_of S26 ⟨(by decide), (by decide)⟩) (g := (mkF m 258 #[.val (.int i0), .val (.int i1), .val (.int (1 : Int32)), .val (.int f), .val (.int v0), .val (.int v1), .val (.int v2), .val (.int v3), .val (.double d0), .second, .val (.double d1), .second, .val (.double d2), .second, .val (.double d3), .second, .val (.ref b15), .val (.ref b19), .unset, .unset, .unset] [(.int v0), (.int (0 : Int32)), (.ref b24), (.ref b24)])) rfl rfl (hb hby at_258)
    have V26 : Arv Z h26 b24 kA24 .int (4 : Int32) [(.int v0)] (.int 0) := Arv.set Ar26 qr26 S26 M26 Hs26 U26 rfl W26 0 rfl (Nat.le_of_ble_eq_true rfl)
    have c26 : Steps p.tables e below S0 (T26.setTop (mkF m 259 #[.val (.int i0), .val (.int i1), .val (.int (1 : Int32)), .val (.int f), .val (.int v0), .val (.int v1), .val (.int v2), .val (.int v3), .val (.double d0), .second, .val (.double d1), .second, .val (.double d2), .second, .val (.double d3), .second, .val (.ref b15), .val (.ref b19), .unset, .unset, .unset] [(.ref b24)])) := by
      refine c25.trans ?_
      show Steps p.tables e below (T24.setTop (mkF m 258 #[.val (.int i0), .val (.int i1), .val (.int (1 : Int32)), .val (.int f), .val (.int v0), .val (.int v1), .val (.int v2), .val (.int v3), .val (.double d0), .second, .val (.double d1), .second, .val (.double d2), .second, .val (.double d3), .second, .val (.ref b15), .val (.ref b19), .unset, .unset, .unset] [(.int v0), (.int (0 : Int32)), (.ref b24), (.ref b24)])) _
      refine st26 _ ?_
      exact Steps.refl _
    have Nv0 := Fr.snoc X26 Nd0 gb24
    have Zh := Nat.le_trans Zh (Nat.le_of_eq (own_wsz W26).symm)
    have hk := Nat.le_trans hk (Nat.le_of_eq (own_wsz W26).symm)
    have c27 : Steps p.tables e below S0 (T26.setTop (mkF m 263 #[.val (.int i0), .val (.int i1), .val (.int (1 : Int32)), .val (.int f), .val (.int v0), .val (.int v1), .val (.int v2), .val (.int v3), .val (.double d0), .second, .val (.double d1), .second, .val (.double d2), .second, .val (.double d3), .second, .val (.ref b15), .val (.ref b19), .unset, .unset, .unset] [(.int v1), (.int (1 : Int32)), (.ref b24), (.ref b24)])) := by
      refine c26.trans ?_
      show Steps p.tables e below (T26.setTop (mkF m 259 #[.val (.int i0), .val (.int i1), .val (.int (1 : Int32)), .val (.int f), .val (.int v0), .val (.int v1), .val (.int v2), .val (.int v3), .val (.double d0), .second, .val (.double d1), .second, .val (.double d2), .second, .val (.double d3), .second, .val (.ref b15), .val (.ref b19), .unset, .unset, .unset] [(.ref b24)])) _
      refine XS.dup X26.here hx rfl (hb hby at_259) rfl rfl ?_
      show Steps p.tables e below (T26.setTop (mkF m 260 #[.val (.int i0), .val (.int i1), .val (.int (1 : Int32)), .val (.int f), .val (.int v0), .val (.int v1), .val (.int v2), .val (.int v3), .val (.double d0), .second, .val (.double d1), .second, .val (.double d2), .second, .val (.double d3), .second, .val (.ref b15), .val (.ref b19), .unset, .unset, .unset] [(.ref b24), (.ref b24)])) _
      refine XS.iconst X26.here hx rfl (hb hby at_260) ?_
      show Steps p.tables e below (T26.setTop (mkF m 261 #[.val (.int i0), .val (.int i1), .val (.int (1 : Int32)), .val (.int f), .val (.int v0), .val (.int v1), .val (.int v2), .val (.int v3), .val (.double d0), .second, .val (.double d1), .second, .val (.double d2), .second, .val (.double d3), .second, .val (.ref b15), .val (.ref b19), .unset, .unset, .unset] [(.int (1 : Int32)), (.ref b24), (.ref b24)])) _
      refine XS.iload X26.here hx rfl (hb hby at_261) rfl ?_
      exact Steps.refl _
    have Vp28 : Arv Z _ b24 kA24 .int (4 : Int32) [(.int v0), (.int 0)] (.int 0) := V26.pad (pad_rep [(.int v0)] (.int 0) 1)
    obtain ⟨cl28, Ar28, qr28, S28, M28, Hs28, U28⟩ := Vp28
    obtain ⟨T28, h28, X28, e28, W28, st28⟩ := stI X26 hx hZ e26 Ar28 (j := (1 : Int32)) (inb_of S28 ⟨(by decide), (by decide)⟩) (g := (mkF m 263 #[.val (.int i0), .val (.int i1), .val (.int (1 : Int32)), .val (.int f), .val (.int v0), .val (.int v1), .val (.int v2), .val (.int v3), .val (.double d0), .second, .val (.double d1), .second, .val (.double d2), .second, .val (.double d3), .second, .val (.ref b15), .val (.ref b19), .unset, .unset, .unset] [(.int v1), (.int (1 : Int32)), (.ref b24), (.ref b24)])) rfl rfl (hb hby at_263)
    have V28 : Arv Z h28 b24 kA24 .int (4 : Int32) [(.int v0), (.int v1)] (.int 0) := Arv.set Ar28 qr28 S28 M28 Hs28 U28 rfl W28 1 rfl (Nat.le_of_ble_eq_true rfl)
    have c28 : Steps p.tables e below S0 (T28.setTop (mkF m 264 #[.val (.int i0), .val (.int i1), .val (.int (1 : Int32)), .val (.int f), .val (.int v0), .val (.int v1), .val (.int v2), .val (.int v3), .val (.double d0), .second, .val (.double d1), .second, .val (.double d2), .second, .val (.double d3), .second, .val (.ref b15), .val (.ref b19), .unset, .unset, .unset] [(.ref b24)])) := by
      refine c27.trans ?_
      show Steps p.tables e below (T26.setTop (mkF m 263 #[.val (.int i0), .val (.int i1), .val (.int (1 : Int32)), .val (.int f), .val (.int v0), .val (.int v1), .val (.int v2), .val (.int v3), .val (.double d0), .second, .val (.double d1), .second, .val (.double d2), .second, .val (.double d3), .second, .val (.ref b15), .val (.ref b19), .unset, .unset, .unset] [(.int v1), (.int (1 : Int32)), (.ref b24), (.ref b24)])) _
      refine st28 _ ?_
      exact Steps.refl _
    have Nv1 := Fr.snoc X28 Nv0 gb24
    have Zh := Nat.le_trans Zh (Nat.le_of_eq (own_wsz W28).symm)
    have hk := Nat.le_trans hk (Nat.le_of_eq (own_wsz W28).symm)
    have c29 : Steps p.tables e below S0 (T28.setTop (mkF m 268 #[.val (.int i0), .val (.int i1), .val (.int (1 : Int32)), .val (.int f), .val (.int v0), .val (.int v1), .val (.int v2), .val (.int v3), .val (.double d0), .second, .val (.double d1), .second, .val (.double d2), .second, .val (.double d3), .second, .val (.ref b15), .val (.ref b19), .unset, .unset, .unset] [(.int v2), (.int (2 : Int32)), (.ref b24), (.ref b24)])) := by
      refine c28.trans ?_
      show Steps p.tables e below (T28.setTop (mkF m 264 #[.val (.int i0), .val (.int i1), .val (.int (1 : Int32)), .val (.int f), .val (.int v0), .val (.int v1), .val (.int v2), .val (.int v3), .val (.double d0), .second, .val (.double d1), .second, .val (.double d2), .second, .val (.double d3), .second, .val (.ref b15), .val (.ref b19), .unset, .unset, .unset] [(.ref b24)])) _
      refine XS.dup X28.here hx rfl (hb hby at_264) rfl rfl ?_
      show Steps p.tables e below (T28.setTop (mkF m 265 #[.val (.int i0), .val (.int i1), .val (.int (1 : Int32)), .val (.int f), .val (.int v0), .val (.int v1), .val (.int v2), .val (.int v3), .val (.double d0), .second, .val (.double d1), .second, .val (.double d2), .second, .val (.double d3), .second, .val (.ref b15), .val (.ref b19), .unset, .unset, .unset] [(.ref b24), (.ref b24)])) _
      refine XS.iconst X28.here hx rfl (hb hby at_265) ?_
      show Steps p.tables e below (T28.setTop (mkF m 266 #[.val (.int i0), .val (.int i1), .val (.int (1 : Int32)), .val (.int f), .val (.int v0), .val (.int v1), .val (.int v2), .val (.int v3), .val (.double d0), .second, .val (.double d1), .second, .val (.double d2), .second, .val (.double d3), .second, .val (.ref b15), .val (.ref b19), .unset, .unset, .unset] [(.int (2 : Int32)), (.ref b24), (.ref b24)])) _
      refine XS.iload X28.here hx rfl (hb hby at_266) rfl ?_
      exact Steps.refl _
    have Vp30 : Arv Z _ b24 kA24 .int (4 : Int32) [(.int v0), (.int v1), (.int 0)] (.int 0) := V28.pad (pad_rep [(.int v0), (.int v1)] (.int 0) 1)
    obtain ⟨cl30, Ar30, qr30, S30, M30, Hs30, U30⟩ := Vp30
    obtain ⟨T30, h30, X30, e30, W30, st30⟩ := stI X28 hx hZ e28 Ar30 (j := (2 : Int32)) (inb_of S30 ⟨(by decide), (by decide)⟩) (g := (mkF m 268 #[.val (.int i0), .val (.int i1), .val (.int (1 : Int32)), .val (.int f), .val (.int v0), .val (.int v1), .val (.int v2), .val (.int v3), .val (.double d0), .second, .val (.double d1), .second, .val (.double d2), .second, .val (.double d3), .second, .val (.ref b15), .val (.ref b19), .unset, .unset, .unset] [(.int v2), (.int (2 : Int32)), (.ref b24), (.ref b24)])) rfl rfl (hb hby at_268)
    have V30 : Arv Z h30 b24 kA24 .int (4 : Int32) [(.int v0), (.int v1), (.int v2)] (.int 0) := Arv.set Ar30 qr30 S30 M30 Hs30 U30 rfl W30 2 rfl (Nat.le_of_ble_eq_true rfl)
    have c30 : Steps p.tables e below S0 (T30.setTop (mkF m 269 #[.val (.int i0), .val (.int i1), .val (.int (1 : Int32)), .val (.int f), .val (.int v0), .val (.int v1), .val (.int v2), .val (.int v3), .val (.double d0), .second, .val (.double d1), .second, .val (.double d2), .second, .val (.double d3), .second, .val (.ref b15), .val (.ref b19), .unset, .unset, .unset] [(.ref b24)])) := by
      refine c29.trans ?_
      show Steps p.tables e below (T28.setTop (mkF m 268 #[.val (.int i0), .val (.int i1), .val (.int (1 : Int32)), .val (.int f), .val (.int v0), .val (.int v1), .val (.int v2), .val (.int v3), .val (.double d0), .second, .val (.double d1), .second, .val (.double d2), .second, .val (.double d3), .second, .val (.ref b15), .val (.ref b19), .unset, .unset, .unset] [(.int v2), (.int (2 : Int32)), (.ref b24), (.ref b24)])) _
      refine st30 _ ?_
      exact Steps.refl _
    have Nv2 := Fr.snoc X30 Nv1 gb24
    have Zh := Nat.le_trans Zh (Nat.le_of_eq (own_wsz W30).symm)
    have hk := Nat.le_trans hk (Nat.le_of_eq (own_wsz W30).symm)
    have c31 : Steps p.tables e below S0 (T30.setTop (mkF m 273 #[.val (.int i0), .val (.int i1), .val (.int (1 : Int32)), .val (.int f), .val (.int v0), .val (.int v1), .val (.int v2), .val (.int v3), .val (.double d0), .second, .val (.double d1), .second, .val (.double d2), .second, .val (.double d3), .second, .val (.ref b15), .val (.ref b19), .unset, .unset, .unset] [(.int v3), (.int (3 : Int32)), (.ref b24), (.ref b24)])) := by
      refine c30.trans ?_
      show Steps p.tables e below (T30.setTop (mkF m 269 #[.val (.int i0), .val (.int i1), .val (.int (1 : Int32)), .val (.int f), .val (.int v0), .val (.int v1), .val (.int v2), .val (.int v3), .val (.double d0), .second, .val (.double d1), .second, .val (.double d2), .second, .val (.double d3), .second, .val (.ref b15), .val (.ref b19), .unset, .unset, .unset] [(.ref b24)])) _
      refine XS.dup X30.here hx rfl (hb hby at_269) rfl rfl ?_
      show Steps p.tables e below (T30.setTop (mkF m 270 #[.val (.int i0), .val (.int i1), .val (.int (1 : Int32)), .val (.int f), .val (.int v0), .val (.int v1), .val (.int v2), .val (.int v3), .val (.double d0), .second, .val (.double d1), .second, .val (.double d2), .second, .val (.double d3), .second, .val (.ref b15), .val (.ref b19), .unset, .unset, .unset] [(.ref b24), (.ref b24)])) _
      refine XS.iconst X30.here hx rfl (hb hby at_270) ?_
      show Steps p.tables e below (T30.setTop (mkF m 271 #[.val (.int i0), .val (.int i1), .val (.int (1 : Int32)), .val (.int f), .val (.int v0), .val (.int v1), .val (.int v2), .val (.int v3), .val (.double d0), .second, .val (.double d1), .second, .val (.double d2), .second, .val (.double d3), .second, .val (.ref b15), .val (.ref b19), .unset, .unset, .unset] [(.int (3 : Int32)), (.ref b24), (.ref b24)])) _
      refine XS.iload X30.here hx rfl (hb hby at_271) rfl ?_
      exact Steps.refl _
    have Vp32 : Arv Z _ b24 kA24 .int (4 : Int32) [(.int v0), (.int v1), (.int v2), (.int 0)] (.int 0) := V30.pad (pad_rep [(.int v0), (.int v1), (.int v2)] (.int 0) 1)
    obtain ⟨cl32, Ar32, qr32, S32, M32, Hs32, U32⟩ := Vp32
    obtain ⟨T32, h32, X32, e32, W32, st32⟩ := stI X30 hx hZ e30 Ar32 (j := (3 : Int32)) (inb_of S32 ⟨(by decide), (by decide)⟩) (g := (mkF m 273 #[.val (.int i0), .val (.int i1), .val (.int (1 : Int32)), .val (.int f), .val (.int v0), .val (.int v1), .val (.int v2), .val (.int v3), .val (.double d0), .second, .val (.double d1), .second, .val (.double d2), .second, .val (.double d3), .second, .val (.ref b15), .val (.ref b19), .unset, .unset, .unset] [(.int v3), (.int (3 : Int32)), (.ref b24), (.ref b24)])) rfl rfl (hb hby at_273)
    have V32 : Arv Z h32 b24 kA24 .int (4 : Int32) [(.int v0), (.int v1), (.int v2), (.int v3)] (.int 0) := Arv.set Ar32 qr32 S32 M32 Hs32 U32 rfl W32 3 rfl (Nat.le_of_ble_eq_true rfl)
    have c32 : Steps p.tables e below S0 (T32.setTop (mkF m 274 #[.val (.int i0), .val (.int i1), .val (.int (1 : Int32)), .val (.int f), .val (.int v0), .val (.int v1), .val (.int v2), .val (.int v3), .val (.double d0), .second, .val (.double d1), .second, .val (.double d2), .second, .val (.double d3), .second, .val (.ref b15), .val (.ref b19), .unset, .unset, .unset] [(.ref b24)])) := by
      refine c31.trans ?_
      show Steps p.tables e below (T30.setTop (mkF m 273 #[.val (.int i0), .val (.int i1), .val (.int (1 : Int32)), .val (.int f), .val (.int v0), .val (.int v1), .val (.int v2), .val (.int v3), .val (.double d0), .second, .val (.double d1), .second, .val (.double d2), .second, .val (.double d3), .second, .val (.ref b15), .val (.ref b19), .unset, .unset, .unset] [(.int v3), (.int (3 : Int32)), (.ref b24), (.ref b24)])) _
      refine st32 _ ?_
      exact Steps.refl _
    have Nv3 := Fr.snoc X32 Nv2 gb24
    have Zh := Nat.le_trans Zh (Nat.le_of_eq (own_wsz W32).symm)
    have hk := Nat.le_trans hk (Nat.le_of_eq (own_wsz W32).symm)
    have Vs := (((((((V17.ext E19).other W21 (Nat.ne_of_lt (Nat.lt_of_lt_of_le V17.lt (Nat.le_of_eq g19.symm)))).ext E24).other W26 (Nat.ne_of_lt (Nat.lt_of_lt_of_le ((V17.ext E19).other W21 (Nat.ne_of_lt (Nat.lt_of_lt_of_le V17.lt (Nat.le_of_eq g19.symm)))).lt (Nat.le_of_eq g24.symm)))).other W28 (Nat.ne_of_lt (Nat.lt_of_lt_of_le ((V17.ext E19).other W21 (Nat.ne_of_lt (Nat.lt_of_lt_of_le V17.lt (Nat.le_of_eq g19.symm)))).lt (Nat.le_of_eq g24.symm)))).other W30 (Nat.ne_of_lt (Nat.lt_of_lt_of_le ((V17.ext E19).other W21 (Nat.ne_of_lt (Nat.lt_of_lt_of_le V17.lt (Nat.le_of_eq g19.symm)))).lt (Nat.le_of_eq g24.symm)))).other W32 (Nat.ne_of_lt (Nat.lt_of_lt_of_le ((V17.ext E19).other W21 (Nat.ne_of_lt (Nat.lt_of_lt_of_le V17.lt (Nat.le_of_eq g19.symm)))).lt (Nat.le_of_eq g24.symm))))
    have Vd := (((((V21.ext E24).other W26 (Nat.ne_of_lt (Nat.lt_of_lt_of_le V21.lt (Nat.le_of_eq g24.symm)))).other W28 (Nat.ne_of_lt (Nat.lt_of_lt_of_le V21.lt (Nat.le_of_eq g24.symm)))).other W30 (Nat.ne_of_lt (Nat.lt_of_lt_of_le V21.lt (Nat.le_of_eq g24.symm)))).other W32 (Nat.ne_of_lt (Nat.lt_of_lt_of_le V21.lt (Nat.le_of_eq g24.symm))))
    obtain ⟨clv, Arv_, -, Sv, -, Hv, -⟩ := V32
    have hVv := own_hV (v0 := v0) (v1 := v1) (v2 := v2) (v3 := v3) Sv Hv
    generalize hVV : own_V v0 v1 v2 v3 = VV at hVv
    have c33 : Steps p.tables e below S0 (T32.setTop (mkF m 279 #[.val (.int i0), .val (.int i1), .val (.int (1 : Int32)), .val (.int f), .val (.int v0), .val (.int v1), .val (.int v2), .val (.int v3), .val (.double d0), .second, .val (.double d1), .second, .val (.double d2), .second, .val (.double d3), .second, .val (.ref b15), .val (.ref b19), .val (.ref b24), .val (.int (1 : Int32)), .unset] [])) := by
      refine c32.trans ?_
      show Steps p.tables e below (T32.setTop (mkF m 274 #[.val (.int i0), .val (.int i1), .val (.int (1 : Int32)), .val (.int f), .val (.int v0), .val (.int v1), .val (.int v2), .val (.int v3), .val (.double d0), .second, .val (.double d1), .second, .val (.double d2), .second, .val (.double d3), .second, .val (.ref b15), .val (.ref b19), .unset, .unset, .unset] [(.ref b24)])) _
      refine XS.astore X32.here hx rfl (hb hby at_274) rfl rfl (l' := #[.val (.int i0), .val (.int i1), .val (.int (1 : Int32)), .val (.int f), .val (.int v0), .val (.int v1), .val (.int v2), .val (.int v3), .val (.double d0), .second, .val (.double d1), .second, .val (.double d2), .second, .val (.double d3), .second, .val (.ref b15), .val (.ref b19), .val (.ref b24), .unset, .unset]) rfl ?_
      show Steps p.tables e below (T32.setTop (mkF m 276 #[.val (.int i0), .val (.int i1), .val (.int (1 : Int32)), .val (.int f), .val (.int v0), .val (.int v1), .val (.int v2), .val (.int v3), .val (.double d0), .second, .val (.double d1), .second, .val (.double d2), .second, .val (.double d3), .second, .val (.ref b15), .val (.ref b19), .val (.ref b24), .unset, .unset] [])) _
      refine XS.iloadN X32.here hx rfl (hb hby at_276) rfl ?_
      show Steps p.tables e below (T32.setTop (mkF m 277 #[.val (.int i0), .val (.int i1), .val (.int (1 : Int32)), .val (.int f), .val (.int v0), .val (.int v1), .val (.int v2), .val (.int v3), .val (.double d0), .second, .val (.double d1), .second, .val (.double d2), .second, .val (.double d3), .second, .val (.ref b15), .val (.ref b19), .val (.ref b24), .unset, .unset] [(.int (1 : Int32))])) _
      refine XS.istore X32.here hx rfl (hb hby at_277) rfl (l' := #[.val (.int i0), .val (.int i1), .val (.int (1 : Int32)), .val (.int f), .val (.int v0), .val (.int v1), .val (.int v2), .val (.int v3), .val (.double d0), .second, .val (.double d1), .second, .val (.double d2), .second, .val (.double d3), .second, .val (.ref b15), .val (.ref b19), .val (.ref b24), .val (.int (1 : Int32)), .unset]) rfl ?_
      exact Steps.refl _
    have c34 : Steps p.tables e below S0 (T32.setTop (mkF m 283 #[.val (.int i0), .val (.int i1), .val (.int (1 : Int32)), .val (.int f), .val (.int v0), .val (.int v1), .val (.int v2), .val (.int v3), .val (.double d0), .second, .val (.double d1), .second, .val (.double d2), .second, .val (.double d3), .second, .val (.ref b15), .val (.ref b19), .val (.ref b24), .val (.int (1 : Int32)), .unset] [(.int (1 : Int32)), (.int (f + (3 : Int32)))])) := by
      refine c33.trans ?_
      show Steps p.tables e below (T32.setTop (mkF m 279 #[.val (.int i0), .val (.int i1), .val (.int (1 : Int32)), .val (.int f), .val (.int v0), .val (.int v1), .val (.int v2), .val (.int v3), .val (.double d0), .second, .val (.double d1), .second, .val (.double d2), .second, .val (.double d3), .second, .val (.ref b15), .val (.ref b19), .val (.ref b24), .val (.int (1 : Int32)), .unset] [])) _
      refine XS.iloadN X32.here hx rfl (hb hby at_279) rfl ?_
      show Steps p.tables e below (T32.setTop (mkF m 280 #[.val (.int i0), .val (.int i1), .val (.int (1 : Int32)), .val (.int f), .val (.int v0), .val (.int v1), .val (.int v2), .val (.int v3), .val (.double d0), .second, .val (.double d1), .second, .val (.double d2), .second, .val (.double d3), .second, .val (.ref b15), .val (.ref b19), .val (.ref b24), .val (.int (1 : Int32)), .unset] [(.int f)])) _
      refine XS.iconst X32.here hx rfl (hb hby at_280) ?_
      show Steps p.tables e below (T32.setTop (mkF m 281 #[.val (.int i0), .val (.int i1), .val (.int (1 : Int32)), .val (.int f), .val (.int v0), .val (.int v1), .val (.int v2), .val (.int v3), .val (.double d0), .second, .val (.double d1), .second, .val (.double d2), .second, .val (.double d3), .second, .val (.ref b15), .val (.ref b19), .val (.ref b24), .val (.int (1 : Int32)), .unset] [(.int (3 : Int32)), (.int f)])) _
      refine XS.iadd X32.here hx rfl (hb hby at_281) rfl ?_
      show Steps p.tables e below (T32.setTop (mkF m 282 #[.val (.int i0), .val (.int i1), .val (.int (1 : Int32)), .val (.int f), .val (.int v0), .val (.int v1), .val (.int v2), .val (.int v3), .val (.double d0), .second, .val (.double d1), .second, .val (.double d2), .second, .val (.double d3), .second, .val (.ref b15), .val (.ref b19), .val (.ref b24), .val (.int (1 : Int32)), .unset] [(.int (f + (3 : Int32)))])) _
      refine XS.iloadN X32.here hx rfl (hb hby at_282) rfl ?_
      exact Steps.refl _
    have c35 : Steps p.tables e below S0 (T32.setTop (mkF m 304 #[.val (.int i0), .val (.int i1), .val (.int (1 : Int32)), .val (.int f), .val (.int v0), .val (.int v1), .val (.int v2), .val (.int v3), .val (.double d0), .second, .val (.double d1), .second, .val (.double d2), .second, .val (.double d3), .second, .val (.ref b15), .val (.ref b19), .val (.ref b24), .val (.int (if (f + (3 : Int32)) < (1 : Int32) then (if VV (f + (3 : Int32)) = VV f then (1 : Int32) else (f + (3 : Int32))) else (1 : Int32))), .unset] [])) := by
      refine c34.trans ?_
      by_cases h1 : (f + (3 : Int32)) < (1 : Int32)
      · obtain ⟨hq0, hq4⟩ := own_place (k := 3) (n := 1) hf0 hfN (by decide) h1
        rw [if_pos h1]
        by_cases h2 : VV (f + (3 : Int32)) = VV f
        · rw [if_pos h2]
          show Steps p.tables e below (T32.setTop (mkF m 283 #[.val (.int i0), .val (.int i1), .val (.int (1 : Int32)), .val (.int f), .val (.int v0), .val (.int v1), .val (.int v2), .val (.int v3), .val (.double d0), .second, .val (.double d1), .second, .val (.double d2), .second, .val (.double d3), .second, .val (.ref b15), .val (.ref b19), .val (.ref b24), .val (.int (1 : Int32)), .unset] [(.int (1 : Int32)), (.int (f + (3 : Int32)))])) _
          refine XS.icmpNo X32.here hx rfl (hb hby at_283) rfl (tlt h1).2.1 ?_
          show Steps p.tables e below (T32.setTop (mkF m 286 #[.val (.int i0), .val (.int i1), .val (.int (1 : Int32)), .val (.int f), .val (.int v0), .val (.int v1), .val (.int v2), .val (.int v3), .val (.double d0), .second, .val (.double d1), .second, .val (.double d2), .second, .val (.double d3), .second, .val (.ref b15), .val (.ref b19), .val (.ref b24), .val (.int (1 : Int32)), .unset] [])) _
          refine XS.aload X32.here hx rfl (hb hby at_286) rfl rfl ?_
          show Steps p.tables e below (T32.setTop (mkF m 288 #[.val (.int i0), .val (.int i1), .val (.int (1 : Int32)), .val (.int f), .val (.int v0), .val (.int v1), .val (.int v2), .val (.int v3), .val (.double d0), .second, .val (.double d1), .second, .val (.double d2), .second, .val (.double d3), .second, .val (.ref b15), .val (.ref b19), .val (.ref b24), .val (.int (1 : Int32)), .unset] [(.ref b24)])) _
          refine XS.iloadN X32.here hx rfl (hb hby at_288) rfl ?_
          show Steps p.tables e below (T32.setTop (mkF m 289 #[.val (.int i0), .val (.int i1), .val (.int (1 : Int32)), .val (.int f), .val (.int v0), .val (.int v1), .val (.int v2), .val (.int v3), .val (.double d0), .second, .val (.double d1), .second, .val (.double d2), .second, .val (.double d3), .second, .val (.ref b15), .val (.ref b19), .val (.ref b24), .val (.int (1 : Int32)), .unset] [(.int f), (.ref b24)])) _
          refine XS.iconst X32.here hx rfl (hb hby at_289) ?_
          show Steps p.tables e below (T32.setTop (mkF m 290 #[.val (.int i0), .val (.int i1), .val (.int (1 : Int32)), .val (.int f), .val (.int v0), .val (.int v1), .val (.int v2), .val (.int v3), .val (.double d0), .second, .val (.double d1), .second, .val (.double d2), .second, .val (.double d3), .second, .val (.ref b15), .val (.ref b19), .val (.ref b24), .val (.int (1 : Int32)), .unset] [(.int (3 : Int32)), (.int f), (.ref b24)])) _
          refine XS.iadd X32.here hx rfl (hb hby at_290) rfl ?_
          show Steps p.tables e below (T32.setTop (mkF m 291 #[.val (.int i0), .val (.int i1), .val (.int (1 : Int32)), .val (.int f), .val (.int v0), .val (.int v1), .val (.int v2), .val (.int v3), .val (.double d0), .second, .val (.double d1), .second, .val (.double d2), .second, .val (.double d3), .second, .val (.ref b15), .val (.ref b19), .val (.ref b24), .val (.int (1 : Int32)), .unset] [(.int (f + (3 : Int32))), (.ref b24)])) _
          refine X32.iaload hx (j := (f + (3 : Int32))) (v := .int (VV (f + (3 : Int32)))) (by rw [e32]; exact Arv_.1) (State.isArrayOf_alike hZ.alike Arv_.2.1) Arv_.2.2 (inb_of Sv ⟨hq0, hq4⟩) (hVv _ hq0 hq4) (g := (mkF m 291 #[.val (.int i0), .val (.int i1), .val (.int (1 : Int32)), .val (.int f), .val (.int v0), .val (.int v1), .val (.int v2), .val (.int v3), .val (.double d0), .second, .val (.double d1), .second, .val (.double d2), .second, .val (.double d3), .second, .val (.ref b15), .val (.ref b19), .val (.ref b24), .val (.int (1 : Int32)), .unset] [(.int (f + (3 : Int32))), (.ref b24)])) rfl rfl (hb hby at_291) _ ?_
          show Steps p.tables e below (T32.setTop (mkF m 292 #[.val (.int i0), .val (.int i1), .val (.int (1 : Int32)), .val (.int f), .val (.int v0), .val (.int v1), .val (.int v2), .val (.int v3), .val (.double d0), .second, .val (.double d1), .second, .val (.double d2), .second, .val (.double d3), .second, .val (.ref b15), .val (.ref b19), .val (.ref b24), .val (.int (1 : Int32)), .unset] [(.int (VV (f + (3 : Int32))))])) _
          refine XS.aload X32.here hx rfl (hb hby at_292) rfl rfl ?_
          show Steps p.tables e below (T32.setTop (mkF m 294 #[.val (.int i0), .val (.int i1), .val (.int (1 : Int32)), .val (.int f), .val (.int v0), .val (.int v1), .val (.int v2), .val (.int v3), .val (.double d0), .second, .val (.double d1), .second, .val (.double d2), .second, .val (.double d3), .second, .val (.ref b15), .val (.ref b19), .val (.ref b24), .val (.int (1 : Int32)), .unset] [(.ref b24), (.int (VV (f + (3 : Int32))))])) _
          refine XS.iloadN X32.here hx rfl (hb hby at_294) rfl ?_
          show Steps p.tables e below (T32.setTop (mkF m 295 #[.val (.int i0), .val (.int i1), .val (.int (1 : Int32)), .val (.int f), .val (.int v0), .val (.int v1), .val (.int v2), .val (.int v3), .val (.double d0), .second, .val (.double d1), .second, .val (.double d2), .second, .val (.double d3), .second, .val (.ref b15), .val (.ref b19), .val (.ref b24), .val (.int (1 : Int32)), .unset] [(.int f), (.ref b24), (.int (VV (f + (3 : Int32))))])) _
          refine X32.iaload hx (j := f) (v := .int (VV f)) (by rw [e32]; exact Arv_.1) (State.isArrayOf_alike hZ.alike Arv_.2.1) Arv_.2.2 (inb_of Sv ⟨hf0, hf4⟩) (hVv _ hf0 hf4) (g := (mkF m 295 #[.val (.int i0), .val (.int i1), .val (.int (1 : Int32)), .val (.int f), .val (.int v0), .val (.int v1), .val (.int v2), .val (.int v3), .val (.double d0), .second, .val (.double d1), .second, .val (.double d2), .second, .val (.double d3), .second, .val (.ref b15), .val (.ref b19), .val (.ref b24), .val (.int (1 : Int32)), .unset] [(.int f), (.ref b24), (.int (VV (f + (3 : Int32))))])) rfl rfl (hb hby at_295) _ ?_
          show Steps p.tables e below (T32.setTop (mkF m 296 #[.val (.int i0), .val (.int i1), .val (.int (1 : Int32)), .val (.int f), .val (.int v0), .val (.int v1), .val (.int v2), .val (.int v3), .val (.double d0), .second, .val (.double d1), .second, .val (.double d2), .second, .val (.double d3), .second, .val (.ref b15), .val (.ref b19), .val (.ref b24), .val (.int (1 : Int32)), .unset] [(.int (VV f)), (.int (VV (f + (3 : Int32))))])) _
          refine XS.icmpYes X32.here hx rfl (pc0 := 296) (pc' := 304) rfl (hb hby at_296) rfl (teq h2).1 (by decide) (by decide) ?_
          exact Steps.refl _
        · rw [if_neg h2]
          show Steps p.tables e below (T32.setTop (mkF m 283 #[.val (.int i0), .val (.int i1), .val (.int (1 : Int32)), .val (.int f), .val (.int v0), .val (.int v1), .val (.int v2), .val (.int v3), .val (.double d0), .second, .val (.double d1), .second, .val (.double d2), .second, .val (.double d3), .second, .val (.ref b15), .val (.ref b19), .val (.ref b24), .val (.int (1 : Int32)), .unset] [(.int (1 : Int32)), (.int (f + (3 : Int32)))])) _
          refine XS.icmpNo X32.here hx rfl (hb hby at_283) rfl (tlt h1).2.1 ?_
          show Steps p.tables e below (T32.setTop (mkF m 286 #[.val (.int i0), .val (.int i1), .val (.int (1 : Int32)), .val (.int f), .val (.int v0), .val (.int v1), .val (.int v2), .val (.int v3), .val (.double d0), .second, .val (.double d1), .second, .val (.double d2), .second, .val (.double d3), .second, .val (.ref b15), .val (.ref b19), .val (.ref b24), .val (.int (1 : Int32)), .unset] [])) _
          refine XS.aload X32.here hx rfl (hb hby at_286) rfl rfl ?_
          show Steps p.tables e below (T32.setTop (mkF m 288 #[.val (.int i0), .val (.int i1), .val (.int (1 : Int32)), .val (.int f), .val (.int v0), .val (.int v1), .val (.int v2), .val (.int v3), .val (.double d0), .second, .val (.double d1), .second, .val (.double d2), .second, .val (.double d3), .second, .val (.ref b15), .val (.ref b19), .val (.ref b24), .val (.int (1 : Int32)), .unset] [(.ref b24)])) _
          refine XS.iloadN X32.here hx rfl (hb hby at_288) rfl ?_
          show Steps p.tables e below (T32.setTop (mkF m 289 #[.val (.int i0), .val (.int i1), .val (.int (1 : Int32)), .val (.int f), .val (.int v0), .val (.int v1), .val (.int v2), .val (.int v3), .val (.double d0), .second, .val (.double d1), .second, .val (.double d2), .second, .val (.double d3), .second, .val (.ref b15), .val (.ref b19), .val (.ref b24), .val (.int (1 : Int32)), .unset] [(.int f), (.ref b24)])) _
          refine XS.iconst X32.here hx rfl (hb hby at_289) ?_
          show Steps p.tables e below (T32.setTop (mkF m 290 #[.val (.int i0), .val (.int i1), .val (.int (1 : Int32)), .val (.int f), .val (.int v0), .val (.int v1), .val (.int v2), .val (.int v3), .val (.double d0), .second, .val (.double d1), .second, .val (.double d2), .second, .val (.double d3), .second, .val (.ref b15), .val (.ref b19), .val (.ref b24), .val (.int (1 : Int32)), .unset] [(.int (3 : Int32)), (.int f), (.ref b24)])) _
          refine XS.iadd X32.here hx rfl (hb hby at_290) rfl ?_
          show Steps p.tables e below (T32.setTop (mkF m 291 #[.val (.int i0), .val (.int i1), .val (.int (1 : Int32)), .val (.int f), .val (.int v0), .val (.int v1), .val (.int v2), .val (.int v3), .val (.double d0), .second, .val (.double d1), .second, .val (.double d2), .second, .val (.double d3), .second, .val (.ref b15), .val (.ref b19), .val (.ref b24), .val (.int (1 : Int32)), .unset] [(.int (f + (3 : Int32))), (.ref b24)])) _
          refine X32.iaload hx (j := (f + (3 : Int32))) (v := .int (VV (f + (3 : Int32)))) (by rw [e32]; exact Arv_.1) (State.isArrayOf_alike hZ.alike Arv_.2.1) Arv_.2.2 (inb_of Sv ⟨hq0, hq4⟩) (hVv _ hq0 hq4) (g := (mkF m 291 #[.val (.int i0), .val (.int i1), .val (.int (1 : Int32)), .val (.int f), .val (.int v0), .val (.int v1), .val (.int v2), .val (.int v3), .val (.double d0), .second, .val (.double d1), .second, .val (.double d2), .second, .val (.double d3), .second, .val (.ref b15), .val (.ref b19), .val (.ref b24), .val (.int (1 : Int32)), .unset] [(.int (f + (3 : Int32))), (.ref b24)])) rfl rfl (hb hby at_291) _ ?_
          show Steps p.tables e below (T32.setTop (mkF m 292 #[.val (.int i0), .val (.int i1), .val (.int (1 : Int32)), .val (.int f), .val (.int v0), .val (.int v1), .val (.int v2), .val (.int v3), .val (.double d0), .second, .val (.double d1), .second, .val (.double d2), .second, .val (.double d3), .second, .val (.ref b15), .val (.ref b19), .val (.ref b24), .val (.int (1 : Int32)), .unset] [(.int (VV (f + (3 : Int32))))])) _
          refine XS.aload X32.here hx rfl (hb hby at_292) rfl rfl ?_
          show Steps p.tables e below (T32.setTop (mkF m 294 #[.val (.int i0), .val (.int i1), .val (.int (1 : Int32)), .val (.int f), .val (.int v0), .val (.int v1), .val (.int v2), .val (.int v3), .val (.double d0), .second, .val (.double d1), .second, .val (.double d2), .second, .val (.double d3), .second, .val (.ref b15), .val (.ref b19), .val (.ref b24), .val (.int (1 : Int32)), .unset] [(.ref b24), (.int (VV (f + (3 : Int32))))])) _
          refine XS.iloadN X32.here hx rfl (hb hby at_294) rfl ?_
          show Steps p.tables e below (T32.setTop (mkF m 295 #[.val (.int i0), .val (.int i1), .val (.int (1 : Int32)), .val (.int f), .val (.int v0), .val (.int v1), .val (.int v2), .val (.int v3), .val (.double d0), .second, .val (.double d1), .second, .val (.double d2), .second, .val (.double d3), .second, .val (.ref b15), .val (.ref b19), .val (.ref b24), .val (.int (1 : Int32)), .unset] [(.int f), (.ref b24), (.int (VV (f + (3 : Int32))))])) _
          refine X32.iaload hx (j := f) (v := .int (VV f)) (by rw [e32]; exact Arv_.1) (State.isArrayOf_alike hZ.alike Arv_.2.1) Arv_.2.2 (inb_of Sv ⟨hf0, hf4⟩) (hVv _ hf0 hf4) (g := (mkF m 295 #[.val (.int i0), .val (.int i1), .val (.int (1 : Int32)), .val (.int f), .val (.int v0), .val (.int v1), .val (.int v2), .val (.int v3), .val (.double d0), .second, .val (.double d1), .second, .val (.double d2), .second, .val (.double d3), .second, .val (.ref b15), .val (.ref b19), .val (.ref b24), .val (.int (1 : Int32)), .unset] [(.int f), (.ref b24), (.int (VV (f + (3 : Int32))))])) rfl rfl (hb hby at_295) _ ?_
          show Steps p.tables e below (T32.setTop (mkF m 296 #[.val (.int i0), .val (.int i1), .val (.int (1 : Int32)), .val (.int f), .val (.int v0), .val (.int v1), .val (.int v2), .val (.int v3), .val (.double d0), .second, .val (.double d1), .second, .val (.double d2), .second, .val (.double d3), .second, .val (.ref b15), .val (.ref b19), .val (.ref b24), .val (.int (1 : Int32)), .unset] [(.int (VV f)), (.int (VV (f + (3 : Int32))))])) _
          refine XS.icmpNo X32.here hx rfl (hb hby at_296) rfl (feq h2).1 ?_
          show Steps p.tables e below (T32.setTop (mkF m 299 #[.val (.int i0), .val (.int i1), .val (.int (1 : Int32)), .val (.int f), .val (.int v0), .val (.int v1), .val (.int v2), .val (.int v3), .val (.double d0), .second, .val (.double d1), .second, .val (.double d2), .second, .val (.double d3), .second, .val (.ref b15), .val (.ref b19), .val (.ref b24), .val (.int (1 : Int32)), .unset] [])) _
          refine XS.iloadN X32.here hx rfl (hb hby at_299) rfl ?_
          show Steps p.tables e below (T32.setTop (mkF m 300 #[.val (.int i0), .val (.int i1), .val (.int (1 : Int32)), .val (.int f), .val (.int v0), .val (.int v1), .val (.int v2), .val (.int v3), .val (.double d0), .second, .val (.double d1), .second, .val (.double d2), .second, .val (.double d3), .second, .val (.ref b15), .val (.ref b19), .val (.ref b24), .val (.int (1 : Int32)), .unset] [(.int f)])) _
          refine XS.iconst X32.here hx rfl (hb hby at_300) ?_
          show Steps p.tables e below (T32.setTop (mkF m 301 #[.val (.int i0), .val (.int i1), .val (.int (1 : Int32)), .val (.int f), .val (.int v0), .val (.int v1), .val (.int v2), .val (.int v3), .val (.double d0), .second, .val (.double d1), .second, .val (.double d2), .second, .val (.double d3), .second, .val (.ref b15), .val (.ref b19), .val (.ref b24), .val (.int (1 : Int32)), .unset] [(.int (3 : Int32)), (.int f)])) _
          refine XS.iadd X32.here hx rfl (hb hby at_301) rfl ?_
          show Steps p.tables e below (T32.setTop (mkF m 302 #[.val (.int i0), .val (.int i1), .val (.int (1 : Int32)), .val (.int f), .val (.int v0), .val (.int v1), .val (.int v2), .val (.int v3), .val (.double d0), .second, .val (.double d1), .second, .val (.double d2), .second, .val (.double d3), .second, .val (.ref b15), .val (.ref b19), .val (.ref b24), .val (.int (1 : Int32)), .unset] [(.int (f + (3 : Int32)))])) _
          refine XS.istore X32.here hx rfl (hb hby at_302) rfl (l' := #[.val (.int i0), .val (.int i1), .val (.int (1 : Int32)), .val (.int f), .val (.int v0), .val (.int v1), .val (.int v2), .val (.int v3), .val (.double d0), .second, .val (.double d1), .second, .val (.double d2), .second, .val (.double d3), .second, .val (.ref b15), .val (.ref b19), .val (.ref b24), .val (.int (f + (3 : Int32))), .unset]) rfl ?_
          exact Steps.refl _
      · rw [if_neg h1]
        show Steps p.tables e below (T32.setTop (mkF m 283 #[.val (.int i0), .val (.int i1), .val (.int (1 : Int32)), .val (.int f), .val (.int v0), .val (.int v1), .val (.int v2), .val (.int v3), .val (.double d0), .second, .val (.double d1), .second, .val (.double d2), .second, .val (.double d3), .second, .val (.ref b15), .val (.ref b19), .val (.ref b24), .val (.int (1 : Int32)), .unset] [(.int (1 : Int32)), (.int (f + (3 : Int32)))])) _
        refine XS.icmpYes X32.here hx rfl (pc0 := 283) (pc' := 304) rfl (hb hby at_283) rfl (flt h1).2.1 (by decide) (by decide) ?_
        exact Steps.refl _
    generalize hx3 : (if (f + (3 : Int32)) < (1 : Int32) then (if VV (f + (3 : Int32)) = VV f then (1 : Int32) else (f + (3 : Int32))) else (1 : Int32)) = x3 at c35
    have c36 : Steps p.tables e below S0 (T32.setTop (mkF m 308 #[.val (.int i0), .val (.int i1), .val (.int (1 : Int32)), .val (.int f), .val (.int v0), .val (.int v1), .val (.int v2), .val (.int v3), .val (.double d0), .second, .val (.double d1), .second, .val (.double d2), .second, .val (.double d3), .second, .val (.ref b15), .val (.ref b19), .val (.ref b24), .val (.int x3), .unset] [(.int (1 : Int32)), (.int (f + (2 : Int32)))])) := by
      refine c35.trans ?_
      show Steps p.tables e below (T32.setTop (mkF m 304 #[.val (.int i0), .val (.int i1), .val (.int (1 : Int32)), .val (.int f), .val (.int v0), .val (.int v1), .val (.int v2), .val (.int v3), .val (.double d0), .second, .val (.double d1), .second, .val (.double d2), .second, .val (.double d3), .second, .val (.ref b15), .val (.ref b19), .val (.ref b24), .val (.int x3), .unset] [])) _
      refine XS.iloadN X32.here hx rfl (hb hby at_304) rfl ?_
      show Steps p.tables e below (T32.setTop (mkF m 305 #[.val (.int i0), .val (.int i1), .val (.int (1 : Int32)), .val (.int f), .val (.int v0), .val (.int v1), .val (.int v2), .val (.int v3), .val (.double d0), .second, .val (.double d1), .second, .val (.double d2), .second, .val (.double d3), .second, .val (.ref b15), .val (.ref b19), .val (.ref b24), .val (.int x3), .unset] [(.int f)])) _
      refine XS.iconst X32.here hx rfl (hb hby at_305) ?_
      show Steps p.tables e below (T32.setTop (mkF m 306 #[.val (.int i0), .val (.int i1), .val (.int (1 : Int32)), .val (.int f), .val (.int v0), .val (.int v1), .val (.int v2), .val (.int v3), .val (.double d0), .second, .val (.double d1), .second, .val (.double d2), .second, .val (.double d3), .second, .val (.ref b15), .val (.ref b19), .val (.ref b24), .val (.int x3), .unset] [(.int (2 : Int32)), (.int f)])) _
      refine XS.iadd X32.here hx rfl (hb hby at_306) rfl ?_
      show Steps p.tables e below (T32.setTop (mkF m 307 #[.val (.int i0), .val (.int i1), .val (.int (1 : Int32)), .val (.int f), .val (.int v0), .val (.int v1), .val (.int v2), .val (.int v3), .val (.double d0), .second, .val (.double d1), .second, .val (.double d2), .second, .val (.double d3), .second, .val (.ref b15), .val (.ref b19), .val (.ref b24), .val (.int x3), .unset] [(.int (f + (2 : Int32)))])) _
      refine XS.iloadN X32.here hx rfl (hb hby at_307) rfl ?_
      exact Steps.refl _
    have c37 : Steps p.tables e below S0 (T32.setTop (mkF m 329 #[.val (.int i0), .val (.int i1), .val (.int (1 : Int32)), .val (.int f), .val (.int v0), .val (.int v1), .val (.int v2), .val (.int v3), .val (.double d0), .second, .val (.double d1), .second, .val (.double d2), .second, .val (.double d3), .second, .val (.ref b15), .val (.ref b19), .val (.ref b24), .val (.int (if (f + (2 : Int32)) < (1 : Int32) then (if VV (f + (2 : Int32)) = VV f then x3 else (f + (2 : Int32))) else x3)), .unset] [])) := by
      refine c36.trans ?_
      by_cases h1 : (f + (2 : Int32)) < (1 : Int32)
      · obtain ⟨hq0, hq4⟩ := own_place (k := 2) (n := 1) hf0 hfN (by decide) h1
        rw [if_pos h1]
        by_cases h2 : VV (f + (2 : Int32)) = VV f
        · rw [if_pos h2]
          show Steps p.tables e below (T32.setTop (mkF m 308 #[.val (.int i0), .val (.int i1), .val (.int (1 : Int32)), .val (.int f), .val (.int v0), .val (.int v1), .val (.int v2), .val (.int v3), .val (.double d0), .second, .val (.double d1), .second, .val (.double d2), .second, .val (.double d3), .second, .val (.ref b15), .val (.ref b19), .val (.ref b24), .val (.int x3), .unset] [(.int (1 : Int32)), (.int (f + (2 : Int32)))])) _
          refine XS.icmpNo X32.here hx rfl (hb hby at_308) rfl (tlt h1).2.1 ?_
          show Steps p.tables e below (T32.setTop (mkF m 311 #[.val (.int i0), .val (.int i1), .val (.int (1 : Int32)), .val (.int f), .val (.int v0), .val (.int v1), .val (.int v2), .val (.int v3), .val (.double d0), .second, .val (.double d1), .second, .val (.double d2), .second, .val (.double d3), .second, .val (.ref b15), .val (.ref b19), .val (.ref b24), .val (.int x3), .unset] [])) _
          refine XS.aload X32.here hx rfl (hb hby at_311) rfl rfl ?_
          show Steps p.tables e below (T32.setTop (mkF m 313 #[.val (.int i0), .val (.int i1), .val (.int (1 : Int32)), .val (.int f), .val (.int v0), .val (.int v1), .val (.int v2), .val (.int v3), .val (.double d0), .second, .val (.double d1), .second, .val (.double d2), .second, .val (.double d3), .second, .val (.ref b15), .val (.ref b19), .val (.ref b24), .val (.int x3), .unset] [(.ref b24)])) _
          refine XS.iloadN X32.here hx rfl (hb hby at_313) rfl ?_
          show Steps p.tables e below (T32.setTop (mkF m 314 #[.val (.int i0), .val (.int i1), .val (.int (1 : Int32)), .val (.int f), .val (.int v0), .val (.int v1), .val (.int v2), .val (.int v3), .val (.double d0), .second, .val (.double d1), .second, .val (.double d2), .second, .val (.double d3), .second, .val (.ref b15), .val (.ref b19), .val (.ref b24), .val (.int x3), .unset] [(.int f), (.ref b24)])) _
          refine XS.iconst X32.here hx rfl (hb hby at_314) ?_
          show Steps p.tables e below (T32.setTop (mkF m 315 #[.val (.int i0), .val (.int i1), .val (.int (1 : Int32)), .val (.int f), .val (.int v0), .val (.int v1), .val (.int v2), .val (.int v3), .val (.double d0), .second, .val (.double d1), .second, .val (.double d2), .second, .val (.double d3), .second, .val (.ref b15), .val (.ref b19), .val (.ref b24), .val (.int x3), .unset] [(.int (2 : Int32)), (.int f), (.ref b24)])) _
          refine XS.iadd X32.here hx rfl (hb hby at_315) rfl ?_
          show Steps p.tables e below (T32.setTop (mkF m 316 #[.val (.int i0), .val (.int i1), .val (.int (1 : Int32)), .val (.int f), .val (.int v0), .val (.int v1), .val (.int v2), .val (.int v3), .val (.double d0), .second, .val (.double d1), .second, .val (.double d2), .second, .val (.double d3), .second, .val (.ref b15), .val (.ref b19), .val (.ref b24), .val (.int x3), .unset] [(.int (f + (2 : Int32))), (.ref b24)])) _
          refine X32.iaload hx (j := (f + (2 : Int32))) (v := .int (VV (f + (2 : Int32)))) (by rw [e32]; exact Arv_.1) (State.isArrayOf_alike hZ.alike Arv_.2.1) Arv_.2.2 (inb_of Sv ⟨hq0, hq4⟩) (hVv _ hq0 hq4) (g := (mkF m 316 #[.val (.int i0), .val (.int i1), .val (.int (1 : Int32)), .val (.int f), .val (.int v0), .val (.int v1), .val (.int v2), .val (.int v3), .val (.double d0), .second, .val (.double d1), .second, .val (.double d2), .second, .val (.double d3), .second, .val (.ref b15), .val (.ref b19), .val (.ref b24), .val (.int x3), .unset] [(.int (f + (2 : Int32))), (.ref b24)])) rfl rfl (hb hby at_316) _ ?_
          show Steps p.tables e below (T32.setTop (mkF m 317 #[.val (.int i0), .val (.int i1), .val (.int (1 : Int32)), .val (.int f), .val (.int v0), .val (.int v1), .val (.int v2), .val (.int v3), .val (.double d0), .second, .val (.double d1), .second, .val (.double d2), .second, .val (.double d3), .second, .val (.ref b15), .val (.ref b19), .val (.ref b24), .val (.int x3), .unset] [(.int (VV (f + (2 : Int32))))])) _
          refine XS.aload X32.here hx rfl (hb hby at_317) rfl rfl ?_
          show Steps p.tables e below (T32.setTop (mkF m 319 #[.val (.int i0), .val (.int i1), .val (.int (1 : Int32)), .val (.int f), .val (.int v0), .val (.int v1), .val (.int v2), .val (.int v3), .val (.double d0), .second, .val (.double d1), .second, .val (.double d2), .second, .val (.double d3), .second, .val (.ref b15), .val (.ref b19), .val (.ref b24), .val (.int x3), .unset] [(.ref b24), (.int (VV (f + (2 : Int32))))])) _
          refine XS.iloadN X32.here hx rfl (hb hby at_319) rfl ?_
          show Steps p.tables e below (T32.setTop (mkF m 320 #[.val (.int i0), .val (.int i1), .val (.int (1 : Int32)), .val (.int f), .val (.int v0), .val (.int v1), .val (.int v2), .val (.int v3), .val (.double d0), .second, .val (.double d1), .second, .val (.double d2), .second, .val (.double d3), .second, .val (.ref b15), .val (.ref b19), .val (.ref b24), .val (.int x3), .unset] [(.int f), (.ref b24), (.int (VV (f + (2 : Int32))))])) _
          refine X32.iaload hx (j := f) (v := .int (VV f)) (by rw [e32]; exact Arv_.1) (State.isArrayOf_alike hZ.alike Arv_.2.1) Arv_.2.2 (inb_of Sv ⟨hf0, hf4⟩) (hVv _ hf0 hf4) (g := (mkF m 320 #[.val (.int i0), .val (.int i1), .val (.int (1 : Int32)), .val (.int f), .val (.int v0), .val (.int v1), .val (.int v2), .val (.int v3), .val (.double d0), .second, .val (.double d1), .second, .val (.double d2), .second, .val (.double d3), .second, .val (.ref b15), .val (.ref b19), .val (.ref b24), .val (.int x3), .unset] [(.int f), (.ref b24), (.int (VV (f + (2 : Int32))))])) rfl rfl (hb hby at_320) _ ?_
          show Steps p.tables e below (T32.setTop (mkF m 321 #[.val (.int i0), .val (.int i1), .val (.int (1 : Int32)), .val (.int f), .val (.int v0), .val (.int v1), .val (.int v2), .val (.int v3), .val (.double d0), .second, .val (.double d1), .second, .val (.double d2), .second, .val (.double d3), .second, .val (.ref b15), .val (.ref b19), .val (.ref b24), .val (.int x3), .unset] [(.int (VV f)), (.int (VV (f + (2 : Int32))))])) _
          refine XS.icmpYes X32.here hx rfl (pc0 := 321) (pc' := 329) rfl (hb hby at_321) rfl (teq h2).1 (by decide) (by decide) ?_
          exact Steps.refl _
        · rw [if_neg h2]
          show Steps p.tables e below (T32.setTop (mkF m 308 #[.val (.int i0), .val (.int i1), .val (.int (1 : Int32)), .val (.int f), .val (.int v0), .val (.int v1), .val (.int v2), .val (.int v3), .val (.double d0), .second, .val (.double d1), .second, .val (.double d2), .second, .val (.double d3), .second, .val (.ref b15), .val (.ref b19), .val (.ref b24), .val (.int x3), .unset] [(.int (1 : Int32)), (.int (f + (2 : Int32)))])) _
          refine XS.icmpNo X32.here hx rfl (hb hby at_308) rfl (tlt h1).2.1 ?_
          show Steps p.tables e below (T32.setTop (mkF m 311 #[.val (.int i0), .val (.int i1), .val (.int (1 : Int32)), .val (.int f), .val (.int v0), .val (.int v1), .val (.int v2), .val (.int v3), .val (.double d0), .second, .val (.double d1), .second, .val (.double d2), .second, .val (.double d3), .second, .val (.ref b15), .val (.ref b19), .val (.ref b24), .val (.int x3), .unset] [])) _
          refine XS.aload X32.here hx rfl (hb hby at_311) rfl rfl ?_
          show Steps p.tables e below (T32.setTop (mkF m 313 #[.val (.int i0), .val (.int i1), .val (.int (1 : Int32)), .val (.int f), .val (.int v0), .val (.int v1), .val (.int v2), .val (.int v3), .val (.double d0), .second, .val (.double d1), .second, .val (.double d2), .second, .val (.double d3), .second, .val (.ref b15), .val (.ref b19), .val (.ref b24), .val (.int x3), .unset] [(.ref b24)])) _
          refine XS.iloadN X32.here hx rfl (hb hby at_313) rfl ?_
          show Steps p.tables e below (T32.setTop (mkF m 314 #[.val (.int i0), .val (.int i1), .val (.int (1 : Int32)), .val (.int f), .val (.int v0), .val (.int v1), .val (.int v2), .val (.int v3), .val (.double d0), .second, .val (.double d1), .second, .val (.double d2), .second, .val (.double d3), .second, .val (.ref b15), .val (.ref b19), .val (.ref b24), .val (.int x3), .unset] [(.int f), (.ref b24)])) _
          refine XS.iconst X32.here hx rfl (hb hby at_314) ?_
          show Steps p.tables e below (T32.setTop (mkF m 315 #[.val (.int i0), .val (.int i1), .val (.int (1 : Int32)), .val (.int f), .val (.int v0), .val (.int v1), .val (.int v2), .val (.int v3), .val (.double d0), .second, .val (.double d1), .second, .val (.double d2), .second, .val (.double d3), .second, .val (.ref b15), .val (.ref b19), .val (.ref b24), .val (.int x3), .unset] [(.int (2 : Int32)), (.int f), (.ref b24)])) _
          refine XS.iadd X32.here hx rfl (hb hby at_315) rfl ?_
          show Steps p.tables e below (T32.setTop (mkF m 316 #[.val (.int i0), .val (.int i1), .val (.int (1 : Int32)), .val (.int f), .val (.int v0), .val (.int v1), .val (.int v2), .val (.int v3), .val (.double d0), .second, .val (.double d1), .second, .val (.double d2), .second, .val (.double d3), .second, .val (.ref b15), .val (.ref b19), .val (.ref b24), .val (.int x3), .unset] [(.int (f + (2 : Int32))), (.ref b24)])) _
          refine X32.iaload hx (j := (f + (2 : Int32))) (v := .int (VV (f + (2 : Int32)))) (by rw [e32]; exact Arv_.1) (State.isArrayOf_alike hZ.alike Arv_.2.1) Arv_.2.2 (inb_of Sv ⟨hq0, hq4⟩) (hVv _ hq0 hq4) (g := (mkF m 316 #[.val (.int i0), .val (.int i1), .val (.int (1 : Int32)), .val (.int f), .val (.int v0), .val (.int v1), .val (.int v2), .val (.int v3), .val (.double d0), .second, .val (.double d1), .second, .val (.double d2), .second, .val (.double d3), .second, .val (.ref b15), .val (.ref b19), .val (.ref b24), .val (.int x3), .unset] [(.int (f + (2 : Int32))), (.ref b24)])) rfl rfl (hb hby at_316) _ ?_
          show Steps p.tables e below (T32.setTop (mkF m 317 #[.val (.int i0), .val (.int i1), .val (.int (1 : Int32)), .val (.int f), .val (.int v0), .val (.int v1), .val (.int v2), .val (.int v3), .val (.double d0), .second, .val (.double d1), .second, .val (.double d2), .second, .val (.double d3), .second, .val (.ref b15), .val (.ref b19), .val (.ref b24), .val (.int x3), .unset] [(.int (VV (f + (2 : Int32))))])) _
          refine XS.aload X32.here hx rfl (hb hby at_317) rfl rfl ?_
          show Steps p.tables e below (T32.setTop (mkF m 319 #[.val (.int i0), .val (.int i1), .val (.int (1 : Int32)), .val (.int f), .val (.int v0), .val (.int v1), .val (.int v2), .val (.int v3), .val (.double d0), .second, .val (.double d1), .second, .val (.double d2), .second, .val (.double d3), .second, .val (.ref b15), .val (.ref b19), .val (.ref b24), .val (.int x3), .unset] [(.ref b24), (.int (VV (f + (2 : Int32))))])) _
          refine XS.iloadN X32.here hx rfl (hb hby at_319) rfl ?_
          show Steps p.tables e below (T32.setTop (mkF m 320 #[.val (.int i0), .val (.int i1), .val (.int (1 : Int32)), .val (.int f), .val (.int v0), .val (.int v1), .val (.int v2), .val (.int v3), .val (.double d0), .second, .val (.double d1), .second, .val (.double d2), .second, .val (.double d3), .second, .val (.ref b15), .val (.ref b19), .val (.ref b24), .val (.int x3), .unset] [(.int f), (.ref b24), (.int (VV (f + (2 : Int32))))])) _
          refine X32.iaload hx (j := f) (v := .int (VV f)) (by rw [e32]; exact Arv_.1) (State.isArrayOf_alike hZ.alike Arv_.2.1) Arv_.2.2 (inb_of Sv ⟨hf0, hf4⟩) (hVv _ hf0 hf4) (g := (mkF m 320 #[.val (.int i0), .val (.int i1), .val (.int (1 : Int32)), .val (.int f), .val (.int v0), .val (.int v1), .val (.int v2), .val (.int v3), .val (.double d0), .second, .val (.double d1), .second, .val (.double d2), .second, .val (.double d3), .second, .val (.ref b15), .val (.ref b19), .val (.ref b24), .val (.int x3), .unset] [(.int f), (.ref b24), (.int (VV (f + (2 : Int32))))])) rfl rfl (hb hby at_320) _ ?_
          show Steps p.tables e below (T32.setTop (mkF m 321 #[.val (.int i0), .val (.int i1), .val (.int (1 : Int32)), .val (.int f), .val (.int v0), .val (.int v1), .val (.int v2), .val (.int v3), .val (.double d0), .second, .val (.double d1), .second, .val (.double d2), .second, .val (.double d3), .second, .val (.ref b15), .val (.ref b19), .val (.ref b24), .val (.int x3), .unset] [(.int (VV f)), (.int (VV (f + (2 : Int32))))])) _
          refine XS.icmpNo X32.here hx rfl (hb hby at_321) rfl (feq h2).1 ?_
          show Steps p.tables e below (T32.setTop (mkF m 324 #[.val (.int i0), .val (.int i1), .val (.int (1 : Int32)), .val (.int f), .val (.int v0), .val (.int v1), .val (.int v2), .val (.int v3), .val (.double d0), .second, .val (.double d1), .second, .val (.double d2), .second, .val (.double d3), .second, .val (.ref b15), .val (.ref b19), .val (.ref b24), .val (.int x3), .unset] [])) _
          refine XS.iloadN X32.here hx rfl (hb hby at_324) rfl ?_
          show Steps p.tables e below (T32.setTop (mkF m 325 #[.val (.int i0), .val (.int i1), .val (.int (1 : Int32)), .val (.int f), .val (.int v0), .val (.int v1), .val (.int v2), .val (.int v3), .val (.double d0), .second, .val (.double d1), .second, .val (.double d2), .second, .val (.double d3), .second, .val (.ref b15), .val (.ref b19), .val (.ref b24), .val (.int x3), .unset] [(.int f)])) _
          refine XS.iconst X32.here hx rfl (hb hby at_325) ?_
          show Steps p.tables e below (T32.setTop (mkF m 326 #[.val (.int i0), .val (.int i1), .val (.int (1 : Int32)), .val (.int f), .val (.int v0), .val (.int v1), .val (.int v2), .val (.int v3), .val (.double d0), .second, .val (.double d1), .second, .val (.double d2), .second, .val (.double d3), .second, .val (.ref b15), .val (.ref b19), .val (.ref b24), .val (.int x3), .unset] [(.int (2 : Int32)), (.int f)])) _
          refine XS.iadd X32.here hx rfl (hb hby at_326) rfl ?_
          show Steps p.tables e below (T32.setTop (mkF m 327 #[.val (.int i0), .val (.int i1), .val (.int (1 : Int32)), .val (.int f), .val (.int v0), .val (.int v1), .val (.int v2), .val (.int v3), .val (.double d0), .second, .val (.double d1), .second, .val (.double d2), .second, .val (.double d3), .second, .val (.ref b15), .val (.ref b19), .val (.ref b24), .val (.int x3), .unset] [(.int (f + (2 : Int32)))])) _
          refine XS.istore X32.here hx rfl (hb hby at_327) rfl (l' := #[.val (.int i0), .val (.int i1), .val (.int (1 : Int32)), .val (.int f), .val (.int v0), .val (.int v1), .val (.int v2), .val (.int v3), .val (.double d0), .second, .val (.double d1), .second, .val (.double d2), .second, .val (.double d3), .second, .val (.ref b15), .val (.ref b19), .val (.ref b24), .val (.int (f + (2 : Int32))), .unset]) rfl ?_
          exact Steps.refl _
      · rw [if_neg h1]
        show Steps p.tables e below (T32.setTop (mkF m 308 #[.val (.int i0), .val (.int i1), .val (.int (1 : Int32)), .val (.int f), .val (.int v0), .val (.int v1), .val (.int v2), .val (.int v3), .val (.double d0), .second, .val (.double d1), .second, .val (.double d2), .second, .val (.double d3), .second, .val (.ref b15), .val (.ref b19), .val (.ref b24), .val (.int x3), .unset] [(.int (1 : Int32)), (.int (f + (2 : Int32)))])) _
        refine XS.icmpYes X32.here hx rfl (pc0 := 308) (pc' := 329) rfl (hb hby at_308) rfl (flt h1).2.1 (by decide) (by decide) ?_
        exact Steps.refl _
    generalize hx2 : (if (f + (2 : Int32)) < (1 : Int32) then (if VV (f + (2 : Int32)) = VV f then x3 else (f + (2 : Int32))) else x3) = x2 at c37
    have c38 : Steps p.tables e below S0 (T32.setTop (mkF m 333 #[.val (.int i0), .val (.int i1), .val (.int (1 : Int32)), .val (.int f), .val (.int v0), .val (.int v1), .val (.int v2), .val (.int v3), .val (.double d0), .second, .val (.double d1), .second, .val (.double d2), .second, .val (.double d3), .second, .val (.ref b15), .val (.ref b19), .val (.ref b24), .val (.int x2), .unset] [(.int (1 : Int32)), (.int (f + (1 : Int32)))])) := by
      refine c37.trans ?_
      show Steps p.tables e below (T32.setTop (mkF m 329 #[.val (.int i0), .val (.int i1), .val (.int (1 : Int32)), .val (.int f), .val (.int v0), .val (.int v1), .val (.int v2), .val (.int v3), .val (.double d0), .second, .val (.double d1), .second, .val (.double d2), .second, .val (.double d3), .second, .val (.ref b15), .val (.ref b19), .val (.ref b24), .val (.int x2), .unset] [])) _
      refine XS.iloadN X32.here hx rfl (hb hby at_329) rfl ?_
      show Steps p.tables e below (T32.setTop (mkF m 330 #[.val (.int i0), .val (.int i1), .val (.int (1 : Int32)), .val (.int f), .val (.int v0), .val (.int v1), .val (.int v2), .val (.int v3), .val (.double d0), .second, .val (.double d1), .second, .val (.double d2), .second, .val (.double d3), .second, .val (.ref b15), .val (.ref b19), .val (.ref b24), .val (.int x2), .unset] [(.int f)])) _
      refine XS.iconst X32.here hx rfl (hb hby at_330) ?_
      show Steps p.tables e below (T32.setTop (mkF m 331 #[.val (.int i0), .val (.int i1), .val (.int (1 : Int32)), .val (.int f), .val (.int v0), .val (.int v1), .val (.int v2), .val (.int v3), .val (.double d0), .second, .val (.double d1), .second, .val (.double d2), .second, .val (.double d3), .second, .val (.ref b15), .val (.ref b19), .val (.ref b24), .val (.int x2), .unset] [(.int (1 : Int32)), (.int f)])) _
      refine XS.iadd X32.here hx rfl (hb hby at_331) rfl ?_
      show Steps p.tables e below (T32.setTop (mkF m 332 #[.val (.int i0), .val (.int i1), .val (.int (1 : Int32)), .val (.int f), .val (.int v0), .val (.int v1), .val (.int v2), .val (.int v3), .val (.double d0), .second, .val (.double d1), .second, .val (.double d2), .second, .val (.double d3), .second, .val (.ref b15), .val (.ref b19), .val (.ref b24), .val (.int x2), .unset] [(.int (f + (1 : Int32)))])) _
      refine XS.iloadN X32.here hx rfl (hb hby at_332) rfl ?_
      exact Steps.refl _
    have c39 : Steps p.tables e below S0 (T32.setTop (mkF m 354 #[.val (.int i0), .val (.int i1), .val (.int (1 : Int32)), .val (.int f), .val (.int v0), .val (.int v1), .val (.int v2), .val (.int v3), .val (.double d0), .second, .val (.double d1), .second, .val (.double d2), .second, .val (.double d3), .second, .val (.ref b15), .val (.ref b19), .val (.ref b24), .val (.int (if (f + (1 : Int32)) < (1 : Int32) then (if VV (f + (1 : Int32)) = VV f then x2 else (f + (1 : Int32))) else x2)), .unset] [])) := by
      refine c38.trans ?_
      by_cases h1 : (f + (1 : Int32)) < (1 : Int32)
      · obtain ⟨hq0, hq4⟩ := own_place (k := 1) (n := 1) hf0 hfN (by decide) h1
        rw [if_pos h1]
        by_cases h2 : VV (f + (1 : Int32)) = VV f
        · rw [if_pos h2]
          show Steps p.tables e below (T32.setTop (mkF m 333 #[.val (.int i0), .val (.int i1), .val (.int (1 : Int32)), .val (.int f), .val (.int v0), .val (.int v1), .val (.int v2), .val (.int v3), .val (.double d0), .second, .val (.double d1), .second, .val (.double d2), .second, .val (.double d3), .second, .val (.ref b15), .val (.ref b19), .val (.ref b24), .val (.int x2), .unset] [(.int (1 : Int32)), (.int (f + (1 : Int32)))])) _
          refine XS.icmpNo X32.here hx rfl (hb hby at_333) rfl (tlt h1).2.1 ?_
          show Steps p.tables e below (T32.setTop (mkF m 336 #[.val (.int i0), .val (.int i1), .val (.int (1 : Int32)), .val (.int f), .val (.int v0), .val (.int v1), .val (.int v2), .val (.int v3), .val (.double d0), .second, .val (.double d1), .second, .val (.double d2), .second, .val (.double d3), .second, .val (.ref b15), .val (.ref b19), .val (.ref b24), .val (.int x2), .unset] [])) _
          refine XS.aload X32.here hx rfl (hb hby at_336) rfl rfl ?_
          show Steps p.tables e below (T32.setTop (mkF m 338 #[.val (.int i0), .val (.int i1), .val (.int (1 : Int32)), .val (.int f), .val (.int v0), .val (.int v1), .val (.int v2), .val (.int v3), .val (.double d0), .second, .val (.double d1), .second, .val (.double d2), .second, .val (.double d3), .second, .val (.ref b15), .val (.ref b19), .val (.ref b24), .val (.int x2), .unset] [(.ref b24)])) _
          refine XS.iloadN X32.here hx rfl (hb hby at_338) rfl ?_
          show Steps p.tables e below (T32.setTop (mkF m 339 #[.val (.int i0), .val (.int i1), .val (.int (1 : Int32)), .val (.int f), .val (.int v0), .val (.int v1), .val (.int v2), .val (.int v3), .val (.double d0), .second, .val (.double d1), .second, .val (.double d2), .second, .val (.double d3), .second, .val (.ref b15), .val (.ref b19), .val (.ref b24), .val (.int x2), .unset] [(.int f), (.ref b24)])) _
          refine XS.iconst X32.here hx rfl (hb hby at_339) ?_
          show Steps p.tables e below (T32.setTop (mkF m 340 #[.val (.int i0), .val (.int i1), .val (.int (1 : Int32)), .val (.int f), .val (.int v0), .val (.int v1), .val (.int v2), .val (.int v3), .val (.double d0), .second, .val (.double d1), .second, .val (.double d2), .second, .val (.double d3), .second, .val (.ref b15), .val (.ref b19), .val (.ref b24), .val (.int x2), .unset] [(.int (1 : Int32)), (.int f), (.ref b24)])) _
          refine XS.iadd X32.here hx rfl (hb hby at_340) rfl ?_
          show Steps p.tables e below (T32.setTop (mkF m 341 #[.val (.int i0), .val (.int i1), .val (.int (1 : Int32)), .val (.int f), .val (.int v0), .val (.int v1), .val (.int v2), .val (.int v3), .val (.double d0), .second, .val (.double d1), .second, .val (.double d2), .second, .val (.double d3), .second, .val (.ref b15), .val (.ref b19), .val (.ref b24), .val (.int x2), .unset] [(.int (f + (1 : Int32))), (.ref b24)])) _
          refine X32.iaload hx (j := (f + (1 : Int32))) (v := .int (VV (f + (1 : Int32)))) (by rw [e32]; exact Arv_.1) (State.isArrayOf_alike hZ.alike Arv_.2.1) Arv_.2.2 (inb_of Sv ⟨hq0, hq4⟩) (hVv _ hq0 hq4) (g := (mkF m 341 #[.val (.int i0), .val (.int i1), .val (.int (1 : Int32)), .val (.int f), .val (.int v0), .val (.int v1), .val (.int v2), .val (.int v3), .val (.double d0), .second, .val (.double d1), .second, .val (.double d2), .second, .val (.double d3), .second, .val (.ref b15), .val (.ref b19), .val (.ref b24), .val (.int x2), .unset] [(.int (f + (1 : Int32))), (.ref b24)])) rfl rfl (hb hby at_341) _ ?_
          show Steps p.tables e below (T32.setTop (mkF m 342 #[.val (.int i0), .val (.int i1), .val (.int (1 : Int32)), .val (.int f), .val (.int v0), .val (.int v1), .val (.int v2), .val (.int v3), .val (.double d0), .second, .val (.double d1), .second, .val (.double d2), .second, .val (.double d3), .second, .val (.ref b15), .val (.ref b19), .val (.ref b24), .val (.int x2), .unset] [(.int (VV (f + (1 : Int32))))])) _
          refine XS.aload X32.here hx rfl (hb hby at_342) rfl rfl ?_
          show Steps p.tables e below (T32.setTop (mkF m 344 #[.val (.int i0), .val (.int i1), .val (.int (1 : Int32)), .val (.int f), .val (.int v0), .val (.int v1), .val (.int v2), .val (.int v3), .val (.double d0), .second, .val (.double d1), .second, .val (.double d2), .second, .val (.double d3), .second, .val (.ref b15), .val (.ref b19), .val (.ref b24), .val (.int x2), .unset] [(.ref b24), (.int (VV (f + (1 : Int32))))])) _
          refine XS.iloadN X32.here hx rfl (hb hby at_344) rfl ?_
          show Steps p.tables e below (T32.setTop (mkF m 345 #[.val (.int i0), .val (.int i1), .val (.int (1 : Int32)), .val (.int f), .val (.int v0), .val (.int v1), .val (.int v2), .val (.int v3), .val (.double d0), .second, .val (.double d1), .second, .val (.double d2), .second, .val (.double d3), .second, .val (.ref b15), .val (.ref b19), .val (.ref b24), .val (.int x2), .unset] [(.int f), (.ref b24), (.int (VV (f + (1 : Int32))))])) _
          refine X32.iaload hx (j := f) (v := .int (VV f)) (by rw [e32]; exact Arv_.1) (State.isArrayOf_alike hZ.alike Arv_.2.1) Arv_.2.2 (inb_of Sv ⟨hf0, hf4⟩) (hVv _ hf0 hf4) (g := (mkF m 345 #[.val (.int i0), .val (.int i1), .val (.int (1 : Int32)), .val (.int f), .val (.int v0), .val (.int v1), .val (.int v2), .val (.int v3), .val (.double d0), .second, .val (.double d1), .second, .val (.double d2), .second, .val (.double d3), .second, .val (.ref b15), .val (.ref b19), .val (.ref b24), .val (.int x2), .unset] [(.int f), (.ref b24), (.int (VV (f + (1 : Int32))))])) rfl rfl (hb hby at_345) _ ?_
          show Steps p.tables e below (T32.setTop (mkF m 346 #[.val (.int i0), .val (.int i1), .val (.int (1 : Int32)), .val (.int f), .val (.int v0), .val (.int v1), .val (.int v2), .val (.int v3), .val (.double d0), .second, .val (.double d1), .second, .val (.double d2), .second, .val (.double d3), .second, .val (.ref b15), .val (.ref b19), .val (.ref b24), .val (.int x2), .unset] [(.int (VV f)), (.int (VV (f + (1 : Int32))))])) _
          refine XS.icmpYes X32.here hx rfl (pc0 := 346) (pc' := 354) rfl (hb hby at_346) rfl (teq h2).1 (by decide) (by decide) ?_
          exact Steps.refl _
        · rw [if_neg h2]
          show Steps p.tables e below (T32.setTop (mkF m 333 #[.val (.int i0), .val (.int i1), .val (.int (1 : Int32)), .val (.int f), .val (.int v0), .val (.int v1), .val (.int v2), .val (.int v3), .val (.double d0), .second, .val (.double d1), .second, .val (.double d2), .second, .val (.double d3), .second, .val (.ref b15), .val (.ref b19), .val (.ref b24), .val (.int x2), .unset] [(.int (1 : Int32)), (.int (f + (1 : Int32)))])) _
          refine XS.icmpNo X32.here hx rfl (hb hby at_333) rfl (tlt h1).2.1 ?_
          show Steps p.tables e below (T32.setTop (mkF m 336 #[.val (.int i0), .val (.int i1), .val (.int (1 : Int32)), .val (.int f), .val (.int v0), .val (.int v1), .val (.int v2), .val (.int v3), .val (.double d0), .second, .val (.double d1), .second, .val (.double d2), .second, .val (.double d3), .second, .val (.ref b15), .val (.ref b19), .val (.ref b24), .val (.int x2), .unset] [])) _
          refine XS.aload X32.here hx rfl (hb hby at_336) rfl rfl ?_
          show Steps p.tables e below (T32.setTop (mkF m 338 #[.val (.int i0), .val (.int i1), .val (.int (1 : Int32)), .val (.int f), .val (.int v0), .val (.int v1), .val (.int v2), .val (.int v3), .val (.double d0), .second, .val (.double d1), .second, .val (.double d2), .second, .val (.double d3), .second, .val (.ref b15), .val (.ref b19), .val (.ref b24), .val (.int x2), .unset] [(.ref b24)])) _
          refine XS.iloadN X32.here hx rfl (hb hby at_338) rfl ?_
          show Steps p.tables e below (T32.setTop (mkF m 339 #[.val (.int i0), .val (.int i1), .val (.int (1 : Int32)), .val (.int f), .val (.int v0), .val (.int v1), .val (.int v2), .val (.int v3), .val (.double d0), .second, .val (.double d1), .second, .val (.double d2), .second, .val (.double d3), .second, .val (.ref b15), .val (.ref b19), .val (.ref b24), .val (.int x2), .unset] [(.int f), (.ref b24)])) _
          refine XS.iconst X32.here hx rfl (hb hby at_339) ?_
          show Steps p.tables e below (T32.setTop (mkF m 340 #[.val (.int i0), .val (.int i1), .val (.int (1 : Int32)), .val (.int f), .val (.int v0), .val (.int v1), .val (.int v2), .val (.int v3), .val (.double d0), .second, .val (.double d1), .second, .val (.double d2), .second, .val (.double d3), .second, .val (.ref b15), .val (.ref b19), .val (.ref b24), .val (.int x2), .unset] [(.int (1 : Int32)), (.int f), (.ref b24)])) _
          refine XS.iadd X32.here hx rfl (hb hby at_340) rfl ?_
          show Steps p.tables e below (T32.setTop (mkF m 341 #[.val (.int i0), .val (.int i1), .val (.int (1 : Int32)), .val (.int f), .val (.int v0), .val (.int v1), .val (.int v2), .val (.int v3), .val (.double d0), .second, .val (.double d1), .second, .val (.double d2), .second, .val (.double d3), .second, .val (.ref b15), .val (.ref b19), .val (.ref b24), .val (.int x2), .unset] [(.int (f + (1 : Int32))), (.ref b24)])) _
          refine X32.iaload hx (j := (f + (1 : Int32))) (v := .int (VV (f + (1 : Int32)))) (by rw [e32]; exact Arv_.1) (State.isArrayOf_alike hZ.alike Arv_.2.1) Arv_.2.2 (inb_of Sv ⟨hq0, hq4⟩) (hVv _ hq0 hq4) (g := (mkF m 341 #[.val (.int i0), .val (.int i1), .val (.int (1 : Int32)), .val (.int f), .val (.int v0), .val (.int v1), .val (.int v2), .val (.int v3), .val (.double d0), .second, .val (.double d1), .second, .val (.double d2), .second, .val (.double d3), .second, .val (.ref b15), .val (.ref b19), .val (.ref b24), .val (.int x2), .unset] [(.int (f + (1 : Int32))), (.ref b24)])) rfl rfl (hb hby at_341) _ ?_
          show Steps p.tables e below (T32.setTop (mkF m 342 #[.val (.int i0), .val (.int i1), .val (.int (1 : Int32)), .val (.int f), .val (.int v0), .val (.int v1), .val (.int v2), .val (.int v3), .val (.double d0), .second, .val (.double d1), .second, .val (.double d2), .second, .val (.double d3), .second, .val (.ref b15), .val (.ref b19), .val (.ref b24), .val (.int x2), .unset] [(.int (VV (f + (1 : Int32))))])) _
          refine XS.aload X32.here hx rfl (hb hby at_342) rfl rfl ?_
          show Steps p.tables e below (T32.setTop (mkF m 344 #[.val (.int i0), .val (.int i1), .val (.int (1 : Int32)), .val (.int f), .val (.int v0), .val (.int v1), .val (.int v2), .val (.int v3), .val (.double d0), .second, .val (.double d1), .second, .val (.double d2), .second, .val (.double d3), .second, .val (.ref b15), .val (.ref b19), .val (.ref b24), .val (.int x2), .unset] [(.ref b24), (.int (VV (f + (1 : Int32))))])) _
          refine XS.iloadN X32.here hx rfl (hb hby at_344) rfl ?_
          show Steps p.tables e below (T32.setTop (mkF m 345 #[.val (.int i0), .val (.int i1), .val (.int (1 : Int32)), .val (.int f), .val (.int v0), .val (.int v1), .val (.int v2), .val (.int v3), .val (.double d0), .second, .val (.double d1), .second, .val (.double d2), .second, .val (.double d3), .second, .val (.ref b15), .val (.ref b19), .val (.ref b24), .val (.int x2), .unset] [(.int f), (.ref b24), (.int (VV (f + (1 : Int32))))])) _
          refine X32.iaload hx (j := f) (v := .int (VV f)) (by rw [e32]; exact Arv_.1) (State.isArrayOf_alike hZ.alike Arv_.2.1) Arv_.2.2 (inb_of Sv ⟨hf0, hf4⟩) (hVv _ hf0 hf4) (g := (mkF m 345 #[.val (.int i0), .val (.int i1), .val (.int (1 : Int32)), .val (.int f), .val (.int v0), .val (.int v1), .val (.int v2), .val (.int v3), .val (.double d0), .second, .val (.double d1), .second, .val (.double d2), .second, .val (.double d3), .second, .val (.ref b15), .val (.ref b19), .val (.ref b24), .val (.int x2), .unset] [(.int f), (.ref b24), (.int (VV (f + (1 : Int32))))])) rfl rfl (hb hby at_345) _ ?_
          show Steps p.tables e below (T32.setTop (mkF m 346 #[.val (.int i0), .val (.int i1), .val (.int (1 : Int32)), .val (.int f), .val (.int v0), .val (.int v1), .val (.int v2), .val (.int v3), .val (.double d0), .second, .val (.double d1), .second, .val (.double d2), .second, .val (.double d3), .second, .val (.ref b15), .val (.ref b19), .val (.ref b24), .val (.int x2), .unset] [(.int (VV f)), (.int (VV (f + (1 : Int32))))])) _
          refine XS.icmpNo X32.here hx rfl (hb hby at_346) rfl (feq h2).1 ?_
          show Steps p.tables e below (T32.setTop (mkF m 349 #[.val (.int i0), .val (.int i1), .val (.int (1 : Int32)), .val (.int f), .val (.int v0), .val (.int v1), .val (.int v2), .val (.int v3), .val (.double d0), .second, .val (.double d1), .second, .val (.double d2), .second, .val (.double d3), .second, .val (.ref b15), .val (.ref b19), .val (.ref b24), .val (.int x2), .unset] [])) _
          refine XS.iloadN X32.here hx rfl (hb hby at_349) rfl ?_
          show Steps p.tables e below (T32.setTop (mkF m 350 #[.val (.int i0), .val (.int i1), .val (.int (1 : Int32)), .val (.int f), .val (.int v0), .val (.int v1), .val (.int v2), .val (.int v3), .val (.double d0), .second, .val (.double d1), .second, .val (.double d2), .second, .val (.double d3), .second, .val (.ref b15), .val (.ref b19), .val (.ref b24), .val (.int x2), .unset] [(.int f)])) _
          refine XS.iconst X32.here hx rfl (hb hby at_350) ?_
          show Steps p.tables e below (T32.setTop (mkF m 351 #[.val (.int i0), .val (.int i1), .val (.int (1 : Int32)), .val (.int f), .val (.int v0), .val (.int v1), .val (.int v2), .val (.int v3), .val (.double d0), .second, .val (.double d1), .second, .val (.double d2), .second, .val (.double d3), .second, .val (.ref b15), .val (.ref b19), .val (.ref b24), .val (.int x2), .unset] [(.int (1 : Int32)), (.int f)])) _
          refine XS.iadd X32.here hx rfl (hb hby at_351) rfl ?_
          show Steps p.tables e below (T32.setTop (mkF m 352 #[.val (.int i0), .val (.int i1), .val (.int (1 : Int32)), .val (.int f), .val (.int v0), .val (.int v1), .val (.int v2), .val (.int v3), .val (.double d0), .second, .val (.double d1), .second, .val (.double d2), .second, .val (.double d3), .second, .val (.ref b15), .val (.ref b19), .val (.ref b24), .val (.int x2), .unset] [(.int (f + (1 : Int32)))])) _
          refine XS.istore X32.here hx rfl (hb hby at_352) rfl (l' := #[.val (.int i0), .val (.int i1), .val (.int (1 : Int32)), .val (.int f), .val (.int v0), .val (.int v1), .val (.int v2), .val (.int v3), .val (.double d0), .second, .val (.double d1), .second, .val (.double d2), .second, .val (.double d3), .second, .val (.ref b15), .val (.ref b19), .val (.ref b24), .val (.int (f + (1 : Int32))), .unset]) rfl ?_
          exact Steps.refl _
      · rw [if_neg h1]
        show Steps p.tables e below (T32.setTop (mkF m 333 #[.val (.int i0), .val (.int i1), .val (.int (1 : Int32)), .val (.int f), .val (.int v0), .val (.int v1), .val (.int v2), .val (.int v3), .val (.double d0), .second, .val (.double d1), .second, .val (.double d2), .second, .val (.double d3), .second, .val (.ref b15), .val (.ref b19), .val (.ref b24), .val (.int x2), .unset] [(.int (1 : Int32)), (.int (f + (1 : Int32)))])) _
        refine XS.icmpYes X32.here hx rfl (pc0 := 333) (pc' := 354) rfl (hb hby at_333) rfl (flt h1).2.1 (by decide) (by decide) ?_
        exact Steps.refl _
    generalize hx1 : (if (f + (1 : Int32)) < (1 : Int32) then (if VV (f + (1 : Int32)) = VV f then x2 else (f + (1 : Int32))) else x2) = x1 at c39
    obtain ⟨T40, h40, X40, e40, E40, A40, D40, -, st40⟩ := newO X32 hx hZ hown (hw _ (List.mem_of_getElem? (i := 7) rfl)) (hw _ (List.mem_of_getElem? (i := 8) rfl)) (hw _ (List.mem_of_getElem? (i := 9) rfl)) e32 (g := (mkF m 354 #[.val (.int i0), .val (.int i1), .val (.int (1 : Int32)), .val (.int f), .val (.int v0), .val (.int v1), .val (.int v2), .val (.int v3), .val (.double d0), .second, .val (.double d1), .second, .val (.double d2), .second, .val (.double d3), .second, .val (.ref b15), .val (.ref b19), .val (.ref b24), .val (.int x1), .unset] [])) rfl (hb hby at_354) (by decide) (by decide)
    obtain ⟨b40, g40⟩ : ∃ z, z = h32.size := ⟨_, rfl⟩
    rw [← g40] at A40 D40 st40
    have c40 : Steps p.tables e below S0 (T40.setTop (mkF m 357 #[.val (.int i0), .val (.int i1), .val (.int (1 : Int32)), .val (.int f), .val (.int v0), .val (.int v1), .val (.int v2), .val (.int v3), .val (.double d0), .second, .val (.double d1), .second, .val (.double d2), .second, .val (.double d3), .second, .val (.ref b15), .val (.ref b19), .val (.ref b24), .val (.int x1), .unset] [(.ref b40)])) := by
      refine c39.trans ?_
      show Steps p.tables e below (T32.setTop (mkF m 354 #[.val (.int i0), .val (.int i1), .val (.int (1 : Int32)), .val (.int f), .val (.int v0), .val (.int v1), .val (.int v2), .val (.int v3), .val (.double d0), .second, .val (.double d1), .second, .val (.double d2), .second, .val (.double d3), .second, .val (.ref b15), .val (.ref b19), .val (.ref b24), .val (.int x1), .unset] [])) _
      refine st40 _ ?_
      exact Steps.refl _
    have go : n0 ≤ b40 := Nat.le_trans Zh (Nat.le_of_eq g40.symm)
    have Zh := Nat.le_trans Zh E40.1
    have hk := Nat.le_trans hk E40.1
    have Fquery : Fld Z h40 b40 "com/example/canvass/canvass/core/Ranking" "query" "Ljava/lang/String;" .null := D40 (Or.inr (hw _ (List.mem_of_getElem? (i := 25) rfl))) (ty := (.object "java/lang/String")) (by decide)
    have Fdocuments : Fld Z h40 b40 "com/example/canvass/canvass/core/Ranking" "documents" "[I" .null := D40 (Or.inr (hw _ (List.mem_of_getElem? (i := 27) rfl))) (ty := (.array .int)) (by decide)
    have Fscores : Fld Z h40 b40 "com/example/canvass/canvass/core/Ranking" "scores" "[D" .null := D40 (Or.inr (hw _ (List.mem_of_getElem? (i := 29) rfl))) (ty := (.array .double)) (by decide)
    have c41 : Steps p.tables e below S0 (T40.setTop (mkF m 358 #[.val (.int i0), .val (.int i1), .val (.int (1 : Int32)), .val (.int f), .val (.int v0), .val (.int v1), .val (.int v2), .val (.int v3), .val (.double d0), .second, .val (.double d1), .second, .val (.double d2), .second, .val (.double d3), .second, .val (.ref b15), .val (.ref b19), .val (.ref b24), .val (.int x1), .unset] [(.ref b40), (.ref b40)])) := by
      refine c40.trans ?_
      show Steps p.tables e below (T40.setTop (mkF m 357 #[.val (.int i0), .val (.int i1), .val (.int (1 : Int32)), .val (.int f), .val (.int v0), .val (.int v1), .val (.int v2), .val (.int v3), .val (.double d0), .second, .val (.double d1), .second, .val (.double d2), .second, .val (.double d3), .second, .val (.ref b15), .val (.ref b19), .val (.ref b24), .val (.int x1), .unset] [(.ref b40)])) _
      refine XS.dup X40.here hx rfl (hb hby at_357) rfl rfl ?_
      exact Steps.refl _
    obtain ⟨q42, T42, h42, k42, X42, e42, E42, hS, hk, hZ, hown, st42⟩ := ldcS X40 hx hZ hown (hw _ (List.mem_of_getElem? (i := 10) rfl)) (own_wS hw) e40 hS hk (g := (mkF m 358 #[.val (.int i0), .val (.int i1), .val (.int (1 : Int32)), .val (.int f), .val (.int v0), .val (.int v1), .val (.int v2), .val (.int v3), .val (.double d0), .second, .val (.double d1), .second, .val (.double d2), .second, .val (.double d3), .second, .val (.ref b15), .val (.ref b19), .val (.ref b24), .val (.int x1), .unset] [(.ref b40), (.ref b40)])) rfl (hb hby at_358) (n := 4) (by decide) (by decide) (by decide) (by decide)
    have c42 : Steps p.tables e below S0 (T42.setTop (mkF m 360 #[.val (.int i0), .val (.int i1), .val (.int (1 : Int32)), .val (.int f), .val (.int v0), .val (.int v1), .val (.int v2), .val (.int v3), .val (.double d0), .second, .val (.double d1), .second, .val (.double d2), .second, .val (.double d3), .second, .val (.ref b15), .val (.ref b19), .val (.ref b24), .val (.int x1), .unset] [(.ref q42), (.ref b40), (.ref b40)])) := by
      refine c41.trans ?_
      show Steps p.tables e below (T40.setTop (mkF m 358 #[.val (.int i0), .val (.int i1), .val (.int (1 : Int32)), .val (.int f), .val (.int v0), .val (.int v1), .val (.int v2), .val (.int v3), .val (.double d0), .second, .val (.double d1), .second, .val (.double d2), .second, .val (.double d3), .second, .val (.ref b15), .val (.ref b19), .val (.ref b24), .val (.int x1), .unset] [(.ref b40), (.ref b40)])) _
      refine st42 _ ?_
      exact Steps.refl _
    have Zh := Nat.le_trans Zh E42.1
    obtain ⟨cls_, Ars, -, Ss, Ms, Hs, -⟩ := (Vs.ext E40).ext E42
    obtain ⟨cld, Ard, -, Sd, Md, -, -⟩ := (Vd.ext E40).ext E42
    have hDs := own_hD1 (d0 := d0) Ss Hs
    generalize hDD : own_D d0 d0 d0 d0 = D at hDs
    have c43 : Steps p.tables e below S0 (T42.setTop (mkF m 364 #[.val (.int i0), .val (.int i1), .val (.int (1 : Int32)), .val (.int f), .val (.int v0), .val (.int v1), .val (.int v2), .val (.int v3), .val (.double d0), .second, .val (.double d1), .second, .val (.double d2), .second, .val (.double d3), .second, .val (.ref b15), .val (.ref b19), .val (.ref b24), .val (.int x1), .unset] [(.ref b15), (.ref b19), (.ref q42), (.ref b40), (.ref b40)])) := by
      refine c42.trans ?_
      show Steps p.tables e below (T42.setTop (mkF m 360 #[.val (.int i0), .val (.int i1), .val (.int (1 : Int32)), .val (.int f), .val (.int v0), .val (.int v1), .val (.int v2), .val (.int v3), .val (.double d0), .second, .val (.double d1), .second, .val (.double d2), .second, .val (.double d3), .second, .val (.ref b15), .val (.ref b19), .val (.ref b24), .val (.int x1), .unset] [(.ref q42), (.ref b40), (.ref b40)])) _
      refine XS.aload X42.here hx rfl (hb hby at_360) rfl rfl ?_
      show Steps p.tables e below (T42.setTop (mkF m 362 #[.val (.int i0), .val (.int i1), .val (.int (1 : Int32)), .val (.int f), .val (.int v0), .val (.int v1), .val (.int v2), .val (.int v3), .val (.double d0), .second, .val (.double d1), .second, .val (.double d2), .second, .val (.double d3), .second, .val (.ref b15), .val (.ref b19), .val (.ref b24), .val (.int x1), .unset] [(.ref b19), (.ref q42), (.ref b40), (.ref b40)])) _
      refine XS.aload X42.here hx rfl (hb hby at_362) rfl rfl ?_
      exact Steps.refl _
    obtain ⟨_, _, ⟨T44, L44, k44, n44⟩, -, X44, ⟨Lc44, hQ44, l44, y44, z44⟩, st44⟩ := X42.specialBack hx (y := (⟨"com/example/canvass/canvass/core/Ranking", "<init>", "(Ljava/lang/String;[I[D)V"⟩ : MethodName)) rfl hown (mvT hZ (hw _ (List.mem_of_getElem? (i := 18) rfl))) (mvT hZ (hw _ (List.mem_of_getElem? (i := 19) rfl))) (mvT hZ (hw _ (List.mem_of_getElem? (i := 20) rfl))) (by decide) (backOf (W := 1) (rm19 l Z a0 hw [] b40 q42 b19 b15 cld cls_ (1 : Int32) h42 n0 Zh Ard Sd Ars Ss (by decide) (A40.ext E42) (Fquery.ext E42) (Fdocuments.ext E42) (Fscores.ext E42) go) hZ (hw _ (List.mem_of_getElem? (i := 20) rfl)) (hw _ (List.mem_of_getElem? (i := 9) rfl)) (by decide) (by decide)) (g := (mkF m 364 #[.val (.int i0), .val (.int i1), .val (.int (1 : Int32)), .val (.int f), .val (.int v0), .val (.int v1), .val (.int v2), .val (.int v3), .val (.double d0), .second, .val (.double d1), .second, .val (.double d2), .second, .val (.double d3), .second, .val (.ref b15), .val (.ref b19), .val (.ref b24), .val (.int x1), .unset] [(.ref b15), (.ref b19), (.ref q42), (.ref b40), (.ref b40)])) rfl (by rw [hml]; rfl) (Steps.refl _) (a := b40) (argsL := [(.ref q42), (.ref b19), (.ref b15)]) (rest := [(.ref b40)]) (lenOf pd2 rfl) rfl (by show 2 * 0 + _ ≤ _; exact Nat.le_of_eq rfl) (hb hby at_364) (fun _ _ => ⟨rfl, e42, (by decide : 6 + 0 ≤ _), (by decide : 17 + 0 ≤ _)⟩)
    dsimp only [Pt.U, Pt.locs, Pt.cells, Pt.slots] at X44 l44 y44 z44 st44 hQ44
    subst l44 y44 z44
    obtain ⟨rfl, Ni, Ki, Ei, Fi⟩ := hQ44
    have c44 : Steps p.tables e below S0 (T44.setTop (mkF m 367 #[.val (.int i0), .val (.int i1), .val (.int (1 : Int32)), .val (.int f), .val (.int v0), .val (.int v1), .val (.int v2), .val (.int v3), .val (.double d0), .second, .val (.double d1), .second, .val (.double d2), .second, .val (.double d3), .second, .val (.ref b15), .val (.ref b19), .val (.ref b24), .val (.int x1), .unset] [(.ref b40)])) := by
      refine c43.trans ?_
      show Steps p.tables e below (T42.setTop (mkF m 364 #[.val (.int i0), .val (.int i1), .val (.int (1 : Int32)), .val (.int f), .val (.int v0), .val (.int v1), .val (.int v2), .val (.int v3), .val (.double d0), .second, .val (.double d1), .second, .val (.double d2), .second, .val (.double d3), .second, .val (.ref b15), .val (.ref b19), .val (.ref b24), .val (.int x1), .unset] [(.ref b15), (.ref b19), (.ref q42), (.ref b40), (.ref b40)])) _
      refine st44.trans ?_
      exact Steps.refl _
    have Zh := Nat.le_trans Zh Ki.1
    have hk := Nat.le_trans hk Ki.1
    have Arz : Arr Z T44.heap b15 cls_ .double := ⟨Ki.2.1 _ _ Ars.1 (fun q => Nat.ne_of_lt (Nat.lt_of_lt_of_le Vs.lt (Nat.le_of_eq g40.symm)) (List.mem_singleton.mp q)), Ars.2⟩
    have c45 : Steps p.tables e below S0 (T44.setTop (mkF m 372 #[.val (.int i0), .val (.int i1), .val (.int (1 : Int32)), .val (.int f), .val (.int v0), .val (.int v1), .val (.int v2), .val (.int v3), .val (.double d0), .second, .val (.double d1), .second, .val (.double d2), .second, .val (.double d3), .second, .val (.ref b15), .val (.ref b19), .val (.ref b24), .val (.int x1), .val (.ref b40)] [(.int f), (.ref b40)])) := by
      refine c44.trans ?_
      show Steps p.tables e below (T44.setTop (mkF m 367 #[.val (.int i0), .val (.int i1), .val (.int (1 : Int32)), .val (.int f), .val (.int v0), .val (.int v1), .val (.int v2), .val (.int v3), .val (.double d0), .second, .val (.double d1), .second, .val (.double d2), .second, .val (.double d3), .second, .val (.ref b15), .val (.ref b19), .val (.ref b24), .val (.int x1), .unset] [(.ref b40)])) _
      refine XS.astore X44.here hx rfl (hb hby at_367) rfl rfl (l' := #[.val (.int i0), .val (.int i1), .val (.int (1 : Int32)), .val (.int f), .val (.int v0), .val (.int v1), .val (.int v2), .val (.int v3), .val (.double d0), .second, .val (.double d1), .second, .val (.double d2), .second, .val (.double d3), .second, .val (.ref b15), .val (.ref b19), .val (.ref b24), .val (.int x1), .val (.ref b40)]) rfl ?_
      show Steps p.tables e below (T44.setTop (mkF m 369 #[.val (.int i0), .val (.int i1), .val (.int (1 : Int32)), .val (.int f), .val (.int v0), .val (.int v1), .val (.int v2), .val (.int v3), .val (.double d0), .second, .val (.double d1), .second, .val (.double d2), .second, .val (.double d3), .second, .val (.ref b15), .val (.ref b19), .val (.ref b24), .val (.int x1), .val (.ref b40)] [])) _
      refine XS.aload X44.here hx rfl (hb hby at_369) rfl rfl ?_
      show Steps p.tables e below (T44.setTop (mkF m 371 #[.val (.int i0), .val (.int i1), .val (.int (1 : Int32)), .val (.int f), .val (.int v0), .val (.int v1), .val (.int v2), .val (.int v3), .val (.double d0), .second, .val (.double d1), .second, .val (.double d2), .second, .val (.double d3), .second, .val (.ref b15), .val (.ref b19), .val (.ref b24), .val (.int x1), .val (.ref b40)] [(.ref b40)])) _
      refine XS.iloadN X44.here hx rfl (hb hby at_371) rfl ?_
      exact Steps.refl _
    obtain ⟨cq46, kq46, q46a, q46b, q46c⟩ := isOf hZ rfl Ei
    obtain ⟨_, _, ⟨T46, L46, k46, n46⟩, -, X46, ⟨Lc46, hQ46, l46, y46, z46⟩, st46⟩ := X44.virtualBack hx (y := (⟨"com/example/canvass/canvass/core/Ranking", "endOfTie", "(I)I"⟩ : MethodName)) (z := (⟨"com/example/canvass/canvass/core/Ranking", "endOfTie", "(I)I"⟩ : MethodName)) hown (mvT hZ (hw _ (List.mem_of_getElem? (i := 30) rfl))) (mvT hZ (hw _ (List.mem_of_getElem? (i := 31) rfl))) (notFace_of_selects (args := #[]) (mvT hZ (hw _ (List.mem_of_getElem? (i := 33) rfl)))) (mvT hZ (hw _ (List.mem_of_getElem? (i := 33) rfl))) (mvT hZ (hw _ (List.mem_of_getElem? (i := 32) rfl))) (by decide) (backOf (W := 0) (rm196 l Z a0 hw [] b40 b15 cls_ D (1 : Int32) f T44.heap n0 Zh Fi Arz Ss hDs (by decide) (by decide) hf0 hfN) hZ (hw _ (List.mem_of_getElem? (i := 34) rfl)) (hw _ (List.mem_of_getElem? (i := 9) rfl)) (by decide) (by decide)) q46a q46c (g := (mkF m 372 #[.val (.int i0), .val (.int i1), .val (.int (1 : Int32)), .val (.int f), .val (.int v0), .val (.int v1), .val (.int v2), .val (.int v3), .val (.double d0), .second, .val (.double d1), .second, .val (.double d2), .second, .val (.double d3), .second, .val (.ref b15), .val (.ref b19), .val (.ref b24), .val (.int x1), .val (.ref b40)] [(.int f), (.ref b40)])) rfl (by rw [hml]; rfl) (Steps.refl _) (argsL := [(.int f)]) (rest := []) (lenOf pd3 rfl) rfl (by show 2 * 0 + _ ≤ _; exact Nat.le_of_eq rfl) (hb hby at_372) (fun _ _ => ⟨rfl, rfl, (by decide : 6 + 0 ≤ _), (by decide : 17 + 0 ≤ _)⟩)
    dsimp only [Pt.U, Pt.locs, Pt.cells, Pt.slots] at X46 l46 y46 z46 st46 hQ46
    subst l46 y46 z46
    obtain ⟨rfl, Nz, ez⟩ := hQ46
    have c46 : Steps p.tables e below S0 (T46.setTop (mkF m 375 #[.val (.int i0), .val (.int i1), .val (.int (1 : Int32)), .val (.int f), .val (.int v0), .val (.int v1), .val (.int v2), .val (.int v3), .val (.double d0), .second, .val (.double d1), .second, .val (.double d2), .second, .val (.double d3), .second, .val (.ref b15), .val (.ref b19), .val (.ref b24), .val (.int x1), .val (.ref b40)] [(.int (own_eot (fun k => decide (cmpValue (FP.dcmp (D k) (D f)) .l = 0)) (1 : Int32) 5 (f + 1)))])) := by
      refine c45.trans ?_
      show Steps p.tables e below (T44.setTop (mkF m 372 #[.val (.int i0), .val (.int i1), .val (.int (1 : Int32)), .val (.int f), .val (.int v0), .val (.int v1), .val (.int v2), .val (.int v3), .val (.double d0), .second, .val (.double d1), .second, .val (.double d2), .second, .val (.double d3), .second, .val (.ref b15), .val (.ref b19), .val (.ref b24), .val (.int x1), .val (.ref b40)] [(.int f), (.ref b40)])) _
      refine st46.trans ?_
      exact Steps.refl _
    have hlaw : (own_eot (fun k => decide (cmpValue (FP.dcmp (D k) (D f)) .l = 0)) (1 : Int32) 5 (f + 1)) = x1 := by
      subst hx3 hx2 hx1 hVV hDD
      exact own_law1 f hf0 hfN hd0 hd1 hd2 hd3
    have c47 : Steps p.tables e below S0 (T46.setTop (mkF m 385 #[.val (.int i0), .val (.int i1), .val (.int (1 : Int32)), .val (.int f), .val (.int v0), .val (.int v1), .val (.int v2), .val (.int v3), .val (.double d0), .second, .val (.double d1), .second, .val (.double d2), .second, .val (.double d3), .second, .val (.ref b15), .val (.ref b19), .val (.ref b24), .val (.int x1), .val (.ref b40)] [(.int (1 : Int32))])) := by
      refine c46.trans ?_
      show Steps p.tables e below (T46.setTop (mkF m 375 #[.val (.int i0), .val (.int i1), .val (.int (1 : Int32)), .val (.int f), .val (.int v0), .val (.int v1), .val (.int v2), .val (.int v3), .val (.double d0), .second, .val (.double d1), .second, .val (.double d2), .second, .val (.double d3), .second, .val (.ref b15), .val (.ref b19), .val (.ref b24), .val (.int x1), .val (.ref b40)] [(.int (own_eot (fun k => decide (cmpValue (FP.dcmp (D k) (D f)) .l = 0)) (1 : Int32) 5 (f + 1)))])) _
      refine XS.iload X46.here hx rfl (hb hby at_375) rfl ?_
      show Steps p.tables e below (T46.setTop (mkF m 377 #[.val (.int i0), .val (.int i1), .val (.int (1 : Int32)), .val (.int f), .val (.int v0), .val (.int v1), .val (.int v2), .val (.int v3), .val (.double d0), .second, .val (.double d1), .second, .val (.double d2), .second, .val (.double d3), .second, .val (.ref b15), .val (.ref b19), .val (.ref b24), .val (.int x1), .val (.ref b40)] [(.int x1), (.int (own_eot (fun k => decide (cmpValue (FP.dcmp (D k) (D f)) .l = 0)) (1 : Int32) 5 (f + 1)))])) _
      refine XS.icmpNo X46.here hx rfl (hb hby at_377) rfl (teq hlaw).2 ?_
      show Steps p.tables e below (T46.setTop (mkF m 380 #[.val (.int i0), .val (.int i1), .val (.int (1 : Int32)), .val (.int f), .val (.int v0), .val (.int v1), .val (.int v2), .val (.int v3), .val (.double d0), .second, .val (.double d1), .second, .val (.double d2), .second, .val (.double d3), .second, .val (.ref b15), .val (.ref b19), .val (.ref b24), .val (.int x1), .val (.ref b40)] [])) _
      refine XS.iconst X46.here hx rfl (hb hby at_380) ?_
      show Steps p.tables e below (T46.setTop (mkF m 381 #[.val (.int i0), .val (.int i1), .val (.int (1 : Int32)), .val (.int f), .val (.int v0), .val (.int v1), .val (.int v2), .val (.int v3), .val (.double d0), .second, .val (.double d1), .second, .val (.double d2), .second, .val (.double d3), .second, .val (.ref b15), .val (.ref b19), .val (.ref b24), .val (.int x1), .val (.ref b40)] [(.int (1 : Int32))])) _
      refine XS.goto X46.here hx rfl (pc0 := 381) (pc' := 385) rfl (hb hby at_381) (by decide) (by decide) ?_
      exact Steps.refl _
    obtain ⟨fs, hr, hrun, hended, hW⟩ := X46.leaveW hS (by rw [ez]; exact hk) (v := some (.int 1)) (fun h => by rw [Bd.returns] at h; cases h)
    refine ⟨_, _, c47.trans ?_, hrun, hended, _, _, rfl, ?_, hW.1, hW.2.1, hW.2.2.1, hW.2.2.2.mono (by decide) (by decide)⟩
    · show Steps p.tables e below (T46.setTop (mkF m 385 #[.val (.int i0), .val (.int i1), .val (.int (1 : Int32)), .val (.int f), .val (.int v0), .val (.int v1), .val (.int v2), .val (.int v3), .val (.double d0), .second, .val (.double d1), .second, .val (.double d2), .second, .val (.double d3), .second, .val (.ref b15), .val (.ref b19), .val (.ref b24), .val (.int x1), .val (.ref b40)] [(.int (1 : Int32))])) _
      exact retN X46 hx (t := .boolean) Bd.returns (by simp) (hb hby at_385) hr
    · show Q0 Z i0 i1 h0 n0 _ T46.heap _
      rw [ez]
      exact ⟨rfl, Fr.app (Fr.app Nv3 Ni) Nz⟩
  · subst hcase
    clear hN hNz
    have hf4 : f < 4 := own_f4 hfN (by decide)
    have c48 : Steps p.tables e below S0 (T11.setTop (mkF m 129 #[.val (.int i0), .val (.int i1), .val (.int (2 : Int32)), .val (.int f), .val (.int v0), .val (.int v1), .val (.int v2), .val (.int v3), .val (.double d0), .second, .val (.double d1), .second, .val (.double d2), .second, .val (.double d3), .second, .unset, .unset, .unset, .unset, .unset] [])) := by
      refine c12.trans ?_
      show Steps p.tables e below (T11.setTop (mkF m 99 #[.val (.int i0), .val (.int i1), .val (.int (2 : Int32)), .val (.int f), .val (.int v0), .val (.int v1), .val (.int v2), .val (.int v3), .val (.double d0), .second, .val (.double d1), .second, .val (.double d2), .second, .val (.double d3), .second, .unset, .unset, .unset, .unset, .unset] [(.int (1 : Int32)), (.int (2 : Int32))])) _
      refine XS.icmpYes X11.here hx rfl (pc0 := 99) (pc' := 124) rfl (hb hby at_99) rfl (feq (by decide)).2 (by decide) (by decide) ?_
      show Steps p.tables e below (T11.setTop (mkF m 124 #[.val (.int i0), .val (.int i1), .val (.int (2 : Int32)), .val (.int f), .val (.int v0), .val (.int v1), .val (.int v2), .val (.int v3), .val (.double d0), .second, .val (.double d1), .second, .val (.double d2), .second, .val (.double d3), .second, .unset, .unset, .unset, .unset, .unset] [])) _
      refine XS.iloadN X11.here hx rfl (hb hby at_124) rfl ?_
      show Steps p.tables e below (T11.setTop (mkF m 125 #[.val (.int i0), .val (.int i1), .val (.int (2 : Int32)), .val (.int f), .val (.int v0), .val (.int v1), .val (.int v2), .val (.int v3), .val (.double d0), .second, .val (.double d1), .second, .val (.double d2), .second, .val (.double d3), .second, .unset, .unset, .unset, .unset, .unset] [(.int (2 : Int32))])) _
      refine XS.iconst X11.here hx rfl (hb hby at_125) ?_
      show Steps p.tables e below (T11.setTop (mkF m 126 #[.val (.int i0), .val (.int i1), .val (.int (2 : Int32)), .val (.int f), .val (.int v0), .val (.int v1), .val (.int v2), .val (.int v3), .val (.double d0), .second, .val (.double d1), .second, .val (.double d2), .second, .val (.double d3), .second, .unset, .unset, .unset, .unset, .unset] [(.int (2 : Int32)), (.int (2 : Int32))])) _
      refine XS.icmpNo X11.here hx rfl (hb hby at_126) rfl (teq rfl).2 ?_
      exact Steps.refl _
    have c49 : Steps p.tables e below S0 (T11.setTop (mkF m 130 #[.val (.int i0), .val (.int i1), .val (.int (2 : Int32)), .val (.int f), .val (.int v0), .val (.int v1), .val (.int v2), .val (.int v3), .val (.double d0), .second, .val (.double d1), .second, .val (.double d2), .second, .val (.double d3), .second, .unset, .unset, .unset, .unset, .unset] [(.int (2 : Int32))])) := by
      refine c48.trans ?_
      show Steps p.tables e below (T11.setTop (mkF m 129 #[.val (.int i0), .val (.int i1), .val (.int (2 : Int32)), .val (.int f), .val (.int v0), .val (.int v1), .val (.int v2), .val (.int v3), .val (.double d0), .second, .val (.double d1), .second, .val (.double d2), .second, .val (.double d3), .second, .unset, .unset, .unset, .unset, .unset] [])) _
      refine XS.iconst X11.here hx rfl (hb hby at_129) ?_
      exact Steps.refl _
    obtain ⟨T50, h50, kA50, X50, e50, E50, A50, st50⟩ := newP X11 hx hZ (hw _ (List.mem_of_getElem? (i := 5) rfl)) es3 (g := (mkF m 130 #[.val (.int i0), .val (.int i1), .val (.int (2 : Int32)), .val (.int f), .val (.int v0), .val (.int v1), .val (.int v2), .val (.int v3), .val (.double d0), .second, .val (.double d1), .second, .val (.double d2), .second, .val (.double d3), .second, .unset, .unset, .unset, .unset, .unset] [(.int (2 : Int32))])) rfl (hb hby at_130) rfl (by decide : ¬ ((2 : Int32) < (0 : Int32))) (cap := 2) (by decide) (by decide) (by decide) (by decide)
    obtain ⟨b50, g50⟩ : ∃ z, z = h0.size := ⟨_, rfl⟩
    rw [← g50] at A50 st50
    have c50 : Steps p.tables e below S0 (T50.setTop (mkF m 132 #[.val (.int i0), .val (.int i1), .val (.int (2 : Int32)), .val (.int f), .val (.int v0), .val (.int v1), .val (.int v2), .val (.int v3), .val (.double d0), .second, .val (.double d1), .second, .val (.double d2), .second, .val (.double d3), .second, .unset, .unset, .unset, .unset, .unset] [(.ref b50)])) := by
      refine c49.trans ?_
      show Steps p.tables e below (T11.setTop (mkF m 130 #[.val (.int i0), .val (.int i1), .val (.int (2 : Int32)), .val (.int f), .val (.int v0), .val (.int v1), .val (.int v2), .val (.int v3), .val (.double d0), .second, .val (.double d1), .second, .val (.double d2), .second, .val (.double d3), .second, .unset, .unset, .unset, .unset, .unset] [(.int (2 : Int32))])) _
      refine st50 _ ?_
      exact Steps.refl _
    have V50 := Arv.new A50 (by decide)
    have gb50 : n0 ≤ b50 := Nat.le_trans Zh (Nat.le_of_eq g50.symm)
    have Zh := Nat.le_trans Zh E50.1
    have hk := Nat.le_trans hk E50.1
    have c51 : Steps p.tables e below S0 (T50.setTop (mkF m 136 #[.val (.int i0), .val (.int i1), .val (.int (2 : Int32)), .val (.int f), .val (.int v0), .val (.int v1), .val (.int v2), .val (.int v3), .val (.double d0), .second, .val (.double d1), .second, .val (.double d2), .second, .val (.double d3), .second, .unset, .unset, .unset, .unset, .unset] [(.double d0), (.int (0 : Int32)), (.ref b50), (.ref b50)])) := by
      refine c50.trans ?_
      show Steps p.tables e below (T50.setTop (mkF m 132 #[.val (.int i0), .val (.int i1), .val (.int (2 : Int32)), .val (.int f), .val (.int v0), .val (.int v1), .val (.int v2), .val (.int v3), .val (.double d0), .second, .val (.double d1), .second, .val (.double d2), .second, .val (.double d3), .second, .unset, .unset, .unset, .unset, .unset] [(.ref b50)])) _
      refine XS.dup X50.here hx rfl (hb hby at_132) rfl rfl ?_
      show Steps p.tables e below (T50.setTop (mkF m 133 #[.val (.int i0), .val (.int i1), .val (.int (2 : Int32)), .val (.int f), .val (.int v0), .val (.int v1), .val (.int v2), .val (.int v3), .val (.double d0), .second, .val (.double d1), .second, .val (.double d2), .second, .val (.double d3), .second, .unset, .unset, .unset, .unset, .unset] [(.ref b50), (.ref b50)])) _
      refine XS.iconst X50.here hx rfl (hb hby at_133) ?_
      show Steps p.tables e below (T50.setTop (mkF m 134 #[.val (.int i0), .val (.int i1), .val (.int (2 : Int32)), .val (.int f), .val (.int v0), .val (.int v1), .val (.int v2), .val (.int v3), .val (.double d0), .second, .val (.double d1), .second, .val (.double d2), .second, .val (.double d3), .second, .unset, .unset, .unset, .unset, .unset] [(.int (0 : Int32)), (.ref b50), (.ref b50)])) _
      refine XS.dload X50.here hx rfl (hb hby at_134) rfl ?_
      exact Steps.refl _
    have Vp52 : Arv Z _ b50 kA50 .double (2 : Int32) [(.double 0)] (.double 0) := V50.pad (pad_rep [] (.double 0) 1)
    obtain ⟨cl52, Ar52, qr52, S52, M52, Hs52, U52⟩ := Vp52
    obtain ⟨T52, h52, X52, e52, W52, st52⟩ := stD X50 hx hZ e50 Ar52 (j := (0 : Int32)) (inb_of S52 ⟨(by decide), (by decide)⟩) (g := (mkF m 136 #[.val (.int i0), .val (.int i1), .val (.int (2 : Int32)), .val (.int f), .val (.int v0), .val (.int v1), .val (.int v2), .val (.int v3), .val (.double d0), .second, .val (.double d1), .second, .val (.double d2), .second, .val (.double d3), .second, .unset, .unset, .unset, .unset, .unset] [(.double d0), (.int (0 : Int32)), (.ref b50), (.ref b50)])) rfl rfl (hb hby at_136)
    have V52 : Arv Z h52 b50 kA50 .double (2 : Int32) [(.double d0)] (.double 0) := Arv.set Ar52 qr52 S52 M52 Hs52 U52 rfl W52 0 rfl (Nat.le_of_ble_eq_true rfl)
    have c52 : Steps p.tables e below S0 (T52.setTop (mkF m 137 #[.val (.int i0), .val (.int i1), .val (.int (2 : Int32)), .val (.int f), .val (.int v0), .val (.int v1), .val (.int v2), .val (.int v3), .val (.double d0), .second, .val (.double d1), .second, .val (.double d2), .second, .val (.double d3), .second, .unset, .unset, .unset, .unset, .unset] [(.ref b50)])) := by
      refine c51.trans ?_
      show Steps p.tables e below (T50.setTop (mkF m 136 #[.val (.int i0), .val (.int i1), .val (.int (2 : Int32)), .val (.int f), .val (.int v0), .val (.int v1), .val (.int v2), .val (.int v3), .val (.double d0), .second, .val (.double d1), .second, .val (.double d2), .second, .val (.double d3), .second, .unset, .unset, .unset, .unset, .unset] [(.double d0), (.int (0 : Int32)), (.ref b50), (.ref b50)])) _
      refine st52 _ ?_
      exact Steps.refl _
    have Ns0 := Fr.snoc X52 Na3 gb50
    have Zh := Nat.le_trans Zh (Nat.le_of_eq (own_wsz W52).symm)
    have hk := Nat.le_trans hk (Nat.le_of_eq (own_wsz W52).symm)
    have c53 : Steps p.tables e below S0 (T52.setTop (mkF m 141 #[.val (.int i0), .val (.int i1), .val (.int (2 : Int32)), .val (.int f), .val (.int v0), .val (.int v1), .val (.int v2), .val (.int v3), .val (.double d0), .second, .val (.double d1), .second, .val (.double d2), .second, .val (.double d3), .second, .unset, .unset, .unset, .unset, .unset] [(.double d1), (.int (1 : Int32)), (.ref b50), (.ref b50)])) := by
      refine c52.trans ?_
      show Steps p.tables e below (T52.setTop (mkF m 137 #[.val (.int i0), .val (.int i1), .val (.int (2 : Int32)), .val (.int f), .val (.int v0), .val (.int v1), .val (.int v2), .val (.int v3), .val (.double d0), .second, .val (.double d1), .second, .val (.double d2), .second, .val (.double d3), .second, .unset, .unset, .unset, .unset, .unset] [(.ref b50)])) _
      refine XS.dup X52.here hx rfl (hb hby at_137) rfl rfl ?_
      show Steps p.tables e below (T52.setTop (mkF m 138 #[.val (.int i0), .val (.int i1), .val (.int (2 : Int32)), .val (.int f), .val (.int v0), .val (.int v1), .val (.int v2), .val (.int v3), .val (.double d0), .second, .val (.double d1), .second, .val (.double d2), .second, .val (.double d3), .second, .unset, .unset, .unset, .unset, .unset] [(.ref b50), (.ref b50)])) _
      refine XS.iconst X52.here hx rfl (hb hby at_138) ?_
      show Steps p.tables e below (T52.setTop (mkF m 139 #[.val (.int i0), .val (.int i1), .val (.int (2 : Int32)), .val (.int f), .val (.int v0), .val (.int v1), .val (.int v2), .val (.int v3), .val (.double d0), .second, .val (.double d1), .second, .val (.double d2), .second, .val (.double d3), .second, .unset, .unset, .unset, .unset, .unset] [(.int (1 : Int32)), (.ref b50), (.ref b50)])) _
      refine XS.dload X52.here hx rfl (hb hby at_139) rfl ?_
      exact Steps.refl _
    have Vp54 : Arv Z _ b50 kA50 .double (2 : Int32) [(.double d0), (.double 0)] (.double 0) := V52.pad (pad_rep [(.double d0)] (.double 0) 1)
    obtain ⟨cl54, Ar54, qr54, S54, M54, Hs54, U54⟩ := Vp54
    obtain ⟨T54, h54, X54, e54, W54, st54⟩ := stD X52 hx hZ e52 Ar54 (j := (1 : Int32)) (inb_of S54 ⟨(by decide), (by decide)⟩) (g := (mkF m 141 #[.val (.int i0), .val (.int i1), .val (.int (2 : Int32)), .val (.int f), .val (.int v0), .val (.int v1), .val (.int v2), .val (.int v3), .val (.double d0), .second, .val (.double d1), .second, .val (.double d2), .second, .val (.double d3), .second, .unset, .unset, .unset, .unset, .unset] [(.double d1), (.int (1 : Int32)), (.ref b50), (.ref b50)])) rfl rfl (hb hby at_141)
    have V54 : Arv Z h54 b50 kA50 .double (2 : Int32) [(.double d0), (.double d1)] (.double 0) := Arv.set Ar54 qr54 S54 M54 Hs54 U54 rfl W54 1 rfl (Nat.le_of_ble_eq_true rfl)
    have c54 : Steps p.tables e below S0 (T54.setTop (mkF m 142 #[.val (.int i0), .val (.int i1), .val (.int (2 : Int32)), .val (.int f), .val (.int v0), .val (.int v1), .val (.int v2), .val (.int v3), .val (.double d0), .second, .val (.double d1), .second, .val (.double d2), .second, .val (.double d3), .second, .unset, .unset, .unset, .unset, .unset] [(.ref b50)])) := by
      refine c53.trans ?_
      show Steps p.tables e below (T52.setTop (mkF m 141 #[.val (.int i0), .val (.int i1), .val (.int (2 : Int32)), .val (.int f), .val (.int v0), .val (.int v1), .val (.int v2), .val (.int v3), .val (.double d0), .second, .val (.double d1), .second, .val (.double d2), .second, .val (.double d3), .second, .unset, .unset, .unset, .unset, .unset] [(.double d1), (.int (1 : Int32)), (.ref b50), (.ref b50)])) _
      refine st54 _ ?_
      exact Steps.refl _
    have Ns1 := Fr.snoc X54 Ns0 gb50
    have Zh := Nat.le_trans Zh (Nat.le_of_eq (own_wsz W54).symm)
    have hk := Nat.le_trans hk (Nat.le_of_eq (own_wsz W54).symm)
    have c55 : Steps p.tables e below S0 (T54.setTop (mkF m 145 #[.val (.int i0), .val (.int i1), .val (.int (2 : Int32)), .val (.int f), .val (.int v0), .val (.int v1), .val (.int v2), .val (.int v3), .val (.double d0), .second, .val (.double d1), .second, .val (.double d2), .second, .val (.double d3), .second, .val (.ref b50), .unset, .unset, .unset, .unset] [(.int (2 : Int32))])) := by
      refine c54.trans ?_
      show Steps p.tables e below (T54.setTop (mkF m 142 #[.val (.int i0), .val (.int i1), .val (.int (2 : Int32)), .val (.int f), .val (.int v0), .val (.int v1), .val (.int v2), .val (.int v3), .val (.double d0), .second, .val (.double d1), .second, .val (.double d2), .second, .val (.double d3), .second, .unset, .unset, .unset, .unset, .unset] [(.ref b50)])) _
      refine XS.astore X54.here hx rfl (hb hby at_142) rfl rfl (l' := #[.val (.int i0), .val (.int i1), .val (.int (2 : Int32)), .val (.int f), .val (.int v0), .val (.int v1), .val (.int v2), .val (.int v3), .val (.double d0), .second, .val (.double d1), .second, .val (.double d2), .second, .val (.double d3), .second, .val (.ref b50), .unset, .unset, .unset, .unset]) rfl ?_
      show Steps p.tables e below (T54.setTop (mkF m 144 #[.val (.int i0), .val (.int i1), .val (.int (2 : Int32)), .val (.int f), .val (.int v0), .val (.int v1), .val (.int v2), .val (.int v3), .val (.double d0), .second, .val (.double d1), .second, .val (.double d2), .second, .val (.double d3), .second, .val (.ref b50), .unset, .unset, .unset, .unset] [])) _
      refine XS.iconst X54.here hx rfl (hb hby at_144) ?_
      exact Steps.refl _
    obtain ⟨T56, h56, kA56, X56, e56, E56, A56, st56⟩ := newP X54 hx hZ (hw _ (List.mem_of_getElem? (i := 6) rfl)) e54 (g := (mkF m 145 #[.val (.int i0), .val (.int i1), .val (.int (2 : Int32)), .val (.int f), .val (.int v0), .val (.int v1), .val (.int v2), .val (.int v3), .val (.double d0), .second, .val (.double d1), .second, .val (.double d2), .second, .val (.double d3), .second, .val (.ref b50), .unset, .unset, .unset, .unset] [(.int (2 : Int32))])) rfl (hb hby at_145) rfl (by decide : ¬ ((2 : Int32) < (0 : Int32))) (cap := 2) (by decide) (by decide) (by decide) (by decide)
    obtain ⟨b56, g56⟩ : ∃ z, z = h54.size := ⟨_, rfl⟩
    rw [← g56] at A56 st56
    have c56 : Steps p.tables e below S0 (T56.setTop (mkF m 147 #[.val (.int i0), .val (.int i1), .val (.int (2 : Int32)), .val (.int f), .val (.int v0), .val (.int v1), .val (.int v2), .val (.int v3), .val (.double d0), .second, .val (.double d1), .second, .val (.double d2), .second, .val (.double d3), .second, .val (.ref b50), .unset, .unset, .unset, .unset] [(.ref b56)])) := by
      refine c55.trans ?_
      show Steps p.tables e below (T54.setTop (mkF m 145 #[.val (.int i0), .val (.int i1), .val (.int (2 : Int32)), .val (.int f), .val (.int v0), .val (.int v1), .val (.int v2), .val (.int v3), .val (.double d0), .second, .val (.double d1), .second, .val (.double d2), .second, .val (.double d3), .second, .val (.ref b50), .unset, .unset, .unset, .unset] [(.int (2 : Int32))])) _
      refine st56 _ ?_
      exact Steps.refl _
    have V56 := Arv.new A56 (by decide)
    have gb56 : n0 ≤ b56 := Nat.le_trans Zh (Nat.le_of_eq g56.symm)
    have Zh := Nat.le_trans Zh E56.1
    have hk := Nat.le_trans hk E56.1
    have c57 : Steps p.tables e below S0 (T56.setTop (mkF m 150 #[.val (.int i0), .val (.int i1), .val (.int (2 : Int32)), .val (.int f), .val (.int v0), .val (.int v1), .val (.int v2), .val (.int v3), .val (.double d0), .second, .val (.double d1), .second, .val (.double d2), .second, .val (.double d3), .second, .val (.ref b50), .unset, .unset, .unset, .unset] [(.int (0 : Int32)), (.int (0 : Int32)), (.ref b56), (.ref b56)])) := by
      refine c56.trans ?_
      show Steps p.tables e below (T56.setTop (mkF m 147 #[.val (.int i0), .val (.int i1), .val (.int (2 : Int32)), .val (.int f), .val (.int v0), .val (.int v1), .val (.int v2), .val (.int v3), .val (.double d0), .second, .val (.double d1), .second, .val (.double d2), .second, .val (.double d3), .second, .val (.ref b50), .unset, .unset, .unset, .unset] [(.ref b56)])) _
      refine XS.dup X56.here hx rfl (hb hby at_147) rfl rfl ?_
      show Steps p.tables e below (T56.setTop (mkF m 148 #[.val (.int i0), .val (.int i1), .val (.int (2 : Int32)), .val (.int f), .val (.int v0), .val (.int v1), .val (.int v2), .val (.int v3), .val (.double d0), .second, .val (.double d1), .second, .val (.double d2), .second, .val (.double d3), .second, .val (.ref b50), .unset, .unset, .unset, .unset] [(.ref b56), (.ref b56)])) _
      refine XS.iconst X56.here hx rfl (hb hby at_148) ?_
      show Steps p.tables e below (T56.setTop (mkF m 149 #[.val (.int i0), .val (.int i1), .val (.int (2 : Int32)), .val (.int f), .val (.int v0), .val (.int v1), .val (.int v2), .val (.int v3), .val (.double d0), .second, .val (.double d1), .second, .val (.double d2), .second, .val (.double d3), .second, .val (.ref b50), .unset, .unset, .unset, .unset] [(.int (0 : Int32)), (.ref b56), (.ref b56)])) _
      refine XS.iconst X56.here hx rfl (hb hby at_149) ?_
      exact Steps.refl _
    have Vp58 : Arv Z _ b56 kA56 .int (2 : Int32) [(.int 0)] (.int 0) := V56.pad (pad_rep [] (.int 0) 1)
    obtain ⟨cl58, Ar58, qr58, S58, M58, Hs58, U58⟩ := Vp58
    obtain ⟨T58, h58, X58, e58, W58, st58⟩ := stI X56 hx hZ e56 Ar58 (j := (0 : Int32)) (inb_of S58 ⟨(by decide), (by decide)⟩) (g := (mkF m 150 #[.val (.int i0), .val (.int i1), .val (.int (2 : Int32)), .val (.int f), .val (.int v0), .val (.int v1), .val (.int v2), .val (.int v3), .val (.double d0), .second, .val (.double d1), .second, .val (.double d2), .second, .val (.double d3), .second, .val (.ref b50), .unset, .unset, .unset, .unset] [(.int (0 : Int32)), (.int (0 : Int32)), (.ref b56), (.ref b56)])) rfl rfl (hb hby at_150)
    have V58 : Arv Z h58 b56 kA56 .int (2 : Int32) [(.int (0 : Int32))] (.int 0) := Arv.set Ar58 qr58 S58 M58 Hs58 U58 rfl W58 0 rfl (Nat.le_of_ble_eq_true rfl)
    have c58 : Steps p.tables e below S0 (T58.setTop (mkF m 151 #[.val (.int i0), .val (.int i1), .val (.int (2 : Int32)), .val (.int f), .val (.int v0), .val (.int v1), .val (.int v2), .val (.int v3), .val (.double d0), .second, .val (.double d1), .second, .val (.double d2), .second, .val (.double d3), .second, .val (.ref b50), .unset, .unset, .unset, .unset] [(.ref b56)])) := by
      refine c57.trans ?_
      show Steps p.tables e below (T56.setTop (mkF m 150 #[.val (.int i0), .val (.int i1), .val (.int (2 : Int32)), .val (.int f), .val (.int v0), .val (.int v1), .val (.int v2), .val (.int v3), .val (.double d0), .second, .val (.double d1), .second, .val (.double d2), .second, .val (.double d3), .second, .val (.ref b50), .unset, .unset, .unset, .unset] [(.int (0 : Int32)), (.int (0 : Int32)), (.ref b56), (.ref b56)])) _
      refine st58 _ ?_
      exact Steps.refl _
    have Nd0 := Fr.snoc X58 Ns1 gb56
    have Zh := Nat.le_trans Zh (Nat.le_of_eq (own_wsz W58).symm)
    have hk := Nat.le_trans hk (Nat.le_of_eq (own_wsz W58).symm)
    have c59 : Steps p.tables e below S0 (T58.setTop (mkF m 154 #[.val (.int i0), .val (.int i1), .val (.int (2 : Int32)), .val (.int f), .val (.int v0), .val (.int v1), .val (.int v2), .val (.int v3), .val (.double d0), .second, .val (.double d1), .second, .val (.double d2), .second, .val (.double d3), .second, .val (.ref b50), .unset, .unset, .unset, .unset] [(.int (1 : Int32)), (.int (1 : Int32)), (.ref b56), (.ref b56)])) := by
      refine c58.trans ?_
      show Steps p.tables e below (T58.setTop (mkF m 151 #[.val (.int i0), .val (.int i1), .val (.int (2 : Int32)), .val (.int f), .val (.int v0), .val (.int v1), .val (.int v2), .val (.int v3), .val (.double d0), .second, .val (.double d1), .second, .val (.double d2), .second, .val (.double d3), .second, .val (.ref b50), .unset, .unset, .unset, .unset] [(.ref b56)])) _
      refine XS.dup X58.here hx rfl (hb hby at_151) rfl rfl ?_
      show Steps p.tables e below (T58.setTop (mkF m 152 #[.val (.int i0), .val (.int i1), .val (.int (2 : Int32)), .val (.int f), .val (.int v0), .val (.int v1), .val (.int v2), .val (.int v3), .val (.double d0), .second, .val (.double d1), .second, .val (.double d2), .second, .val (.double d3), .second, .val (.ref b50), .unset, .unset, .unset, .unset] [(.ref b56), (.ref b56)])) _
      refine XS.iconst X58.here hx rfl (hb hby at_152) ?_
      show Steps p.tables e below (T58.setTop (mkF m 153 #[.val (.int i0), .val (.int i1), .val (.int (2 : Int32)), .val (.int f), .val (.int v0), .val (.int v1), .val (.int v2), .val (.int v3), .val (.double d0), .second, .val (.double d1), .second, .val (.double d2), .second, .val (.double d3), .second, .val (.ref b50), .unset, .unset, .unset, .unset] [(.int (1 : Int32)), (.ref b56), (.ref b56)])) _
      refine XS.iconst X58.here hx rfl (hb hby at_153) ?_
      exact Steps.refl _
    have Vp60 : Arv Z _ b56 kA56 .int (2 : Int32) [(.int (0 : Int32)), (.int 0)] (.int 0) := V58.pad (pad_rep [(.int (0 : Int32))] (.int 0) 1)
    obtain ⟨cl60, Ar60, qr60, S60, M60, Hs60, U60⟩ := Vp60
    obtain ⟨T60, h60, X60, e60, W60, st60⟩ := stI X58 hx hZ e58 Ar60 (j := (1 : Int32)) (inb_of S60 ⟨(by decide), (by decide)⟩) (g := (mkF m 154 #[.val (.int i0), .val (.int i1), .val (.int (2 : Int32)), .val (.int f), .val (.int v0), .val (.int v1), .val (.int v2), .val (.int v3), .val (.double d0), .second, .val (.double d1), .second, .val (.double d2), .second, .val (.double d3), .second, .val (.ref b50), .unset, .unset, .unset, .unset] [(.int (1 : Int32)), (.int (1 : Int32)), (.ref b56), (.ref b56)])) rfl rfl (hb hby at_154)
    have V60 : Arv Z h60 b56 kA56 .int (2 : Int32) [(.int (0 : Int32)), (.int (1 : Int32))] (.int 0) := Arv.set Ar60 qr60 S60 M60 Hs60 U60 rfl W60 1 rfl (Nat.le_of_ble_eq_true rfl)
    have c60 : Steps p.tables e below S0 (T60.setTop (mkF m 155 #[.val (.int i0), .val (.int i1), .val (.int (2 : Int32)), .val (.int f), .val (.int v0), .val (.int v1), .val (.int v2), .val (.int v3), .val (.double d0), .second, .val (.double d1), .second, .val (.double d2), .second, .val (.double d3), .second, .val (.ref b50), .unset, .unset, .unset, .unset] [(.ref b56)])) := by
      refine c59.trans ?_
      show Steps p.tables e below (T58.setTop (mkF m 154 #[.val (.int i0), .val (.int i1), .val (.int (2 : Int32)), .val (.int f), .val (.int v0), .val (.int v1), .val (.int v2), .val (.int v3), .val (.double d0), .second, .val (.double d1), .second, .val (.double d2), .second, .val (.double d3), .second, .val (.ref b50), .unset, .unset, .unset, .unset] [(.int (1 : Int32)), (.int (1 : Int32)), (.ref b56), (.ref b56)])) _
      refine st60 _ ?_
      exact Steps.refl _
    have Nd1 := Fr.snoc X60 Nd0 gb56
    have Zh := Nat.le_trans Zh (Nat.le_of_eq (own_wsz W60).symm)
    have hk := Nat.le_trans hk (Nat.le_of_eq (own_wsz W60).symm)
    have c61 : Steps p.tables e below S0 (T60.setTop (mkF m 251 #[.val (.int i0), .val (.int i1), .val (.int (2 : Int32)), .val (.int f), .val (.int v0), .val (.int v1), .val (.int v2), .val (.int v3), .val (.double d0), .second, .val (.double d1), .second, .val (.double d2), .second, .val (.double d3), .second, .val (.ref b50), .val (.ref b56), .unset, .unset, .unset] [])) := by
      refine c60.trans ?_
      show Steps p.tables e below (T60.setTop (mkF m 155 #[.val (.int i0), .val (.int i1), .val (.int (2 : Int32)), .val (.int f), .val (.int v0), .val (.int v1), .val (.int v2), .val (.int v3), .val (.double d0), .second, .val (.double d1), .second, .val (.double d2), .second, .val (.double d3), .second, .val (.ref b50), .unset, .unset, .unset, .unset] [(.ref b56)])) _
      refine XS.astore X60.here hx rfl (hb hby at_155) rfl rfl (l' := #[.val (.int i0), .val (.int i1), .val (.int (2 : Int32)), .val (.int f), .val (.int v0), .val (.int v1), .val (.int v2), .val (.int v3), .val (.double d0), .second, .val (.double d1), .second, .val (.double d2), .second, .val (.double d3), .second, .val (.ref b50), .val (.ref b56), .unset, .unset, .unset]) rfl ?_
      show Steps p.tables e below (T60.setTop (mkF m 157 #[.val (.int i0), .val (.int i1), .val (.int (2 : Int32)), .val (.int f), .val (.int v0), .val (.int v1), .val (.int v2), .val (.int v3), .val (.double d0), .second, .val (.double d1), .second, .val (.double d2), .second, .val (.double d3), .second, .val (.ref b50), .val (.ref b56), .unset, .unset, .unset] [])) _
      refine XS.goto X60.here hx rfl (pc0 := 157) (pc' := 251) rfl (hb hby at_157) (by decide) (by decide) ?_
      exact Steps.refl _
    have c62 : Steps p.tables e below S0 (T60.setTop (mkF m 252 #[.val (.int i0), .val (.int i1), .val (.int (2 : Int32)), .val (.int f), .val (.int v0), .val (.int v1), .val (.int v2), .val (.int v3), .val (.double d0), .second, .val (.double d1), .second, .val (.double d2), .second, .val (.double d3), .second, .val (.ref b50), .val (.ref b56), .unset, .unset, .unset] [(.int (4 : Int32))])) := by
      refine c61.trans ?_
      show Steps p.tables e below (T60.setTop (mkF m 251 #[.val (.int i0), .val (.int i1), .val (.int (2 : Int32)), .val (.int f), .val (.int v0), .val (.int v1), .val (.int v2), .val (.int v3), .val (.double d0), .second, .val (.double d1), .second, .val (.double d2), .second, .val (.double d3), .second, .val (.ref b50), .val (.ref b56), .unset, .unset, .unset] [])) _
      refine XS.iconst X60.here hx rfl (hb hby at_251) ?_
      exact Steps.refl _
    obtain ⟨T63, h63, kA63, X63, e63, E63, A63, st63⟩ := newP X60 hx hZ (hw _ (List.mem_of_getElem? (i := 6) rfl)) e60 (g := (mkF m 252 #[.val (.int i0), .val (.int i1), .val (.int (2 : Int32)), .val (.int f), .val (.int v0), .val (.int v1), .val (.int v2), .val (.int v3), .val (.double d0), .second, .val (.double d1), .second, .val (.double d2), .second, .val (.double d3), .second, .val (.ref b50), .val (.ref b56), .unset, .unset, .unset] [(.int (4 : Int32))])) rfl (hb hby at_252) rfl (by decide : ¬ ((4 : Int32) < (0 : Int32))) (cap := 4) (by decide) (by decide) (by decide) (by decide)
    obtain ⟨b63, g63⟩ : ∃ z, z = h60.size := ⟨_, rfl⟩
    rw [← g63] at A63 st63
    have c63 : Steps p.tables e below S0 (T63.setTop (mkF m 254 #[.val (.int i0), .val (.int i1), .val (.int (2 : Int32)), .val (.int f), .val (.int v0), .val (.int v1), .val (.int v2), .val (.int v3), .val (.double d0), .second, .val (.double d1), .second, .val (.double d2), .second, .val (.double d3), .second, .val (.ref b50), .val (.ref b56), .unset, .unset, .unset] [(.ref b63)])) := by
      refine c62.trans ?_
      show Steps p.tables e below (T60.setTop (mkF m 252 #[.val (.int i0), .val (.int i1), .val (.int (2 : Int32)), .val (.int f), .val (.int v0), .val (.int v1), .val (.int v2), .val (.int v3), .val (.double d0), .second, .val (.double d1), .second, .val (.double d2), .second, .val (.double d3), .second, .val (.ref b50), .val (.ref b56), .unset, .unset, .unset] [(.int (4 : Int32))])) _
      refine st63 _ ?_
      exact Steps.refl _
    have V63 := Arv.new A63 (by decide)
    have gb63 : n0 ≤ b63 := Nat.le_trans Zh (Nat.le_of_eq g63.symm)
    have Zh := Nat.le_trans Zh E63.1
    have hk := Nat.le_trans hk E63.1
    have c64 : Steps p.tables e below S0 (T63.setTop (mkF m 258 #[.val (.int i0), .val (.int i1), .val (.int (2 : Int32)), .val (.int f), .val (.int v0), .val (.int v1), .val (.int v2), .val (.int v3), .val (.double d0), .second, .val (.double d1), .second, .val (.double d2), .second, .val (.double d3), .second, .val (.ref b50), .val (.ref b56), .unset, .unset, .unset] [(.int v0), (.int (0 : Int32)), (.ref b63), (.ref b63)])) := by
      refine c63.trans ?_
      show Steps p.tables e below (T63.setTop (mkF m 254 #[.val (.int i0), .val (.int i1), .val (.int (2 : Int32)), .val (.int f), .val (.int v0), .val (.int v1), .val (.int v2), .val (.int v3), .val (.double d0), .second, .val (.double d1), .second, .val (.double d2), .second, .val (.double d3), .second, .val (.ref b50), .val (.ref b56), .unset, .unset, .unset] [(.ref b63)])) _
      refine XS.dup X63.here hx rfl (hb hby at_254) rfl rfl ?_
      show Steps p.tables e below (T63.setTop (mkF m 255 #[.val (.int i0), .val (.int i1), .val (.int (2 : Int32)), .val (.int f), .val (.int v0), .val (.int v1), .val (.int v2), .val (.int v3), .val (.double d0), .second, .val (.double d1), .second, .val (.double d2), .second, .val (.double d3), .second, .val (.ref b50), .val (.ref b56), .unset, .unset, .unset] [(.ref b63), (.ref b63)])) _
      refine XS.iconst X63.here hx rfl (hb hby at_255) ?_
      show Steps p.tables e below (T63.setTop (mkF m 256 #[.val (.int i0), .val (.int i1), .val (.int (2 : Int32)), .val (.int f), .val (.int v0), .val (.int v1), .val (.int v2), .val (.int v3), .val (.double d0), .second, .val (.double d1), .second, .val (.double d2), .second, .val (.double d3), .second, .val (.ref b50), .val (.ref b56), .unset, .unset, .unset] [(.int (0 : Int32)), (.ref b63), (.ref b63)])) _
      refine XS.iload X63.here hx rfl (hb hby at_256) rfl ?_
      exact Steps.refl _
    have Vp65 : Arv Z _ b63 kA63 .int (4 : Int32) [(.int 0)] (.int 0) := V63.pad (pad_rep [] (.int 0) 1)
    obtain ⟨cl65, Ar65, qr65, S65, M65, Hs65, U65⟩ := Vp65
    obtain ⟨T65, h65, X65, e65, W65, st65⟩ := stI X63 hx hZ e63 Ar65 (j := (0 : Int32)) (inb_of S65 ⟨(by decide), (by decide)⟩) (g := (mkF m 258 #[.val (.int i0), .val (.int i1), .val (.int (2 : Int32)), .val (.int f), .val (.int v0), .val (.int v1), .val (.int v2), .val (.int v3), .val (.double d0), .second, .val (.double d1), .second, .val (.double d2), .second, .val (.double d3), .second, .val (.ref b50), .val (.ref b56), .unset, .unset, .unset] [(.int v0), (.int (0 : Int32)), (.ref b63), (.ref b63)])) rfl rfl (hb hby at_258)
    have V65 : Arv Z h65 b63 kA63 .int (4 : Int32) [(.int v0)] (.int 0) := Arv.set Ar65 qr65 S65 M65 Hs65 U65 rfl W65 0 rfl (Nat.le_of_ble_eq_true rfl)
    have c65 : Steps p.tables e below S0 (T65.setTop (mkF m 259 #[.val (.int i0), .val (.int i1), .val (.int (2 : Int32)), .val (.int f), .val (.int v0), .val (.int v1), .val (.int v2), .val (.int v3), .val (.double d0), .second, .val (.double d1), .second, .val (.double d2), .second, .val (.double d3), .second, .val (.ref b50), .val (.ref b56), .unset, .unset, .unset] [(.ref b63)])) := by
      refine c64.trans ?_
      show Steps p.tables e below (T63.setTop (mkF m 258 #[.val (.int i0), .val (.int i1), .val (.int (2 : Int32)), .val (.int f), .val (.int v0), .val (.int v1), .val (.int v2), .val (.int v3), .val (.double d0), .second, .val (.double d1), .second, .val (.double d2), .second, .val (.double d3), .second, .val (.ref b50), .val (.ref b56), .unset, .unset, .unset] [(.int v0), (.int (0 : Int32)), (.ref b63), (.ref b63)])) _
      refine st65 _ ?_
      exact Steps.refl _
    have Nv0 := Fr.snoc X65 Nd1 gb63
    have Zh := Nat.le_trans Zh (Nat.le_of_eq (own_wsz W65).symm)
    have hk := Nat.le_trans hk (Nat.le_of_eq (own_wsz W65).symm)
    have c66 : Steps p.tables e below S0 (T65.setTop (mkF m 263 #[.val (.int i0), .val (.int i1), .val (.int (2 : Int32)), .val (.int f), .val (.int v0), .val (.int v1), .val (.int v2), .val (.int v3), .val (.double d0), .second, .val (.double d1), .second, .val (.double d2), .second, .val (.double d3), .second, .val (.ref b50), .val (.ref b56), .unset, .unset, .unset] [(.int v1), (.int (1 : Int32)), (.ref b63), (.ref b63)])) := by
      refine c65.trans ?_
      show Steps p.tables e below (T65.setTop (mkF m 259 #[.val (.int i0), .val (.int i1), .val (.int (2 : Int32)), .val (.int f), .val (.int v0), .val (.int v1), .val (.int v2), .val (.int v3), .val (.double d0), .second, .val (.double d1), .second, .val (.double d2), .second, .val (.double d3), .second, .val (.ref b50), .val (.ref b56), .unset, .unset, .unset] [(.ref b63)])) _
      refine XS.dup X65.here hx rfl (hb hby at_259) rfl rfl ?_
      show Steps p.tables e below (T65.setTop (mkF m 260 #[.val (.int i0), .val (.int i1), .val (.int (2 : Int32)), .val (.int f), .val (.int v0), .val (.int v1), .val (.int v2), .val (.int v3), .val (.double d0), .second, .val (.double d1), .second, .val (.double d2), .second, .val (.double d3), .second, .val (.ref b50), .val (.ref b56), .unset, .unset, .unset] [(.ref b63), (.ref b63)])) _
      refine XS.iconst X65.here hx rfl (hb hby at_260) ?_
      show Steps p.tables e below (T65.setTop (mkF m 261 #[.val (.int i0), .val (.int i1), .val (.int (2 : Int32)), .val (.int f), .val (.int v0), .val (.int v1), .val (.int v2), .val (.int v3), .val (.double d0), .second, .val (.double d1), .second, .val (.double d2), .second, .val (.double d3), .second, .val (.ref b50), .val (.ref b56), .unset, .unset, .unset] [(.int (1 : Int32)), (.ref b63), (.ref b63)])) _
      refine XS.iload X65.here hx rfl (hb hby at_261) rfl ?_
      exact Steps.refl _
    have Vp67 : Arv Z _ b63 kA63 .int (4 : Int32) [(.int v0), (.int 0)] (.int 0) := V65.pad (pad_rep [(.int v0)] (.int 0) 1)
    obtain ⟨cl67, Ar67, qr67, S67, M67, Hs67, U67⟩ := Vp67
    obtain ⟨T67, h67, X67, e67, W67, st67⟩ := stI X65 hx hZ e65 Ar67 (j := (1 : Int32)) (inb_of S67 ⟨(by decide), (by decide)⟩) (g := (mkF m 263 #[.val (.int i0), .val (.int i1), .val (.int (2 : Int32)), .val (.int f), .val (.int v0), .val (.int v1), .val (.int v2), .val (.int v3), .val (.double d0), .second, .val (.double d1), .second, .val (.double d2), .second, .val (.double d3), .second, .val (.ref b50), .val (.ref b56), .unset, .unset, .unset] [(.int v1), (.int (1 : Int32)), (.ref b63), (.ref b63)])) rfl rfl (hb hby at_263)
    have V67 : Arv Z h67 b63 kA63 .int (4 : Int32) [(.int v0), (.int v1)] (.int 0) := Arv.set Ar67 qr67 S67 M67 Hs67 U67 rfl W67 1 rfl (Nat.le_of_ble_eq_true rfl)
    have c67 : Steps p.tables e below S0 (T67.setTop (mkF m 264 #[.val (.int i0), .val (.int i1), .val (.int (2 : Int32)), .val (.int f), .val (.int v0), .val (.int v1), .val (.int v2), .val (.int v3), .val (.double d0), .second, .val (.double d1), .second, .val (.double d2), .second, .val (.double d3), .second, .val (.ref b50), .val (.ref b56), .unset, .unset, .unset] [(.ref b63)])) := by
      refine c66.trans ?_
      show Steps p.tables e below (T65.setTop (mkF m 263 #[.val (.int i0), .val (.int i1), .val (.int (2 : Int32)), .val (.int f), .val (.int v0), .val (.int v1), .val (.int v2), .val (.int v3), .val (.double d0), .second, .val (.double d1), .second, .val (.double d2), .second, .val (.double d3), .second, .val (.ref b50), .val (.ref b56), .unset, .unset, .unset] [(.int v1), (.int (1 : Int32)), (.ref b63), (.ref b63)])) _
      refine st67 _ ?_
      exact Steps.refl _
    have Nv1 := Fr.snoc X67 Nv0 gb63
    have Zh := Nat.le_trans Zh (Nat.le_of_eq (own_wsz W67).symm)
    have hk := Nat.le_trans hk (Nat.le_of_eq (own_wsz W67).symm)
    have c68 : Steps p.tables e below S0 (T67.setTop (mkF m 268 #[.val (.int i0), .val (.int i1), .val (.int (2 : Int32)), .val (.int f), .val (.int v0), .val (.int v1), .val (.int v2), .val (.int v3), .val (.double d0), .second, .val (.double d1), .second, .val (.double d2), .second, .val (.double d3), .second, .val (.ref b50), .val (.ref b56), .unset, .unset, .unset] [(.int v2), (.int (2 : Int32)), (.ref b63), (.ref b63)])) := by
      refine c67.trans ?_
      show Steps p.tables e below (T67.setTop (mkF m 264 #[.val (.int i0), .val (.int i1), .val (.int (2 : Int32)), .val (.int f), .val (.int v0), .val (.int v1), .val (.int v2), .val (.int v3), .val (.double d0), .second, .val (.double d1), .second, .val (.double d2), .second, .val (.double d3), .second, .val (.ref b50), .val (.ref b56), .unset, .unset, .unset] [(.ref b63)])) _
      refine XS.dup X67.here hx rfl (hb hby at_264) rfl rfl ?_
      show Steps p.tables e below (T67.setTop (mkF m 265 #[.val (.int i0), .val (.int i1), .val (.int (2 : Int32)), .val (.int f), .val (.int v0), .val (.int v1), .val (.int v2), .val (.int v3), .val (.double d0), .second, .val (.double d1), .second, .val (.double d2), .second, .val (.double d3), .second, .val (.ref b50), .val (.ref b56), .unset, .unset, .unset] [(.ref b63), (.ref b63)])) _
      refine XS.iconst X67.here hx rfl (hb hby at_265) ?_
      show Steps p.tables e below (T67.setTop (mkF m 266 #[.val (.int i0), .val (.int i1), .val (.int (2 : Int32)), .val (.int f), .val (.int v0), .val (.int v1), .val (.int v2), .val (.int v3), .val (.double d0), .second, .val (.double d1), .second, .val (.double d2), .second, .val (.double d3), .second, .val (.ref b50), .val (.ref b56), .unset, .unset, .unset] [(.int (2 : Int32)), (.ref b63), (.ref b63)])) _
      refine XS.iload X67.here hx rfl (hb hby at_266) rfl ?_
      exact Steps.refl _
    have Vp69 : Arv Z _ b63 kA63 .int (4 : Int32) [(.int v0), (.int v1), (.int 0)] (.int 0) := V67.pad (pad_rep [(.int v0), (.int v1)] (.int 0) 1)
    obtain ⟨cl69, Ar69, qr69, S69, M69, Hs69, U69⟩ := Vp69
    obtain ⟨T69, h69, X69, e69, W69, st69⟩ := stI X67 hx hZ e67 Ar69 (j := (2 : Int32)) (inb_of S69 ⟨(by decide), (by decide)⟩) (g := (mkF m 268 #[.val (.int i0), .val (.int i1), .val (.int (2 : Int32)), .val (.int f), .val (.int v0), .val (.int v1), .val (.int v2), .val (.int v3), .val (.double d0), .second, .val (.double d1), .second, .val (.double d2), .second, .val (.double d3), .second, .val (.ref b50), .val (.ref b56), .unset, .unset, .unset] [(.int v2), (.int (2 : Int32)), (.ref b63), (.ref b63)])) rfl rfl (hb hby at_268)
    have V69 : Arv Z h69 b63 kA63 .int (4 : Int32) [(.int v0), (.int v1), (.int v2)] (.int 0) := Arv.set Ar69 qr69 S69 M69 Hs69 U69 rfl W69 2 rfl (Nat.le_of_ble_eq_true rfl)
    have c69 : Steps p.tables e below S0 (T69.setTop (mkF m 269 #[.val (.int i0), .val (.int i1), .val (.int (2 : Int32)), .val (.int f), .val (.int v0), .val (.int v1), .val (.int v2), .val (.int v3), .val (.double d0), .second, .val (.double d1), .second, .val (.double d2), .second, .val (.double d3), .second, .val (.ref b50), .val (.ref b56), .unset, .unset, .unset] [(.ref b63)])) := by
      refine c68.trans ?_
      show Steps p.tables e below (T67.setTop (mkF m 268 #[.val (.int i0), .val (.int i1), .val (.int (2 : Int32)), .val (.int f), .val (.int v0), .val (.int v1), .val (.int v2), .val (.int v3), .val (.double d0), .second, .val (.double d1), .second, .val (.double d2), .second, .val (.double d3), .second, .val (.ref b50), .val (.ref b56), .unset, .unset, .unset] [(.int v2), (.int (2 : Int32)), (.ref b63), (.ref b63)])) _
      refine st69 _ ?_
      exact Steps.refl _
    have Nv2 := Fr.snoc X69 Nv1 gb63
    have Zh := Nat.le_trans Zh (Nat.le_of_eq (own_wsz W69).symm)
    have hk := Nat.le_trans hk (Nat.le_of_eq (own_wsz W69).symm)
    have c70 : Steps p.tables e below S0 (T69.setTop (mkF m 273 #[.val (.int i0), .val (.int i1), .val (.int (2 : Int32)), .val (.int f), .val (.int v0), .val (.int v1), .val (.int v2), .val (.int v3), .val (.double d0), .second, .val (.double d1), .second, .val (.double d2), .second, .val (.double d3), .second, .val (.ref b50), .val (.ref b56), .unset, .unset, .unset] [(.int v3), (.int (3 : Int32)), (.ref b63), (.ref b63)])) := by
      refine c69.trans ?_
      show Steps p.tables e below (T69.setTop (mkF m 269 #[.val (.int i0), .val (.int i1), .val (.int (2 : Int32)), .val (.int f), .val (.int v0), .val (.int v1), .val (.int v2), .val (.int v3), .val (.double d0), .second, .val (.double d1), .second, .val (.double d2), .second, .val (.double d3), .second, .val (.ref b50), .val (.ref b56), .unset, .unset, .unset] [(.ref b63)])) _
      refine XS.dup X69.here hx rfl (hb hby at_269) rfl rfl ?_
      show Steps p.tables e below (T69.setTop (mkF m 270 #[.val (.int i0), .val (.int i1), .val (.int (2 : Int32)), .val (.int f), .val (.int v0), .val (.int v1), .val (.int v2), .val (.int v3), .val (.double d0), .second, .val (.double d1), .second, .val (.double d2), .second, .val (.double d3), .second, .val (.ref b50), .val (.ref b56), .unset, .unset, .unset] [(.ref b63), (.ref b63)])) _
      refine XS.iconst X69.here hx rfl (hb hby at_270) ?_
      show Steps p.tables e below (T69.setTop (mkF m 271 #[.val (.int i0), .val (.int i1), .val (.int (2 : Int32)), .val (.int f), .val (.int v0), .val (.int v1), .val (.int v2), .val (.int v3), .val (.double d0), .second, .val (.double d1), .second, .val (.double d2), .second, .val (.double d3), .second, .val (.ref b50), .val (.ref b56), .unset, .unset, .unset] [(.int (3 : Int32)), (.ref b63), (.ref b63)])) _
      refine XS.iload X69.here hx rfl (hb hby at_271) rfl ?_
      exact Steps.refl _
    have Vp71 : Arv Z _ b63 kA63 .int (4 : Int32) [(.int v0), (.int v1), (.int v2), (.int 0)] (.int 0) := V69.pad (pad_rep [(.int v0), (.int v1), (.int v2)] (.int 0) 1)
    obtain ⟨cl71, Ar71, qr71, S71, M71, Hs71, U71⟩ := Vp71
    obtain ⟨T71, h71, X71, e71, W71, st71⟩ := stI X69 hx hZ e69 Ar71 (j := (3 : Int32)) (inb_of S71 ⟨(by decide), (by decide)⟩) (g := (mkF m 273 #[.val (.int i0), .val (.int i1), .val (.int (2 : Int32)), .val (.int f), .val (.int v0), .val (.int v1), .val (.int v2), .val (.int v3), .val (.double d0), .second, .val (.double d1), .second, .val (.double d2), .second, .val (.double d3), .second, .val (.ref b50), .val (.ref b56), .unset, .unset, .unset] [(.int v3), (.int (3 : Int32)), (.ref b63), (.ref b63)])) rfl rfl (hb hby at_273)
    have V71 : Arv Z h71 b63 kA63 .int (4 : Int32) [(.int v0), (.int v1), (.int v2), (.int v3)] (.int 0) := Arv.set Ar71 qr71 S71 M71 Hs71 U71 rfl W71 3 rfl (Nat.le_of_ble_eq_true rfl)
    have c71 : Steps p.tables e below S0 (T71.setTop (mkF m 274 #[.val (.int i0), .val (.int i1), .val (.int (2 : Int32)), .val (.int f), .val (.int v0), .val (.int v1), .val (.int v2), .val (.int v3), .val (.double d0), .second, .val (.double d1), .second, .val (.double d2), .second, .val (.double d3), .second, .val (.ref b50), .val (.ref b56), .unset, .unset, .unset] [(.ref b63)])) := by
      refine c70.trans ?_
      show Steps p.tables e below (T69.setTop (mkF m 273 #[.val (.int i0), .val (.int i1), .val (.int (2 : Int32)), .val (.int f), .val (.int v0), .val (.int v1), .val (.int v2), .val (.int v3), .val (.double d0), .second, .val (.double d1), .second, .val (.double d2), .second, .val (.double d3), .second, .val (.ref b50), .val (.ref b56), .unset, .unset, .unset] [(.int v3), (.int (3 : Int32)), (.ref b63), (.ref b63)])) _
      refine st71 _ ?_
      exact Steps.refl _
    have Nv3 := Fr.snoc X71 Nv2 gb63
    have Zh := Nat.le_trans Zh (Nat.le_of_eq (own_wsz W71).symm)
    have hk := Nat.le_trans hk (Nat.le_of_eq (own_wsz W71).symm)
    have Vs := ((((((((V54.ext E56).other W58 (Nat.ne_of_lt (Nat.lt_of_lt_of_le V54.lt (Nat.le_of_eq g56.symm)))).other W60 (Nat.ne_of_lt (Nat.lt_of_lt_of_le V54.lt (Nat.le_of_eq g56.symm)))).ext E63).other W65 (Nat.ne_of_lt (Nat.lt_of_lt_of_le (((V54.ext E56).other W58 (Nat.ne_of_lt (Nat.lt_of_lt_of_le V54.lt (Nat.le_of_eq g56.symm)))).other W60 (Nat.ne_of_lt (Nat.lt_of_lt_of_le V54.lt (Nat.le_of_eq g56.symm)))).lt (Nat.le_of_eq g63.symm)))).other W67 (Nat.ne_of_lt (Nat.lt_of_lt_of_le (((V54.ext E56).other W58 (Nat.ne_of_lt (Nat.lt_of_lt_of_le V54.lt (Nat.le_of_eq g56.symm)))).other W60 (Nat.ne_of_lt (Nat.lt_of_lt_of_le V54.lt (Nat.le_of_eq g56.symm)))).lt (Nat.le_of_eq g63.symm)))).other W69 (Nat.ne_of_lt (Nat.lt_of_lt_of_le (((V54.ext E56).other W58 (Nat.ne_of_lt (Nat.lt_of_lt_of_le V54.lt (Nat.le_of_eq g56.symm)))).other W60 (Nat.ne_of_lt (Nat.lt_of_lt_of_le V54.lt (Nat.le_of_eq g56.symm)))).lt (Nat.le_of_eq g63.symm)))).other W71 (Nat.ne_of_lt (Nat.lt_of_lt_of_le (((V54.ext E56).other W58 (Nat.ne_of_lt (Nat.lt_of_lt_of_le V54.lt (Nat.le_of_eq g56.symm)))).other W60 (Nat.ne_of_lt (Nat.lt_of_lt_of_le V54.lt (Nat.le_of_eq g56.symm)))).lt (Nat.le_of_eq g63.symm))))
    have Vd := (((((V60.ext E63).other W65 (Nat.ne_of_lt (Nat.lt_of_lt_of_le V60.lt (Nat.le_of_eq g63.symm)))).other W67 (Nat.ne_of_lt (Nat.lt_of_lt_of_le V60.lt (Nat.le_of_eq g63.symm)))).other W69 (Nat.ne_of_lt (Nat.lt_of_lt_of_le V60.lt (Nat.le_of_eq g63.symm)))).other W71 (Nat.ne_of_lt (Nat.lt_of_lt_of_le V60.lt (Nat.le_of_eq g63.symm))))
    obtain ⟨clv, Arv_, -, Sv, -, Hv, -⟩ := V71
    have hVv := own_hV (v0 := v0) (v1 := v1) (v2 := v2) (v3 := v3) Sv Hv
    generalize hVV : own_V v0 v1 v2 v3 = VV at hVv
    have c72 : Steps p.tables e below S0 (T71.setTop (mkF m 279 #[.val (.int i0), .val (.int i1), .val (.int (2 : Int32)), .val (.int f), .val (.int v0), .val (.int v1), .val (.int v2), .val (.int v3), .val (.double d0), .second, .val (.double d1), .second, .val (.double d2), .second, .val (.double d3), .second, .val (.ref b50), .val (.ref b56), .val (.ref b63), .val (.int (2 : Int32)), .unset] [])) := by
      refine c71.trans ?_
      show Steps p.tables e below (T71.setTop (mkF m 274 #[.val (.int i0), .val (.int i1), .val (.int (2 : Int32)), .val (.int f), .val (.int v0), .val (.int v1), .val (.int v2), .val (.int v3), .val (.double d0), .second, .val (.double d1), .second, .val (.double d2), .second, .val (.double d3), .second, .val (.ref b50), .val (.ref b56), .unset, .unset, .unset] [(.ref b63)])) _
      refine XS.astore X71.here hx rfl (hb hby at_274) rfl rfl (l' := #[.val (.int i0), .val (.int i1), .val (.int (2 : Int32)), .val (.int f), .val (.int v0), .val (.int v1), .val (.int v2), .val (.int v3), .val (.double d0), .second, .val (.double d1), .second, .val (.double d2), .second, .val (.double d3), .second, .val (.ref b50), .val (.ref b56), .val (.ref b63), .unset, .unset]) rfl ?_
      show Steps p.tables e below (T71.setTop (mkF m 276 #[.val (.int i0), .val (.int i1), .val (.int (2 : Int32)), .val (.int f), .val (.int v0), .val (.int v1), .val (.int v2), .val (.int v3), .val (.double d0), .second, .val (.double d1), .second, .val (.double d2), .second, .val (.double d3), .second, .val (.ref b50), .val (.ref b56), .val (.ref b63), .unset, .unset] [])) _
      refine XS.iloadN X71.here hx rfl (hb hby at_276) rfl ?_
      show Steps p.tables e below (T71.setTop (mkF m 277 #[.val (.int i0), .val (.int i1), .val (.int (2 : Int32)), .val (.int f), .val (.int v0), .val (.int v1), .val (.int v2), .val (.int v3), .val (.double d0), .second, .val (.double d1), .second, .val (.double d2), .second, .val (.double d3), .second, .val (.ref b50), .val (.ref b56), .val (.ref b63), .unset, .unset] [(.int (2 : Int32))])) _
      refine XS.istore X71.here hx rfl (hb hby at_277) rfl (l' := #[.val (.int i0), .val (.int i1), .val (.int (2 : Int32)), .val (.int f), .val (.int v0), .val (.int v1), .val (.int v2), .val (.int v3), .val (.double d0), .second, .val (.double d1), .second, .val (.double d2), .second, .val (.double d3), .second, .val (.ref b50), .val (.ref b56), .val (.ref b63), .val (.int (2 : Int32)), .unset]) rfl ?_
      exact Steps.refl _
    have c73 : Steps p.tables e below S0 (T71.setTop (mkF m 283 #[.val (.int i0), .val (.int i1), .val (.int (2 : Int32)), .val (.int f), .val (.int v0), .val (.int v1), .val (.int v2), .val (.int v3), .val (.double d0), .second, .val (.double d1), .second, .val (.double d2), .second, .val (.double d3), .second, .val (.ref b50), .val (.ref b56), .val (.ref b63), .val (.int (2 : Int32)), .unset] [(.int (2 : Int32)), (.int (f + (3 : Int32)))])) := by
      refine c72.trans ?_
      show Steps p.tables e below (T71.setTop (mkF m 279 #[.val (.int i0), .val (.int i1), .val (.int (2 : Int32)), .val (.int f), .val (.int v0), .val (.int v1), .val (.int v2), .val (.int v3), .val (.double d0), .second, .val (.double d1), .second, .val (.double d2), .second, .val (.double d3), .second, .val (.ref b50), .val (.ref b56), .val (.ref b63), .val (.int (2 : Int32)), .unset] [])) _
      refine XS.iloadN X71.here hx rfl (hb hby at_279) rfl ?_
      show Steps p.tables e below (T71.setTop (mkF m 280 #[.val (.int i0), .val (.int i1), .val (.int (2 : Int32)), .val (.int f), .val (.int v0), .val (.int v1), .val (.int v2), .val (.int v3), .val (.double d0), .second, .val (.double d1), .second, .val (.double d2), .second, .val (.double d3), .second, .val (.ref b50), .val (.ref b56), .val (.ref b63), .val (.int (2 : Int32)), .unset] [(.int f)])) _
      refine XS.iconst X71.here hx rfl (hb hby at_280) ?_
      show Steps p.tables e below (T71.setTop (mkF m 281 #[.val (.int i0), .val (.int i1), .val (.int (2 : Int32)), .val (.int f), .val (.int v0), .val (.int v1), .val (.int v2), .val (.int v3), .val (.double d0), .second, .val (.double d1), .second, .val (.double d2), .second, .val (.double d3), .second, .val (.ref b50), .val (.ref b56), .val (.ref b63), .val (.int (2 : Int32)), .unset] [(.int (3 : Int32)), (.int f)])) _
      refine XS.iadd X71.here hx rfl (hb hby at_281) rfl ?_
      show Steps p.tables e below (T71.setTop (mkF m 282 #[.val (.int i0), .val (.int i1), .val (.int (2 : Int32)), .val (.int f), .val (.int v0), .val (.int v1), .val (.int v2), .val (.int v3), .val (.double d0), .second, .val (.double d1), .second, .val (.double d2), .second, .val (.double d3), .second, .val (.ref b50), .val (.ref b56), .val (.ref b63), .val (.int (2 : Int32)), .unset] [(.int (f + (3 : Int32)))])) _
      refine XS.iloadN X71.here hx rfl (hb hby at_282) rfl ?_
      exact Steps.refl _
    have c74 : Steps p.tables e below S0 (T71.setTop (mkF m 304 #[.val (.int i0), .val (.int i1), .val (.int (2 : Int32)), .val (.int f), .val (.int v0), .val (.int v1), .val (.int v2), .val (.int v3), .val (.double d0), .second, .val (.double d1), .second, .val (.double d2), .second, .val (.double d3), .second, .val (.ref b50), .val (.ref b56), .val (.ref b63), .val (.int (if (f + (3 : Int32)) < (2 : Int32) then (if VV (f + (3 : Int32)) = VV f then (2 : Int32) else (f + (3 : Int32))) else (2 : Int32))), .unset] [])) := by
      refine c73.trans ?_
      by_cases h1 : (f + (3 : Int32)) < (2 : Int32)
      · obtain ⟨hq0, hq4⟩ := own_place (k := 3) (n := 2) hf0 hfN (by decide) h1
        rw [if_pos h1]
        by_cases h2 : VV (f + (3 : Int32)) = VV f
        · rw [if_pos h2]
          show Steps p.tables e below (T71.setTop (mkF m 283 #[.val (.int i0), .val (.int i1), .val (.int (2 : Int32)), .val (.int f), .val (.int v0), .val (.int v1), .val (.int v2), .val (.int v3), .val (.double d0), .second, .val (.double d1), .second, .val (.double d2), .second, .val (.double d3), .second, .val (.ref b50), .val (.ref b56), .val (.ref b63), .val (.int (2 : Int32)), .unset] [(.int (2 : Int32)), (.int (f + (3 : Int32)))])) _
          refine XS.icmpNo X71.here hx rfl (hb hby at_283) rfl (tlt h1).2.1 ?_
          show Steps p.tables e below (T71.setTop (mkF m 286 #[.val (.int i0), .val (.int i1), .val (.int (2 : Int32)), .val (.int f), .val (.int v0), .val (.int v1), .val (.int v2), .val (.int v3), .val (.double d0), .second, .val (.double d1), .second, .val (.double d2), .second, .val (.double d3), .second, .val (.ref b50), .val (.ref b56), .val (.ref b63), .val (.int (2 : Int32)), .unset] [])) _
          refine XS.aload X71.here hx rfl (hb hby at_286) rfl rfl ?_
          show Steps p.tables e below (T71.setTop (mkF m 288 #[.val (.int i0), .val (.int i1), .val (.int (2 : Int32)), .val (.int f), .val (.int v0), .val (.int v1), .val (.int v2), .val (.int v3), .val (.double d0), .second, .val (.double d1), .second, .val (.double d2), .second, .val (.double d3), .second, .val (.ref b50), .val (.ref b56), .val (.ref b63), .val (.int (2 : Int32)), .unset] [(.ref b63)])) _
          refine XS.iloadN X71.here hx rfl (hb hby at_288) rfl ?_
          show Steps p.tables e below (T71.setTop (mkF m 289 #[.val (.int i0), .val (.int i1), .val (.int (2 : Int32)), .val (.int f), .val (.int v0), .val (.int v1), .val (.int v2), .val (.int v3), .val (.double d0), .second, .val (.double d1), .second, .val (.double d2), .second, .val (.double d3), .second, .val (.ref b50), .val (.ref b56), .val (.ref b63), .val (.int (2 : Int32)), .unset] [(.int f), (.ref b63)])) _
          refine XS.iconst X71.here hx rfl (hb hby at_289) ?_
          show Steps p.tables e below (T71.setTop (mkF m 290 #[.val (.int i0), .val (.int i1), .val (.int (2 : Int32)), .val (.int f), .val (.int v0), .val (.int v1), .val (.int v2), .val (.int v3), .val (.double d0), .second, .val (.double d1), .second, .val (.double d2), .second, .val (.double d3), .second, .val (.ref b50), .val (.ref b56), .val (.ref b63), .val (.int (2 : Int32)), .unset] [(.int (3 : Int32)), (.int f), (.ref b63)])) _
          refine XS.iadd X71.here hx rfl (hb hby at_290) rfl ?_
          show Steps p.tables e below (T71.setTop (mkF m 291 #[.val (.int i0), .val (.int i1), .val (.int (2 : Int32)), .val (.int f), .val (.int v0), .val (.int v1), .val (.int v2), .val (.int v3), .val (.double d0), .second, .val (.double d1), .second, .val (.double d2), .second, .val (.double d3), .second, .val (.ref b50), .val (.ref b56), .val (.ref b63), .val (.int (2 : Int32)), .unset] [(.int (f + (3 : Int32))), (.ref b63)])) _
          refine X71.iaload hx (j := (f + (3 : Int32))) (v := .int (VV (f + (3 : Int32)))) (by rw [e71]; exact Arv_.1) (State.isArrayOf_alike hZ.alike Arv_.2.1) Arv_.2.2 (inb_of Sv ⟨hq0, hq4⟩) (hVv _ hq0 hq4) (g := (mkF m 291 #[.val (.int i0), .val (.int i1), .val (.int (2 : Int32)), .val (.int f), .val (.int v0), .val (.int v1), .val (.int v2), .val (.int v3), .val (.double d0), .second, .val (.double d1), .second, .val (.double d2), .second, .val (.double d3), .second, .val (.ref b50), .val (.ref b56), .val (.ref b63), .val (.int (2 : Int32)), .unset] [(.int (f + (3 : Int32))), (.ref b63)])) rfl rfl (hb hby at_291) _ ?_
          show Steps p.tables e below (T71.setTop (mkF m 292 #[.val (.int i0), .val (.int i1), .val (.int (2 : Int32)), .val (.int f), .val (.int v0), .val (.int v1), .val (.int v2), .val (.int v3), .val (.double d0), .second, .val (.double d1), .second, .val (.double d2), .second, .val (.double d3), .second, .val (.ref b50), .val (.ref b56), .val (.ref b63), .val (.int (2 : Int32)), .unset] [(.int (VV (f + (3 : Int32))))])) _
          refine XS.aload X71.here hx rfl (hb hby at_292) rfl rfl ?_
          show Steps p.tables e below (T71.setTop (mkF m 294 #[.val (.int i0), .val (.int i1), .val (.int (2 : Int32)), .val (.int f), .val (.int v0), .val (.int v1), .val (.int v2), .val (.int v3), .val (.double d0), .second, .val (.double d1), .second, .val (.double d2), .second, .val (.double d3), .second, .val (.ref b50), .val (.ref b56), .val (.ref b63), .val (.int (2 : Int32)), .unset] [(.ref b63), (.int (VV (f + (3 : Int32))))])) _
          refine XS.iloadN X71.here hx rfl (hb hby at_294) rfl ?_
          show Steps p.tables e below (T71.setTop (mkF m 295 #[.val (.int i0), .val (.int i1), .val (.int (2 : Int32)), .val (.int f), .val (.int v0), .val (.int v1), .val (.int v2), .val (.int v3), .val (.double d0), .second, .val (.double d1), .second, .val (.double d2), .second, .val (.double d3), .second, .val (.ref b50), .val (.ref b56), .val (.ref b63), .val (.int (2 : Int32)), .unset] [(.int f), (.ref b63), (.int (VV (f + (3 : Int32))))])) _
          refine X71.iaload hx (j := f) (v := .int (VV f)) (by rw [e71]; exact Arv_.1) (State.isArrayOf_alike hZ.alike Arv_.2.1) Arv_.2.2 (inb_of Sv ⟨hf0, hf4⟩) (hVv _ hf0 hf4) (g := (mkF m 295 #[.val (.int i0), .val (.int i1), .val (.int (2 : Int32)), .val (.int f), .val (.int v0), .val (.int v1), .val (.int v2), .val (.int v3), .val (.double d0), .second, .val (.double d1), .second, .val (.double d2), .second, .val (.double d3), .second, .val (.ref b50), .val (.ref b56), .val (.ref b63), .val (.int (2 : Int32)), .unset] [(.int f), (.ref b63), (.int (VV (f + (3 : Int32))))])) rfl rfl (hb hby at_295) _ ?_
          show Steps p.tables e below (T71.setTop (mkF m 296 #[.val (.int i0), .val (.int i1), .val (.int (2 : Int32)), .val (.int f), .val (.int v0), .val (.int v1), .val (.int v2), .val (.int v3), .val (.double d0), .second, .val (.double d1), .second, .val (.double d2), .second, .val (.double d3), .second, .val (.ref b50), .val (.ref b56), .val (.ref b63), .val (.int (2 : Int32)), .unset] [(.int (VV f)), (.int (VV (f + (3 : Int32))))])) _
          refine XS.icmpYes X71.here hx rfl (pc0 := 296) (pc' := 304) rfl (hb hby at_296) rfl (teq h2).1 (by decide) (by decide) ?_
          exact Steps.refl _
        · rw [if_neg h2]
          show Steps p.tables e below (T71.setTop (mkF m 283 #[.val (.int i0), .val (.int i1), .val (.int (2 : Int32)), .val (.int f), .val (.int v0), .val (.int v1), .val (.int v2), .val (.int v3), .val (.double d0), .second, .val (.double d1), .second, .val (.double d2), .second, .val (.double d3), .second, .val (.ref b50), .val (.ref b56), .val (.ref b63), .val (.int (2 : Int32)), .unset] [(.int (2 : Int32)), (.int (f + (3 : Int32)))])) _
          refine XS.icmpNo X71.here hx rfl (hb hby at_283) rfl (tlt h1).2.1 ?_
          show Steps p.tables e below (T71.setTop (mkF m 286 #[.val (.int i0), .val (.int i1), .val (.int (2 : Int32)), .val (.int f), .val (.int v0), .val (.int v1), .val (.int v2), .val (.int v3), .val (.double d0), .second, .val (.double d1), .second, .val (.double d2), .second, .val (.double d3), .second, .val (.ref b50), .val (.ref b56), .val (.ref b63), .val (.int (2 : Int32)), .unset] [])) _
          refine XS.aload X71.here hx rfl (hb hby at_286) rfl rfl ?_
          show Steps p.tables e below (T71.setTop (mkF m 288 #[.val (.int i0), .val (.int i1), .val (.int (2 : Int32)), .val (.int f), .val (.int v0), .val (.int v1), .val (.int v2), .val (.int v3), .val (.double d0), .second, .val (.double d1), .second, .val (.double d2), .second, .val (.double d3), .second, .val (.ref b50), .val (.ref b56), .val (.ref b63), .val (.int (2 : Int32)), .unset] [(.ref b63)])) _
          refine XS.iloadN X71.here hx rfl (hb hby at_288) rfl ?_
          show Steps p.tables e below (T71.setTop (mkF m 289 #[.val (.int i0), .val (.int i1), .val (.int (2 : Int32)), .val (.int f), .val (.int v0), .val (.int v1), .val (.int v2), .val (.int v3), .val (.double d0), .second, .val (.double d1), .second, .val (.double d2), .second, .val (.double d3), .second, .val (.ref b50), .val (.ref b56), .val (.ref b63), .val (.int (2 : Int32)), .unset] [(.int f), (.ref b63)])) _
          refine XS.iconst X71.here hx rfl (hb hby at_289) ?_
          show Steps p.tables e below (T71.setTop (mkF m 290 #[.val (.int i0), .val (.int i1), .val (.int (2 : Int32)), .val (.int f), .val (.int v0), .val (.int v1), .val (.int v2), .val (.int v3), .val (.double d0), .second, .val (.double d1), .second, .val (.double d2), .second, .val (.double d3), .second, .val (.ref b50), .val (.ref b56), .val (.ref b63), .val (.int (2 : Int32)), .unset] [(.int (3 : Int32)), (.int f), (.ref b63)])) _
          refine XS.iadd X71.here hx rfl (hb hby at_290) rfl ?_
          show Steps p.tables e below (T71.setTop (mkF m 291 #[.val (.int i0), .val (.int i1), .val (.int (2 : Int32)), .val (.int f), .val (.int v0), .val (.int v1), .val (.int v2), .val (.int v3), .val (.double d0), .second, .val (.double d1), .second, .val (.double d2), .second, .val (.double d3), .second, .val (.ref b50), .val (.ref b56), .val (.ref b63), .val (.int (2 : Int32)), .unset] [(.int (f + (3 : Int32))), (.ref b63)])) _
          refine X71.iaload hx (j := (f + (3 : Int32))) (v := .int (VV (f + (3 : Int32)))) (by rw [e71]; exact Arv_.1) (State.isArrayOf_alike hZ.alike Arv_.2.1) Arv_.2.2 (inb_of Sv ⟨hq0, hq4⟩) (hVv _ hq0 hq4) (g := (mkF m 291 #[.val (.int i0), .val (.int i1), .val (.int (2 : Int32)), .val (.int f), .val (.int v0), .val (.int v1), .val (.int v2), .val (.int v3), .val (.double d0), .second, .val (.double d1), .second, .val (.double d2), .second, .val (.double d3), .second, .val (.ref b50), .val (.ref b56), .val (.ref b63), .val (.int (2 : Int32)), .unset] [(.int (f + (3 : Int32))), (.ref b63)])) rfl rfl (hb hby at_291) _ ?_
          show Steps p.tables e below (T71.setTop (mkF m 292 #[.val (.int i0), .val (.int i1), .val (.int (2 : Int32)), .val (.int f), .val (.int v0), .val (.int v1), .val (.int v2), .val (.int v3), .val (.double d0), .second, .val (.double d1), .second, .val (.double d2), .second, .val (.double d3), .second, .val (.ref b50), .val (.ref b56), .val (.ref b63), .val (.int (2 : Int32)), .unset] [(.int (VV (f + (3 : Int32))))])) _
          refine XS.aload X71.here hx rfl (hb hby at_292) rfl rfl ?_
          show Steps p.tables e below (T71.setTop (mkF m 294 #[.val (.int i0), .val (.int i1), .val (.int (2 : Int32)), .val (.int f), .val (.int v0), .val (.int v1), .val (.int v2), .val (.int v3), .val (.double d0), .second, .val (.double d1), .second, .val (.double d2), .second, .val (.double d3), .second, .val (.ref b50), .val (.ref b56), .val (.ref b63), .val (.int (2 : Int32)), .unset] [(.ref b63), (.int (VV (f + (3 : Int32))))])) _
          refine XS.iloadN X71.here hx rfl (hb hby at_294) rfl ?_
          show Steps p.tables e below (T71.setTop (mkF m 295 #[.val (.int i0), .val (.int i1), .val (.int (2 : Int32)), .val (.int f), .val (.int v0), .val (.int v1), .val (.int v2), .val (.int v3), .val (.double d0), .second, .val (.double d1), .second, .val (.double d2), .second, .val (.double d3), .second, .val (.ref b50), .val (.ref b56), .val (.ref b63), .val (.int (2 : Int32)), .unset] [(.int f), (.ref b63), (.int (VV (f + (3 : Int32))))])) _
          refine X71.iaload hx (j := f) (v := .int (VV f)) (by rw [e71]; exact Arv_.1) (State.isArrayOf_alike hZ.alike Arv_.2.1) Arv_.2.2 (inb_of Sv ⟨hf0, hf4⟩) (hVv _ hf0 hf4) (g := (mkF m 295 #[.val (.int i0), .val (.int i1), .val (.int (2 : Int32)), .val (.int f), .val (.int v0), .val (.int v1), .val (.int v2), .val (.int v3), .val (.double d0), .second, .val (.double d1), .second, .val (.double d2), .second, .val (.double d3), .second, .val (.ref b50), .val (.ref b56), .val (.ref b63), .val (.int (2 : Int32)), .unset] [(.int f), (.ref b63), (.int (VV (f + (3 : Int32))))])) rfl rfl (hb hby at_295) _ ?_
          show Steps p.tables e below (T71.setTop (mkF m 296 #[.val (.int i0), .val (.int i1), .val (.int (2 : Int32)), .val (.int f), .val (.int v0), .val (.int v1), .val (.int v2), .val (.int v3), .val (.double d0), .second, .val (.double d1), .second, .val (.double d2), .second, .val (.double d3), .second, .val (.ref b50), .val (.ref b56), .val (.ref b63), .val (.int (2 : Int32)), .unset] [(.int (VV f)), (.int (VV (f + (3 : Int32))))])) _
          refine XS.icmpNo X71.here hx rfl (hb hby at_296) rfl (feq h2).1 ?_
          show Steps p.tables e below (T71.setTop (mkF m 299 #[.val (.int i0), .val (.int i1), .val (.int (2 : Int32)), .val (.int f), .val (.int v0), .val (.int v1), .val (.int v2), .val (.int v3), .val (.double d0), .second, .val (.double d1), .second, .val (.double d2), .second, .val (.double d3), .second, .val (.ref b50), .val (.ref b56), .val (.ref b63), .val (.int (2 : Int32)), .unset] [])) _
          refine XS.iloadN X71.here hx rfl (hb hby at_299) rfl ?_
          show Steps p.tables e below (T71.setTop (mkF m 300 #[.val (.int i0), .val (.int i1), .val (.int (2 : Int32)), .val (.int f), .val (.int v0), .val (.int v1), .val (.int v2), .val (.int v3), .val (.double d0), .second, .val (.double d1), .second, .val (.double d2), .second, .val (.double d3), .second, .val (.ref b50), .val (.ref b56), .val (.ref b63), .val (.int (2 : Int32)), .unset] [(.int f)])) _
          refine XS.iconst X71.here hx rfl (hb hby at_300) ?_
          show Steps p.tables e below (T71.setTop (mkF m 301 #[.val (.int i0), .val (.int i1), .val (.int (2 : Int32)), .val (.int f), .val (.int v0), .val (.int v1), .val (.int v2), .val (.int v3), .val (.double d0), .second, .val (.double d1), .second, .val (.double d2), .second, .val (.double d3), .second, .val (.ref b50), .val (.ref b56), .val (.ref b63), .val (.int (2 : Int32)), .unset] [(.int (3 : Int32)), (.int f)])) _
          refine XS.iadd X71.here hx rfl (hb hby at_301) rfl ?_
          show Steps p.tables e below (T71.setTop (mkF m 302 #[.val (.int i0), .val (.int i1), .val (.int (2 : Int32)), .val (.int f), .val (.int v0), .val (.int v1), .val (.int v2), .val (.int v3), .val (.double d0), .second, .val (.double d1), .second, .val (.double d2), .second, .val (.double d3), .second, .val (.ref b50), .val (.ref b56), .val (.ref b63), .val (.int (2 : Int32)), .unset] [(.int (f + (3 : Int32)))])) _
          refine XS.istore X71.here hx rfl (hb hby at_302) rfl (l' := #[.val (.int i0), .val (.int i1), .val (.int (2 : Int32)), .val (.int f), .val (.int v0), .val (.int v1), .val (.int v2), .val (.int v3), .val (.double d0), .second, .val (.double d1), .second, .val (.double d2), .second, .val (.double d3), .second, .val (.ref b50), .val (.ref b56), .val (.ref b63), .val (.int (f + (3 : Int32))), .unset]) rfl ?_
          exact Steps.refl _
      · rw [if_neg h1]
        show Steps p.tables e below (T71.setTop (mkF m 283 #[.val (.int i0), .val (.int i1), .val (.int (2 : Int32)), .val (.int f), .val (.int v0), .val (.int v1), .val (.int v2), .val (.int v3), .val (.double d0), .second, .val (.double d1), .second, .val (.double d2), .second, .val (.double d3), .second, .val (.ref b50), .val (.ref b56), .val (.ref b63), .val (.int (2 : Int32)), .unset] [(.int (2 : Int32)), (.int (f + (3 : Int32)))])) _
        refine XS.icmpYes X71.here hx rfl (pc0 := 283) (pc' := 304) rfl (hb hby at_283) rfl (flt h1).2.1 (by decide) (by decide) ?_
        exact Steps.refl _
    generalize hx3 : (if (f + (3 : Int32)) < (2 : Int32) then (if VV (f + (3 : Int32)) = VV f then (2 : Int32) else (f + (3 : Int32))) else (2 : Int32)) = x3 at c74
    have c75 : Steps p.tables e below S0 (T71.setTop (mkF m 308 #[.val (.int i0), .val (.int i1), .val (.int (2 : Int32)), .val (.int f), .val (.int v0), .val (.int v1), .val (.int v2), .val (.int v3), .val (.double d0), .second, .val (.double d1), .second, .val (.double d2), .second, .val (.double d3), .second, .val (.ref b50), .val (.ref b56), .val (.ref b63), .val (.int x3), .unset] [(.int (2 : Int32)), (.int (f + (2 : Int32)))])) := by
      refine c74.trans ?_
      show Steps p.tables e below (T71.setTop (mkF m 304 #[.val (.int i0), .val (.int i1), .val (.int (2 : Int32)), .val (.int f), .val (.int v0), .val (.int v1), .val (.int v2), .val (.int v3), .val (.double d0), .second, .val (.double d1), .second, .val (.double d2), .second, .val (.double d3), .second, .val (.ref b50), .val (.ref b56), .val (.ref b63), .val (.int x3), .unset] [])) _
      refine XS.iloadN X71.here hx rfl (hb hby at_304) rfl ?_
      show Steps p.tables e below (T71.setTop (mkF m 305 #[.val (.int i0), .val (.int i1), .val (.int (2 : Int32)), .val (.int f), .val (.int v0), .val (.int v1), .val (.int v2), .val (.int v3), .val (.double d0), .second, .val (.double d1), .second, .val (.double d2), .second, .val (.double d3), .second, .val (.ref b50), .val (.ref b56), .val (.ref b63), .val (.int x3), .unset] [(.int f)])) _
      refine XS.iconst X71.here hx rfl (hb hby at_305) ?_
      show Steps p.tables e below (T71.setTop (mkF m 306 #[.val (.int i0), .val (.int i1), .val (.int (2 : Int32)), .val (.int f), .val (.int v0), .val (.int v1), .val (.int v2), .val (.int v3), .val (.double d0), .second, .val (.double d1), .second, .val (.double d2), .second, .val (.double d3), .second, .val (.ref b50), .val (.ref b56), .val (.ref b63), .val (.int x3), .unset] [(.int (2 : Int32)), (.int f)])) _
      refine XS.iadd X71.here hx rfl (hb hby at_306) rfl ?_
      show Steps p.tables e below (T71.setTop (mkF m 307 #[.val (.int i0), .val (.int i1), .val (.int (2 : Int32)), .val (.int f), .val (.int v0), .val (.int v1), .val (.int v2), .val (.int v3), .val (.double d0), .second, .val (.double d1), .second, .val (.double d2), .second, .val (.double d3), .second, .val (.ref b50), .val (.ref b56), .val (.ref b63), .val (.int x3), .unset] [(.int (f + (2 : Int32)))])) _
      refine XS.iloadN X71.here hx rfl (hb hby at_307) rfl ?_
      exact Steps.refl _
    have c76 : Steps p.tables e below S0 (T71.setTop (mkF m 329 #[.val (.int i0), .val (.int i1), .val (.int (2 : Int32)), .val (.int f), .val (.int v0), .val (.int v1), .val (.int v2), .val (.int v3), .val (.double d0), .second, .val (.double d1), .second, .val (.double d2), .second, .val (.double d3), .second, .val (.ref b50), .val (.ref b56), .val (.ref b63), .val (.int (if (f + (2 : Int32)) < (2 : Int32) then (if VV (f + (2 : Int32)) = VV f then x3 else (f + (2 : Int32))) else x3)), .unset] [])) := by
      refine c75.trans ?_
      by_cases h1 : (f + (2 : Int32)) < (2 : Int32)
      · obtain ⟨hq0, hq4⟩ := own_place (k := 2) (n := 2) hf0 hfN (by decide) h1
        rw [if_pos h1]
        by_cases h2 : VV (f + (2 : Int32)) = VV f
        · rw [if_pos h2]
          show Steps p.tables e below (T71.setTop (mkF m 308 #[.val (.int i0), .val (.int i1), .val (.int (2 : Int32)), .val (.int f), .val (.int v0), .val (.int v1), .val (.int v2), .val (.int v3), .val (.double d0), .second, .val (.double d1), .second, .val (.double d2), .second, .val (.double d3), .second, .val (.ref b50), .val (.ref b56), .val (.ref b63), .val (.int x3), .unset] [(.int (2 : Int32)), (.int (f + (2 : Int32)))])) _
          refine XS.icmpNo X71.here hx rfl (hb hby at_308) rfl (tlt h1).2.1 ?_
          show Steps p.tables e below (T71.setTop (mkF m 311 #[.val (.int i0), .val (.int i1), .val (.int (2 : Int32)), .val (.int f), .val (.int v0), .val (.int v1), .val (.int v2), .val (.int v3), .val (.double d0), .second, .val (.double d1), .second, .val (.double d2), .second, .val (.double d3), .second, .val (.ref b50), .val (.ref b56), .val (.ref b63), .val (.int x3), .unset] [])) _
          refine XS.aload X71.here hx rfl (hb hby at_311) rfl rfl ?_
          show Steps p.tables e below (T71.setTop (mkF m 313 #[.val (.int i0), .val (.int i1), .val (.int (2 : Int32)), .val (.int f), .val (.int v0), .val (.int v1), .val (.int v2), .val (.int v3), .val (.double d0), .second, .val (.double d1), .second, .val (.double d2), .second, .val (.double d3), .second, .val (.ref b50), .val (.ref b56), .val (.ref b63), .val (.int x3), .unset] [(.ref b63)])) _
          refine XS.iloadN X71.here hx rfl (hb hby at_313) rfl ?_
          show Steps p.tables e below (T71.setTop (mkF m 314 #[.val (.int i0), .val (.int i1), .val (.int (2 : Int32)), .val (.int f), .val (.int v0), .val (.int v1), .val (.int v2), .val (.int v3), .val (.double d0), .second, .val (.double d1), .second, .val (.double d2), .second, .val (.double d3), .second, .val (.ref b50), .val (.ref b56), .val (.ref b63), .val (.int x3), .unset] [(.int f), (.ref b63)])) _
          refine XS.iconst X71.here hx rfl (hb hby at_314) ?_
          show Steps p.tables e below (T71.setTop (mkF m 315 #[.val (.int i0), .val (.int i1), .val (.int (2 : Int32)), .val (.int f), .val (.int v0), .val (.int v1), .val (.int v2), .val (.int v3), .val (.double d0), .second, .val (.double d1), .second, .val (.double d2), .second, .val (.double d3), .second, .val (.ref b50), .val (.ref b56), .val (.ref b63), .val (.int x3), .unset] [(.int (2 : Int32)), (.int f), (.ref b63)])) _
          refine XS.iadd X71.here hx rfl (hb hby at_315) rfl ?_
          show Steps p.tables e below (T71.setTop (mkF m 316 #[.val (.int i0), .val (.int i1), .val (.int (2 : Int32)), .val (.int f), .val (.int v0), .val (.int v1), .val (.int v2), .val (.int v3), .val (.double d0), .second, .val (.double d1), .second, .val (.double d2), .second, .val (.double d3), .second, .val (.ref b50), .val (.ref b56), .val (.ref b63), .val (.int x3), .unset] [(.int (f + (2 : Int32))), (.ref b63)])) _
          refine X71.iaload hx (j := (f + (2 : Int32))) (v := .int (VV (f + (2 : Int32)))) (by rw [e71]; exact Arv_.1) (State.isArrayOf_alike hZ.alike Arv_.2.1) Arv_.2.2 (inb_of Sv ⟨hq0, hq4⟩) (hVv _ hq0 hq4) (g := (mkF m 316 #[.val (.int i0), .val (.int i1), .val (.int (2 : Int32)), .val (.int f), .val (.int v0), .val (.int v1), .val (.int v2), .val (.int v3), .val (.double d0), .second, .val (.double d1), .second, .val (.double d2), .second, .val (.double d3), .second, .val (.ref b50), .val (.ref b56), .val (.ref b63), .val (.int x3), .unset] [(.int (f + (2 : Int32))), (.ref b63)])) rfl rfl (hb hby at_316) _ ?_
          show Steps p.tables e below (T71.setTop (mkF m 317 #[.val (.int i0), .val (.int i1), .val (.int (2 : Int32)), .val (.int f), .val (.int v0), .val (.int v1), .val (.int v2), .val (.int v3), .val (.double d0), .second, .val (.double d1), .second, .val (.double d2), .second, .val (.double d3), .second, .val (.ref b50), .val (.ref b56), .val (.ref b63), .val (.int x3), .unset] [(.int (VV (f + (2 : Int32))))])) _
          refine XS.aload X71.here hx rfl (hb hby at_317) rfl rfl ?_
          show Steps p.tables e below (T71.setTop (mkF m 319 #[.val (.int i0), .val (.int i1), .val (.int (2 : Int32)), .val (.int f), .val (.int v0), .val (.int v1), .val (.int v2), .val (.int v3), .val (.double d0), .second, .val (.double d1), .second, .val (.double d2), .second, .val (.double d3), .second, .val (.ref b50), .val (.ref b56), .val (.ref b63), .val (.int x3), .unset] [(.ref b63), (.int (VV (f + (2 : Int32))))])) _
          refine XS.iloadN X71.here hx rfl (hb hby at_319) rfl ?_
          show Steps p.tables e below (T71.setTop (mkF m 320 #[.val (.int i0), .val (.int i1), .val (.int (2 : Int32)), .val (.int f), .val (.int v0), .val (.int v1), .val (.int v2), .val (.int v3), .val (.double d0), .second, .val (.double d1), .second, .val (.double d2), .second, .val (.double d3), .second, .val (.ref b50), .val (.ref b56), .val (.ref b63), .val (.int x3), .unset] [(.int f), (.ref b63), (.int (VV (f + (2 : Int32))))])) _
          refine X71.iaload hx (j := f) (v := .int (VV f)) (by rw [e71]; exact Arv_.1) (State.isArrayOf_alike hZ.alike Arv_.2.1) Arv_.2.2 (inb_of Sv ⟨hf0, hf4⟩) (hVv _ hf0 hf4) (g := (mkF m 320 #[.val (.int i0), .val (.int i1), .val (.int (2 : Int32)), .val (.int f), .val (.int v0), .val (.int v1), .val (.int v2), .val (.int v3), .val (.double d0), .second, .val (.double d1), .second, .val (.double d2), .second, .val (.double d3), .second, .val (.ref b50), .val (.ref b56), .val (.ref b63), .val (.int x3), .unset] [(.int f), (.ref b63), (.int (VV (f + (2 : Int32))))])) rfl rfl (hb hby at_320) _ ?_
          show Steps p.tables e below (T71.setTop (mkF m 321 #[.val (.int i0), .val (.int i1), .val (.int (2 : Int32)), .val (.int f), .val (.int v0), .val (.int v1), .val (.int v2), .val (.int v3), .val (.double d0), .second, .val (.double d1), .second, .val (.double d2), .second, .val (.double d3), .second, .val (.ref b50), .val (.ref b56), .val (.ref b63), .val (.int x3), .unset] [(.int (VV f)), (.int (VV (f + (2 : Int32))))])) _
          refine XS.icmpYes X71.here hx rfl (pc0 := 321) (pc' := 329) rfl (hb hby at_321) rfl (teq h2).1 (by decide) (by decide) ?_
          exact Steps.refl _
        · rw [if_neg h2]
          show Steps p.tables e below (T71.setTop (mkF m 308 #[.val (.int i0), .val (.int i1), .val (.int (2 : Int32)), .val (.int f), .val (.int v0), .val (.int v1), .val (.int v2), .val (.int v3), .val (.double d0), .second, .val (.double d1), .second, .val (.double d2), .second, .val (.double d3), .second, .val (.ref b50), .val (.ref b56), .val (.ref b63), .val (.int x3), .unset] [(.int (2 : Int32)), (.int (f + (2 : Int32)))])) _
          refine XS.icmpNo X71.here hx rfl (hb hby at_308) rfl (tlt h1).2.1 ?_
          show Steps p.tables e below (T71.setTop (mkF m 311 #[.val (.int i0), .val (.int i1), .val (.int (2 : Int32)), .val (.int f), .val (.int v0), .val (.int v1), .val (.int v2), .val (.int v3), .val (.double d0), .second, .val (.double d1), .second, .val (.double d2), .second, .val (.double d3), .second, .val (.ref b50), .val (.ref b56), .val (.ref b63), .val (.int x3), .unset] [])) _
          refine XS.aload X71.here hx rfl (hb hby at_311) rfl rfl ?_
          show Steps p.tables e below (T71.setTop (mkF m 313 #[.val (.int i0), .val (.int i1), .val (.int (2 : Int32)), .val (.int f), .val (.int v0), .val (.int v1), .val (.int v2), .val (.int v3), .val (.double d0), .second, .val (.double d1), .second, .val (.double d2), .second, .val (.double d3), .second, .val (.ref b50), .val (.ref b56), .val (.ref b63), .val (.int x3), .unset] [(.ref b63)])) _
          refine XS.iloadN X71.here hx rfl (hb hby at_313) rfl ?_
          show Steps p.tables e below (T71.setTop (mkF m 314 #[.val (.int i0), .val (.int i1), .val (.int (2 : Int32)), .val (.int f), .val (.int v0), .val (.int v1), .val (.int v2), .val (.int v3), .val (.double d0), .second, .val (.double d1), .second, .val (.double d2), .second, .val (.double d3), .second, .val (.ref b50), .val (.ref b56), .val (.ref b63), .val (.int x3), .unset] [(.int f), (.ref b63)])) _
          refine XS.iconst X71.here hx rfl (hb hby at_314) ?_
          show Steps p.tables e below (T71.setTop (mkF m 315 #[.val (.int i0), .val (.int i1), .val (.int (2 : Int32)), .val (.int f), .val (.int v0), .val (.int v1), .val (.int v2), .val (.int v3), .val (.double d0), .second, .val (.double d1), .second, .val (.double d2), .second, .val (.double d3), .second, .val (.ref b50), .val (.ref b56), .val (.ref b63), .val (.int x3), .unset] [(.int (2 : Int32)), (.int f), (.ref b63)])) _
          refine XS.iadd X71.here hx rfl (hb hby at_315) rfl ?_
          show Steps p.tables e below (T71.setTop (mkF m 316 #[.val (.int i0), .val (.int i1), .val (.int (2 : Int32)), .val (.int f), .val (.int v0), .val (.int v1), .val (.int v2), .val (.int v3), .val (.double d0), .second, .val (.double d1), .second, .val (.double d2), .second, .val (.double d3), .second, .val (.ref b50), .val (.ref b56), .val (.ref b63), .val (.int x3), .unset] [(.int (f + (2 : Int32))), (.ref b63)])) _
          refine X71.iaload hx (j := (f + (2 : Int32))) (v := .int (VV (f + (2 : Int32)))) (by rw [e71]; exact Arv_.1) (State.isArrayOf_alike hZ.alike Arv_.2.1) Arv_.2.2 (inb_of Sv ⟨hq0, hq4⟩) (hVv _ hq0 hq4) (g := (mkF m 316 #[.val (.int i0), .val (.int i1), .val (.int (2 : Int32)), .val (.int f), .val (.int v0), .val (.int v1), .val (.int v2), .val (.int v3), .val (.double d0), .second, .val (.double d1), .second, .val (.double d2), .second, .val (.double d3), .second, .val (.ref b50), .val (.ref b56), .val (.ref b63), .val (.int x3), .unset] [(.int (f + (2 : Int32))), (.ref b63)])) rfl rfl (hb hby at_316) _ ?_
          show Steps p.tables e below (T71.setTop (mkF m 317 #[.val (.int i0), .val (.int i1), .val (.int (2 : Int32)), .val (.int f), .val (.int v0), .val (.int v1), .val (.int v2), .val (.int v3), .val (.double d0), .second, .val (.double d1), .second, .val (.double d2), .second, .val (.double d3), .second, .val (.ref b50), .val (.ref b56), .val (.ref b63), .val (.int x3), .unset] [(.int (VV (f + (2 : Int32))))])) _
          refine XS.aload X71.here hx rfl (hb hby at_317) rfl rfl ?_
          show Steps p.tables e below (T71.setTop (mkF m 319 #[.val (.int i0), .val (.int i1), .val (.int (2 : Int32)), .val (.int f), .val (.int v0), .val (.int v1), .val (.int v2), .val (.int v3), .val (.double d0), .second, .val (.double d1), .second, .val (.double d2), .second, .val (.double d3), .second, .val (.ref b50), .val (.ref b56), .val (.ref b63), .val (.int x3), .unset] [(.ref b63), (.int (VV (f + (2 : Int32))))])) _
          refine XS.iloadN X71.here hx rfl (hb hby at_319) rfl ?_
          show Steps p.tables e below (T71.setTop (mkF m 320 #[.val (.int i0), .val (.int i1), .val (.int (2 : Int32)), .val (.int f), .val (.int v0), .val (.int v1), .val (.int v2), .val (.int v3), .val (.double d0), .second, .val (.double d1), .second, .val (.double d2), .second, .val (.double d3), .second, .val (.ref b50), .val (.ref b56), .val (.ref b63), .val (.int x3), .unset] [(.int f), (.ref b63), (.int (VV (f + (2 : Int32))))])) _
          refine X71.iaload hx (j := f) (v := .int (VV f)) (by rw [e71]; exact Arv_.1) (State.isArrayOf_alike hZ.alike Arv_.2.1) Arv_.2.2 (inb_of Sv ⟨hf0, hf4⟩) (hVv _ hf0 hf4) (g := (mkF m 320 #[.val (.int i0), .val (.int i1), .val (.int (2 : Int32)), .val (.int f), .val (.int v0), .val (.int v1), .val (.int v2), .val (.int v3), .val (.double d0), .second, .val (.double d1), .second, .val (.double d2), .second, .val (.double d3), .second, .val (.ref b50), .val (.ref b56), .val (.ref b63), .val (.int x3), .unset] [(.int f), (.ref b63), (.int (VV (f + (2 : Int32))))])) rfl rfl (hb hby at_320) _ ?_
          show Steps p.tables e below (T71.setTop (mkF m 321 #[.val (.int i0), .val (.int i1), .val (.int (2 : Int32)), .val (.int f), .val (.int v0), .val (.int v1), .val (.int v2), .val (.int v3), .val (.double d0), .second, .val (.double d1), .second, .val (.double d2), .second, .val (.double d3), .second, .val (.ref b50), .val (.ref b56), .val (.ref b63), .val (.int x3), .unset] [(.int (VV f)), (.int (VV (f + (2 : Int32))))])) _
          refine XS.icmpNo X71.here hx rfl (hb hby at_321) rfl (feq h2).1 ?_
          show Steps p.tables e below (T71.setTop (mkF m 324 #[.val (.int i0), .val (.int i1), .val (.int (2 : Int32)), .val (.int f), .val (.int v0), .val (.int v1), .val (.int v2), .val (.int v3), .val (.double d0), .second, .val (.double d1), .second, .val (.double d2), .second, .val (.double d3), .second, .val (.ref b50), .val (.ref b56), .val (.ref b63), .val (.int x3), .unset] [])) _
          refine XS.iloadN X71.here hx rfl (hb hby at_324) rfl ?_
          show Steps p.tables e below (T71.setTop (mkF m 325 #[.val (.int i0), .val (.int i1), .val (.int (2 : Int32)), .val (.int f), .val (.int v0), .val (.int v1), .val (.int v2), .val (.int v3), .val (.double d0), .second, .val (.double d1), .second, .val (.double d2), .second, .val (.double d3), .second, .val (.ref b50), .val (.ref b56), .val (.ref b63), .val (.int x3), .unset] [(.int f)])) _
          refine XS.iconst X71.here hx rfl (hb hby at_325) ?_
          show Steps p.tables e below (T71.setTop (mkF m 326 #[.val (.int i0), .val (.int i1), .val (.int (2 : Int32)), .val (.int f), .val (.int v0), .val (.int v1), .val (.int v2), .val (.int v3), .val (.double d0), .second, .val (.double d1), .second, .val (.double d2), .second, .val (.double d3), .second, .val (.ref b50), .val (.ref b56), .val (.ref b63), .val (.int x3), .unset] [(.int (2 : Int32)), (.int f)])) _
          refine XS.iadd X71.here hx rfl (hb hby at_326) rfl ?_
          show Steps p.tables e below (T71.setTop (mkF m 327 #[.val (.int i0), .val (.int i1), .val (.int (2 : Int32)), .val (.int f), .val (.int v0), .val (.int v1), .val (.int v2), .val (.int v3), .val (.double d0), .second, .val (.double d1), .second, .val (.double d2), .second, .val (.double d3), .second, .val (.ref b50), .val (.ref b56), .val (.ref b63), .val (.int x3), .unset] [(.int (f + (2 : Int32)))])) _
          refine XS.istore X71.here hx rfl (hb hby at_327) rfl (l' := #[.val (.int i0), .val (.int i1), .val (.int (2 : Int32)), .val (.int f), .val (.int v0), .val (.int v1), .val (.int v2), .val (.int v3), .val (.double d0), .second, .val (.double d1), .second, .val (.double d2), .second, .val (.double d3), .second, .val (.ref b50), .val (.ref b56), .val (.ref b63), .val (.int (f + (2 : Int32))), .unset]) rfl ?_
          exact Steps.refl _
      · rw [if_neg h1]
        show Steps p.tables e below (T71.setTop (mkF m 308 #[.val (.int i0), .val (.int i1), .val (.int (2 : Int32)), .val (.int f), .val (.int v0), .val (.int v1), .val (.int v2), .val (.int v3), .val (.double d0), .second, .val (.double d1), .second, .val (.double d2), .second, .val (.double d3), .second, .val (.ref b50), .val (.ref b56), .val (.ref b63), .val (.int x3), .unset] [(.int (2 : Int32)), (.int (f + (2 : Int32)))])) _
        refine XS.icmpYes X71.here hx rfl (pc0 := 308) (pc' := 329) rfl (hb hby at_308) rfl (flt h1).2.1 (by decide) (by decide) ?_
        exact Steps.refl _
    generalize hx2 : (if (f + (2 : Int32)) < (2 : Int32) then (if VV (f + (2 : Int32)) = VV f then x3 else (f + (2 : Int32))) else x3) = x2 at c76
    have c77 : Steps p.tables e below S0 (T71.setTop (mkF m 333 #[.val (.int i0), .val (.int i1), .val (.int (2 : Int32)), .val (.int f), .val (.int v0), .val (.int v1), .val (.int v2), .val (.int v3), .val (.double d0), .second, .val (.double d1), .second, .val (.double d2), .second, .val (.double d3), .second, .val (.ref b50), .val (.ref b56), .val (.ref b63), .val (.int x2), .unset] [(.int (2 : Int32)), (.int (f + (1 : Int32)))])) := by
      refine c76.trans ?_
      show Steps p.tables e below (T71.setTop (mkF m 329 #[.val (.int i0), .val (.int i1), .val (.int (2 : Int32)), .val (.int f), .val (.int v0), .val (.int v1), .val (.int v2), .val (.int v3), .val (.double d0), .second, .val (.double d1), .second, .val (.double d2), .second, .val (.double d3), .second, .val (.ref b50), .val (.ref b56), .val (.ref b63), .val (.int x2), .unset] [])) _
      refine XS.iloadN X71.here hx rfl (hb hby at_329) rfl ?_
      show Steps p.tables e below (T71.setTop (mkF m 330 #[.val (.int i0), .val (.int i1), .val (.int (2 : Int32)), .val (.int f), .val (.int v0), .val (.int v1), .val (.int v2), .val (.int v3), .val (.double d0), .second, .val (.double d1), .second, .val (.double d2), .second, .val (.double d3), .second, .val (.ref b50), .val (.ref b56), .val (.ref b63), .val (.int x2), .unset] [(.int f)])) _
      refine XS.iconst X71.here hx rfl (hb hby at_330) ?_
      show Steps p.tables e below (T71.setTop (mkF m 331 #[.val (.int i0), .val (.int i1), .val (.int (2 : Int32)), .val (.int f), .val (.int v0), .val (.int v1), .val (.int v2), .val (.int v3), .val (.double d0), .second, .val (.double d1), .second, .val (.double d2), .second, .val (.double d3), .second, .val (.ref b50), .val (.ref b56), .val (.ref b63), .val (.int x2), .unset] [(.int (1 : Int32)), (.int f)])) _
      refine XS.iadd X71.here hx rfl (hb hby at_331) rfl ?_
      show Steps p.tables e below (T71.setTop (mkF m 332 #[.val (.int i0), .val (.int i1), .val (.int (2 : Int32)), .val (.int f), .val (.int v0), .val (.int v1), .val (.int v2), .val (.int v3), .val (.double d0), .second, .val (.double d1), .second, .val (.double d2), .second, .val (.double d3), .second, .val (.ref b50), .val (.ref b56), .val (.ref b63), .val (.int x2), .unset] [(.int (f + (1 : Int32)))])) _
      refine XS.iloadN X71.here hx rfl (hb hby at_332) rfl ?_
      exact Steps.refl _
    have c78 : Steps p.tables e below S0 (T71.setTop (mkF m 354 #[.val (.int i0), .val (.int i1), .val (.int (2 : Int32)), .val (.int f), .val (.int v0), .val (.int v1), .val (.int v2), .val (.int v3), .val (.double d0), .second, .val (.double d1), .second, .val (.double d2), .second, .val (.double d3), .second, .val (.ref b50), .val (.ref b56), .val (.ref b63), .val (.int (if (f + (1 : Int32)) < (2 : Int32) then (if VV (f + (1 : Int32)) = VV f then x2 else (f + (1 : Int32))) else x2)), .unset] [])) := by
      refine c77.trans ?_
      by_cases h1 : (f + (1 : Int32)) < (2 : Int32)
      · obtain ⟨hq0, hq4⟩ := own_place (k := 1) (n := 2) hf0 hfN (by decide) h1
        rw [if_pos h1]
        by_cases h2 : VV (f + (1 : Int32)) = VV f
        · rw [if_pos h2]
          show Steps p.tables e below (T71.setTop (mkF m 333 #[.val (.int i0), .val (.int i1), .val (.int (2 : Int32)), .val (.int f), .val (.int v0), .val (.int v1), .val (.int v2), .val (.int v3), .val (.double d0), .second, .val (.double d1), .second, .val (.double d2), .second, .val (.double d3), .second, .val (.ref b50), .val (.ref b56), .val (.ref b63), .val (.int x2), .unset] [(.int (2 : Int32)), (.int (f + (1 : Int32)))])) _
          refine XS.icmpNo X71.here hx rfl (hb hby at_333) rfl (tlt h1).2.1 ?_
          show Steps p.tables e below (T71.setTop (mkF m 336 #[.val (.int i0), .val (.int i1), .val (.int (2 : Int32)), .val (.int f), .val (.int v0), .val (.int v1), .val (.int v2), .val (.int v3), .val (.double d0), .second, .val (.double d1), .second, .val (.double d2), .second, .val (.double d3), .second, .val (.ref b50), .val (.ref b56), .val (.ref b63), .val (.int x2), .unset] [])) _
          refine XS.aload X71.here hx rfl (hb hby at_336) rfl rfl ?_
          show Steps p.tables e below (T71.setTop (mkF m 338 #[.val (.int i0), .val (.int i1), .val (.int (2 : Int32)), .val (.int f), .val (.int v0), .val (.int v1), .val (.int v2), .val (.int v3), .val (.double d0), .second, .val (.double d1), .second, .val (.double d2), .second, .val (.double d3), .second, .val (.ref b50), .val (.ref b56), .val (.ref b63), .val (.int x2), .unset] [(.ref b63)])) _
          refine XS.iloadN X71.here hx rfl (hb hby at_338) rfl ?_
          show Steps p.tables e below (T71.setTop (mkF m 339 #[.val (.int i0), .val (.int i1), .val (.int (2 : Int32)), .val (.int f), .val (.int v0), .val (.int v1), .val (.int v2), .val (.int v3), .val (.double d0), .second, .val (.double d1), .second, .val (.double d2), .second, .val (.double d3), .second, .val (.ref b50), .val (.ref b56), .val (.ref b63), .val (.int x2), .unset] [(.int f), (.ref b63)])) _
          refine XS.iconst X71.here hx rfl (hb hby at_339) ?_
          show Steps p.tables e below (T71.setTop (mkF m 340 #[.val (.int i0), .val (.int i1), .val (.int (2 : Int32)), .val (.int f), .val (.int v0), .val (.int v1), .val (.int v2), .val (.int v3), .val (.double d0), .second, .val (.double d1), .second, .val (.double d2), .second, .val (.double d3), .second, .val (.ref b50), .val (.ref b56), .val (.ref b63), .val (.int x2), .unset] [(.int (1 : Int32)), (.int f), (.ref b63)])) _
          refine XS.iadd X71.here hx rfl (hb hby at_340) rfl ?_
          show Steps p.tables e below (T71.setTop (mkF m 341 #[.val (.int i0), .val (.int i1), .val (.int (2 : Int32)), .val (.int f), .val (.int v0), .val (.int v1), .val (.int v2), .val (.int v3), .val (.double d0), .second, .val (.double d1), .second, .val (.double d2), .second, .val (.double d3), .second, .val (.ref b50), .val (.ref b56), .val (.ref b63), .val (.int x2), .unset] [(.int (f + (1 : Int32))), (.ref b63)])) _
          refine X71.iaload hx (j := (f + (1 : Int32))) (v := .int (VV (f + (1 : Int32)))) (by rw [e71]; exact Arv_.1) (State.isArrayOf_alike hZ.alike Arv_.2.1) Arv_.2.2 (inb_of Sv ⟨hq0, hq4⟩) (hVv _ hq0 hq4) (g := (mkF m 341 #[.val (.int i0), .val (.int i1), .val (.int (2 : Int32)), .val (.int f), .val (.int v0), .val (.int v1), .val (.int v2), .val (.int v3), .val (.double d0), .second, .val (.double d1), .second, .val (.double d2), .second, .val (.double d3), .second, .val (.ref b50), .val (.ref b56), .val (.ref b63), .val (.int x2), .unset] [(.int (f + (1 : Int32))), (.ref b63)])) rfl rfl (hb hby at_341) _ ?_
          show Steps p.tables e below (T71.setTop (mkF m 342 #[.val (.int i0), .val (.int i1), .val (.int (2 : Int32)), .val (.int f), .val (.int v0), .val (.int v1), .val (.int v2), .val (.int v3), .val (.double d0), .second, .val (.double d1), .second, .val (.double d2), .second, .val (.double d3), .second, .val (.ref b50), .val (.ref b56), .val (.ref b63), .val (.int x2), .unset] [(.int (VV (f + (1 : Int32))))])) _
          refine XS.aload X71.here hx rfl (hb hby at_342) rfl rfl ?_
          show Steps p.tables e below (T71.setTop (mkF m 344 #[.val (.int i0), .val (.int i1), .val (.int (2 : Int32)), .val (.int f), .val (.int v0), .val (.int v1), .val (.int v2), .val (.int v3), .val (.double d0), .second, .val (.double d1), .second, .val (.double d2), .second, .val (.double d3), .second, .val (.ref b50), .val (.ref b56), .val (.ref b63), .val (.int x2), .unset] [(.ref b63), (.int (VV (f + (1 : Int32))))])) _
          refine XS.iloadN X71.here hx rfl (hb hby at_344) rfl ?_
          show Steps p.tables e below (T71.setTop (mkF m 345 #[.val (.int i0), .val (.int i1), .val (.int (2 : Int32)), .val (.int f), .val (.int v0), .val (.int v1), .val (.int v2), .val (.int v3), .val (.double d0), .second, .val (.double d1), .second, .val (.double d2), .second, .val (.double d3), .second, .val (.ref b50), .val (.ref b56), .val (.ref b63), .val (.int x2), .unset] [(.int f), (.ref b63), (.int (VV (f + (1 : Int32))))])) _
          refine X71.iaload hx (j := f) (v := .int (VV f)) (by rw [e71]; exact Arv_.1) (State.isArrayOf_alike hZ.alike Arv_.2.1) Arv_.2.2 (inb_of Sv ⟨hf0, hf4⟩) (hVv _ hf0 hf4) (g := (mkF m 345 #[.val (.int i0), .val (.int i1), .val (.int (2 : Int32)), .val (.int f), .val (.int v0), .val (.int v1), .val (.int v2), .val (.int v3), .val (.double d0), .second, .val (.double d1), .second, .val (.double d2), .second, .val (.double d3), .second, .val (.ref b50), .val (.ref b56), .val (.ref b63), .val (.int x2), .unset] [(.int f), (.ref b63), (.int (VV (f + (1 : Int32))))])) rfl rfl (hb hby at_345) _ ?_
          show Steps p.tables e below (T71.setTop (mkF m 346 #[.val (.int i0), .val (.int i1), .val (.int (2 : Int32)), .val (.int f), .val (.int v0), .val (.int v1), .val (.int v2), .val (.int v3), .val (.double d0), .second, .val (.double d1), .second, .val (.double d2), .second, .val (.double d3), .second, .val (.ref b50), .val (.ref b56), .val (.ref b63), .val (.int x2), .unset] [(.int (VV f)), (.int (VV (f + (1 : Int32))))])) _
          refine XS.icmpYes X71.here hx rfl (pc0 := 346) (pc' := 354) rfl (hb hby at_346) rfl (teq h2).1 (by decide) (by decide) ?_
          exact Steps.refl _
        · rw [if_neg h2]
          show Steps p.tables e below (T71.setTop (mkF m 333 #[.val (.int i0), .val (.int i1), .val (.int (2 : Int32)), .val (.int f), .val (.int v0), .val (.int v1), .val (.int v2), .val (.int v3), .val (.double d0), .second, .val (.double d1), .second, .val (.double d2), .second, .val (.double d3), .second, .val (.ref b50), .val (.ref b56), .val (.ref b63), .val (.int x2), .unset] [(.int (2 : Int32)), (.int (f + (1 : Int32)))])) _
          refine XS.icmpNo X71.here hx rfl (hb hby at_333) rfl (tlt h1).2.1 ?_
          show Steps p.tables e below (T71.setTop (mkF m 336 #[.val (.int i0), .val (.int i1), .val (.int (2 : Int32)), .val (.int f), .val (.int v0), .val (.int v1), .val (.int v2), .val (.int v3), .val (.double d0), .second, .val (.double d1), .second, .val (.double d2), .second, .val (.double d3), .second, .val (.ref b50), .val (.ref b56), .val (.ref b63), .val (.int x2), .unset] [])) _
          refine XS.aload X71.here hx rfl (hb hby at_336) rfl rfl ?_
          show Steps p.tables e below (T71.setTop (mkF m 338 #[.val (.int i0), .val (.int i1), .val (.int (2 : Int32)), .val (.int f), .val (.int v0), .val (.int v1), .val (.int v2), .val (.int v3), .val (.double d0), .second, .val (.double d1), .second, .val (.double d2), .second, .val (.double d3), .second, .val (.ref b50), .val (.ref b56), .val (.ref b63), .val (.int x2), .unset] [(.ref b63)])) _
          refine XS.iloadN X71.here hx rfl (hb hby at_338) rfl ?_
          show Steps p.tables e below (T71.setTop (mkF m 339 #[.val (.int i0), .val (.int i1), .val (.int (2 : Int32)), .val (.int f), .val (.int v0), .val (.int v1), .val (.int v2), .val (.int v3), .val (.double d0), .second, .val (.double d1), .second, .val (.double d2), .second, .val (.double d3), .second, .val (.ref b50), .val (.ref b56), .val (.ref b63), .val (.int x2), .unset] [(.int f), (.ref b63)])) _
          refine XS.iconst X71.here hx rfl (hb hby at_339) ?_
          show Steps p.tables e below (T71.setTop (mkF m 340 #[.val (.int i0), .val (.int i1), .val (.int (2 : Int32)), .val (.int f), .val (.int v0), .val (.int v1), .val (.int v2), .val (.int v3), .val (.double d0), .second, .val (.double d1), .second, .val (.double d2), .second, .val (.double d3), .second, .val (.ref b50), .val (.ref b56), .val (.ref b63), .val (.int x2), .unset] [(.int (1 : Int32)), (.int f), (.ref b63)])) _
          refine XS.iadd X71.here hx rfl (hb hby at_340) rfl ?_
          show Steps p.tables e below (T71.setTop (mkF m 341 #[.val (.int i0), .val (.int i1), .val (.int (2 : Int32)), .val (.int f), .val (.int v0), .val (.int v1), .val (.int v2), .val (.int v3), .val (.double d0), .second, .val (.double d1), .second, .val (.double d2), .second, .val (.double d3), .second, .val (.ref b50), .val (.ref b56), .val (.ref b63), .val (.int x2), .unset] [(.int (f + (1 : Int32))), (.ref b63)])) _
          refine X71.iaload hx (j := (f + (1 : Int32))) (v := .int (VV (f + (1 : Int32)))) (by rw [e71]; exact Arv_.1) (State.isArrayOf_alike hZ.alike Arv_.2.1) Arv_.2.2 (inb_of Sv ⟨hq0, hq4⟩) (hVv _ hq0 hq4) (g := (mkF m 341 #[.val (.int i0), .val (.int i1), .val (.int (2 : Int32)), .val (.int f), .val (.int v0), .val (.int v1), .val (.int v2), .val (.int v3), .val (.double d0), .second, .val (.double d1), .second, .val (.double d2), .second, .val (.double d3), .second, .val (.ref b50), .val (.ref b56), .val (.ref b63), .val (.int x2), .unset] [(.int (f + (1 : Int32))), (.ref b63)])) rfl rfl (hb hby at_341) _ ?_
          show Steps p.tables e below (T71.setTop (mkF m 342 #[.val (.int i0), .val (.int i1), .val (.int (2 : Int32)), .val (.int f), .val (.int v0), .val (.int v1), .val (.int v2), .val (.int v3), .val (.double d0), .second, .val (.double d1), .second, .val (.double d2), .second, .val (.double d3), .second, .val (.ref b50), .val (.ref b56), .val (.ref b63), .val (.int x2), .unset] [(.int (VV (f + (1 : Int32))))])) _
          refine XS.aload X71.here hx rfl (hb hby at_342) rfl rfl ?_
          show Steps p.tables e below (T71.setTop (mkF m 344 #[.val (.int i0), .val (.int i1), .val (.int (2 : Int32)), .val (.int f), .val (.int v0), .val (.int v1), .val (.int v2), .val (.int v3), .val (.double d0), .second, .val (.double d1), .second, .val (.double d2), .second, .val (.double d3), .second, .val (.ref b50), .val (.ref b56), .val (.ref b63), .val (.int x2), .unset] [(.ref b63), (.int (VV (f + (1 : Int32))))])) _
          refine XS.iloadN X71.here hx rfl (hb hby at_344) rfl ?_
          show Steps p.tables e below (T71.setTop (mkF m 345 #[.val (.int i0), .val (.int i1), .val (.int (2 : Int32)), .val (.int f), .val (.int v0), .val (.int v1), .val (.int v2), .val (.int v3), .val (.double d0), .second, .val (.double d1), .second, .val (.double d2), .second, .val (.double d3), .second, .val (.ref b50), .val (.ref b56), .val (.ref b63), .val (.int x2), .unset] [(.int f), (.ref b63), (.int (VV (f + (1 : Int32))))])) _
          refine X71.iaload hx (j := f) (v := .int (VV f)) (by rw [e71]; exact Arv_.1) (State.isArrayOf_alike hZ.alike Arv_.2.1) Arv_.2.2 (inb_of Sv ⟨hf0, hf4⟩) (hVv _ hf0 hf4) (g := (mkF m 345 #[.val (.int i0), .val (.int i1), .val (.int (2 : Int32)), .val (.int f), .val (.int v0), .val (.int v1), .val (.int v2), .val (.int v3), .val (.double d0), .second, .val (.double d1), .second, .val (.double d2), .second, .val (.double d3), .second, .val (.ref b50), .val (.ref b56), .val (.ref b63), .val (.int x2), .unset] [(.int f), (.ref b63), (.int (VV (f + (1 : Int32))))])) rfl rfl (hb hby at_345) _ ?_
          show Steps p.tables e below (T71.setTop (mkF m 346 #[.val (.int i0), .val (.int i1), .val (.int (2 : Int32)), .val (.int f), .val (.int v0), .val (.int v1), .val (.int v2), .val (.int v3), .val (.double d0), .second, .val (.double d1), .second, .val (.double d2), .second, .val (.double d3), .second, .val (.ref b50), .val (.ref b56), .val (.ref b63), .val (.int x2), .unset] [(.int (VV f)), (.int (VV (f + (1 : Int32))))])) _
          refine XS.icmpNo X71.here hx rfl (hb hby at_346) rfl (feq h2).1 ?_
          show Steps p.tables e below (T71.setTop (mkF m 349 #[.val (.int i0), .val (.int i1), .val (.int (2 : Int32)), .val (.int f), .val (.int v0), .val (.int v1), .val (.int v2), .val (.int v3), .val (.double d0), .second, .val (.double d1), .second, .val (.double d2), .second, .val (.double d3), .second, .val (.ref b50), .val (.ref b56), .val (.ref b63), .val (.int x2), .unset] [])) _
          refine XS.iloadN X71.here hx rfl (hb hby at_349) rfl ?_
          show Steps p.tables e below (T71.setTop (mkF m 350 #[.val (.int i0), .val (.int i1), .val (.int (2 : Int32)), .val (.int f), .val (.int v0), .val (.int v1), .val (.int v2), .val (.int v3), .val (.double d0), .second, .val (.double d1), .second, .val (.double d2), .second, .val (.double d3), .second, .val (.ref b50), .val (.ref b56), .val (.ref b63), .val (.int x2), .unset] [(.int f)])) _
          refine XS.iconst X71.here hx rfl (hb hby at_350) ?_
          show Steps p.tables e below (T71.setTop (mkF m 351 #[.val (.int i0), .val (.int i1), .val (.int (2 : Int32)), .val (.int f), .val (.int v0), .val (.int v1), .val (.int v2), .val (.int v3), .val (.double d0), .second, .val (.double d1), .second, .val (.double d2), .second, .val (.double d3), .second, .val (.ref b50), .val (.ref b56), .val (.ref b63), .val (.int x2), .unset] [(.int (1 : Int32)), (.int f)])) _
          refine XS.iadd X71.here hx rfl (hb hby at_351) rfl ?_
          show Steps p.tables e below (T71.setTop (mkF m 352 #[.val (.int i0), .val (.int i1), .val (.int (2 : Int32)), .val (.int f), .val (.int v0), .val (.int v1), .val (.int v2), .val (.int v3), .val (.double d0), .second, .val (.double d1), .second, .val (.double d2), .second, .val (.double d3), .second, .val (.ref b50), .val (.ref b56), .val (.ref b63), .val (.int x2), .unset] [(.int (f + (1 : Int32)))])) _
          refine XS.istore X71.here hx rfl (hb hby at_352) rfl (l' := #[.val (.int i0), .val (.int i1), .val (.int (2 : Int32)), .val (.int f), .val (.int v0), .val (.int v1), .val (.int v2), .val (.int v3), .val (.double d0), .second, .val (.double d1), .second, .val (.double d2), .second, .val (.double d3), .second, .val (.ref b50), .val (.ref b56), .val (.ref b63), .val (.int (f + (1 : Int32))), .unset]) rfl ?_
          exact Steps.refl _
      · rw [if_neg h1]
        show Steps p.tables e below (T71.setTop (mkF m 333 #[.val (.int i0), .val (.int i1), .val (.int (2 : Int32)), .val (.int f), .val (.int v0), .val (.int v1), .val (.int v2), .val (.int v3), .val (.double d0), .second, .val (.double d1), .second, .val (.double d2), .second, .val (.double d3), .second, .val (.ref b50), .val (.ref b56), .val (.ref b63), .val (.int x2), .unset] [(.int (2 : Int32)), (.int (f + (1 : Int32)))])) _
        refine XS.icmpYes X71.here hx rfl (pc0 := 333) (pc' := 354) rfl (hb hby at_333) rfl (flt h1).2.1 (by decide) (by decide) ?_
        exact Steps.refl _
    generalize hx1 : (if (f + (1 : Int32)) < (2 : Int32) then (if VV (f + (1 : Int32)) = VV f then x2 else (f + (1 : Int32))) else x2) = x1 at c78
    obtain ⟨T79, h79, X79, e79, E79, A79, D79, -, st79⟩ := newO X71 hx hZ hown (hw _ (List.mem_of_getElem? (i := 7) rfl)) (hw _ (List.mem_of_getElem? (i := 8) rfl)) (hw _ (List.mem_of_getElem? (i := 9) rfl)) e71 (g := (mkF m 354 #[.val (.int i0), .val (.int i1), .val (.int (2 : Int32)), .val (.int f), .val (.int v0), .val (.int v1), .val (.int v2), .val (.int v3), .val (.double d0), .second, .val (.double d1), .second, .val (.double d2), .second, .val (.double d3), .second, .val (.ref b50), .val (.ref b56), .val (.ref b63), .val (.int x1), .unset] [])) rfl (hb hby at_354) (by decide) (by decide)
    obtain ⟨b79, g79⟩ : ∃ z, z = h71.size := ⟨_, rfl⟩
    rw [← g79] at A79 D79 st79
    have c79 : Steps p.tables e below S0 (T79.setTop (mkF m 357 #[.val (.int i0), .val (.int i1), .val (.int (2 : Int32)), .val (.int f), .val (.int v0), .val (.int v1), .val (.int v2), .val (.int v3), .val (.double d0), .second, .val (.double d1), .second, .val (.double d2), .second, .val (.double d3), .second, .val (.ref b50), .val (.ref b56), .val (.ref b63), .val (.int x1), .unset] [(.ref b79)])) := by
      refine c78.trans ?_
      show Steps p.tables e below (T71.setTop (mkF m 354 #[.val (.int i0), .val (.int i1), .val (.int (2 : Int32)), .val (.int f), .val (.int v0), .val (.int v1), .val (.int v2), .val (.int v3), .val (.double d0), .second, .val (.double d1), .second, .val (.double d2), .second, .val (.double d3), .second, .val (.ref b50), .val (.ref b56), .val (.ref b63), .val (.int x1), .unset] [])) _
      refine st79 _ ?_
      exact Steps.refl _
    have go : n0 ≤ b79 := Nat.le_trans Zh (Nat.le_of_eq g79.symm)
    have Zh := Nat.le_trans Zh E79.1
    have hk := Nat.le_trans hk E79.1
    have Fquery : Fld Z h79 b79 "com/example/canvass/canvass/core/Ranking" "query" "Ljava/lang/String;" .null := D79 (Or.inr (hw _ (List.mem_of_getElem? (i := 25) rfl))) (ty := (.object "java/lang/String")) (by decide)
    have Fdocuments : Fld Z h79 b79 "com/example/canvass/canvass/core/Ranking" "documents" "[I" .null := D79 (Or.inr (hw _ (List.mem_of_getElem? (i := 27) rfl))) (ty := (.array .int)) (by decide)
    have Fscores : Fld Z h79 b79 "com/example/canvass/canvass/core/Ranking" "scores" "[D" .null := D79 (Or.inr (hw _ (List.mem_of_getElem? (i := 29) rfl))) (ty := (.array .double)) (by decide)
    have c80 : Steps p.tables e below S0 (T79.setTop (mkF m 358 #[.val (.int i0), .val (.int i1), .val (.int (2 : Int32)), .val (.int f), .val (.int v0), .val (.int v1), .val (.int v2), .val (.int v3), .val (.double d0), .second, .val (.double d1), .second, .val (.double d2), .second, .val (.double d3), .second, .val (.ref b50), .val (.ref b56), .val (.ref b63), .val (.int x1), .unset] [(.ref b79), (.ref b79)])) := by
      refine c79.trans ?_
      show Steps p.tables e below (T79.setTop (mkF m 357 #[.val (.int i0), .val (.int i1), .val (.int (2 : Int32)), .val (.int f), .val (.int v0), .val (.int v1), .val (.int v2), .val (.int v3), .val (.double d0), .second, .val (.double d1), .second, .val (.double d2), .second, .val (.double d3), .second, .val (.ref b50), .val (.ref b56), .val (.ref b63), .val (.int x1), .unset] [(.ref b79)])) _
      refine XS.dup X79.here hx rfl (hb hby at_357) rfl rfl ?_
      exact Steps.refl _
    obtain ⟨q81, T81, h81, k81, X81, e81, E81, hS, hk, hZ, hown, st81⟩ := ldcS X79 hx hZ hown (hw _ (List.mem_of_getElem? (i := 10) rfl)) (own_wS hw) e79 hS hk (g := (mkF m 358 #[.val (.int i0), .val (.int i1), .val (.int (2 : Int32)), .val (.int f), .val (.int v0), .val (.int v1), .val (.int v2), .val (.int v3), .val (.double d0), .second, .val (.double d1), .second, .val (.double d2), .second, .val (.double d3), .second, .val (.ref b50), .val (.ref b56), .val (.ref b63), .val (.int x1), .unset] [(.ref b79), (.ref b79)])) rfl (hb hby at_358) (n := 4) (by decide) (by decide) (by decide) (by decide)
    have c81 : Steps p.tables e below S0 (T81.setTop (mkF m 360 #[.val (.int i0), .val (.int i1), .val (.int (2 : Int32)), .val (.int f), .val (.int v0), .val (.int v1), .val (.int v2), .val (.int v3), .val (.double d0), .second, .val (.double d1), .second, .val (.double d2), .second, .val (.double d3), .second, .val (.ref b50), .val (.ref b56), .val (.ref b63), .val (.int x1), .unset] [(.ref q81), (.ref b79), (.ref b79)])) := by
      refine c80.trans ?_
      show Steps p.tables e below (T79.setTop (mkF m 358 #[.val (.int i0), .val (.int i1), .val (.int (2 : Int32)), .val (.int f), .val (.int v0), .val (.int v1), .val (.int v2), .val (.int v3), .val (.double d0), .second, .val (.double d1), .second, .val (.double d2), .second, .val (.double d3), .second, .val (.ref b50), .val (.ref b56), .val (.ref b63), .val (.int x1), .unset] [(.ref b79), (.ref b79)])) _
      refine st81 _ ?_
      exact Steps.refl _
    have Zh := Nat.le_trans Zh E81.1
    obtain ⟨cls_, Ars, -, Ss, Ms, Hs, -⟩ := (Vs.ext E79).ext E81
    obtain ⟨cld, Ard, -, Sd, Md, -, -⟩ := (Vd.ext E79).ext E81
    have hDs := own_hD2 (d0 := d0) (d1 := d1) Ss Hs
    generalize hDD : own_D d0 d1 d1 d1 = D at hDs
    have c82 : Steps p.tables e below S0 (T81.setTop (mkF m 364 #[.val (.int i0), .val (.int i1), .val (.int (2 : Int32)), .val (.int f), .val (.int v0), .val (.int v1), .val (.int v2), .val (.int v3), .val (.double d0), .second, .val (.double d1), .second, .val (.double d2), .second, .val (.double d3), .second, .val (.ref b50), .val (.ref b56), .val (.ref b63), .val (.int x1), .unset] [(.ref b50), (.ref b56), (.ref q81), (.ref b79), (.ref b79)])) := by
      refine c81.trans ?_
      show Steps p.tables e below (T81.setTop (mkF m 360 #[.val (.int i0), .val (.int i1), .val (.int (2 : Int32)), .val (.int f), .val (.int v0), .val (.int v1), .val (.int v2), .val (.int v3), .val (.double d0), .second, .val (.double d1), .second, .val (.double d2), .second, .val (.double d3), .second, .val (.ref b50), .val (.ref b56), .val (.ref b63), .val (.int x1), .unset] [(.ref q81), (.ref b79), (.ref b79)])) _
      refine XS.aload X81.here hx rfl (hb hby at_360) rfl rfl ?_
      show Steps p.tables e below (T81.setTop (mkF m 362 #[.val (.int i0), .val (.int i1), .val (.int (2 : Int32)), .val (.int f), .val (.int v0), .val (.int v1), .val (.int v2), .val (.int v3), .val (.double d0), .second, .val (.double d1), .second, .val (.double d2), .second, .val (.double d3), .second, .val (.ref b50), .val (.ref b56), .val (.ref b63), .val (.int x1), .unset] [(.ref b56), (.ref q81), (.ref b79), (.ref b79)])) _
      refine XS.aload X81.here hx rfl (hb hby at_362) rfl rfl ?_
      exact Steps.refl _
    obtain ⟨_, _, ⟨T83, L83, k83, n83⟩, -, X83, ⟨Lc83, hQ83, l83, y83, z83⟩, st83⟩ := X81.specialBack hx (y := (⟨"com/example/canvass/canvass/core/Ranking", "<init>", "(Ljava/lang/String;[I[D)V"⟩ : MethodName)) rfl hown (mvT hZ (hw _ (List.mem_of_getElem? (i := 18) rfl))) (mvT hZ (hw _ (List.mem_of_getElem? (i := 19) rfl))) (mvT hZ (hw _ (List.mem_of_getElem? (i := 20) rfl))) (by decide) (backOf (W := 1) (rm19 l Z a0 hw [] b79 q81 b56 b50 cld cls_ (2 : Int32) h81 n0 Zh Ard Sd Ars Ss (by decide) (A79.ext E81) (Fquery.ext E81) (Fdocuments.ext E81) (Fscores.ext E81) go) hZ (hw _ (List.mem_of_getElem? (i := 20) rfl)) (hw _ (List.mem_of_getElem? (i := 9) rfl)) (by decide) (by decide)) (g := (mkF m 364 #[.val (.int i0), .val (.int i1), .val (.int (2 : Int32)), .val (.int f), .val (.int v0), .val (.int v1), .val (.int v2), .val (.int v3), .val (.double d0), .second, .val (.double d1), .second, .val (.double d2), .second, .val (.double d3), .second, .val (.ref b50), .val (.ref b56), .val (.ref b63), .val (.int x1), .unset] [(.ref b50), (.ref b56), (.ref q81), (.ref b79), (.ref b79)])) rfl (by rw [hml]; rfl) (Steps.refl _) (a := b79) (argsL := [(.ref q81), (.ref b56), (.ref b50)]) (rest := [(.ref b79)]) (lenOf pd2 rfl) rfl (by show 2 * 0 + _ ≤ _; exact Nat.le_of_eq rfl) (hb hby at_364) (fun _ _ => ⟨rfl, e81, (by decide : 6 + 0 ≤ _), (by decide : 19 + 0 ≤ _)⟩)
    dsimp only [Pt.U, Pt.locs, Pt.cells, Pt.slots] at X83 l83 y83 z83 st83 hQ83
    subst l83 y83 z83
    obtain ⟨rfl, Ni, Ki, Ei, Fi⟩ := hQ83
    have c83 : Steps p.tables e below S0 (T83.setTop (mkF m 367 #[.val (.int i0), .val (.int i1), .val (.int (2 : Int32)), .val (.int f), .val (.int v0), .val (.int v1), .val (.int v2), .val (.int v3), .val (.double d0), .second, .val (.double d1), .second, .val (.double d2), .second, .val (.double d3), .second, .val (.ref b50), .val (.ref b56), .val (.ref b63), .val (.int x1), .unset] [(.ref b79)])) := by
      refine c82.trans ?_
      show Steps p.tables e below (T81.setTop (mkF m 364 #[.val (.int i0), .val (.int i1), .val (.int (2 : Int32)), .val (.int f), .val (.int v0), .val (.int v1), .val (.int v2), .val (.int v3), .val (.double d0), .second, .val (.double d1), .second, .val (.double d2), .second, .val (.double d3), .second, .val (.ref b50), .val (.ref b56), .val (.ref b63), .val (.int x1), .unset] [(.ref b50), (.ref b56), (.ref q81), (.ref b79), (.ref b79)])) _
      refine st83.trans ?_
      exact Steps.refl _
    have Zh := Nat.le_trans Zh Ki.1
    have hk := Nat.le_trans hk Ki.1
    have Arz : Arr Z T83.heap b50 cls_ .double := ⟨Ki.2.1 _ _ Ars.1 (fun q => Nat.ne_of_lt (Nat.lt_of_lt_of_le Vs.lt (Nat.le_of_eq g79.symm)) (List.mem_singleton.mp q)), Ars.2⟩
    have c84 : Steps p.tables e below S0 (T83.setTop (mkF m 372 #[.val (.int i0), .val (.int i1), .val (.int (2 : Int32)), .val (.int f), .val (.int v0), .val (.int v1), .val (.int v2), .val (.int v3), .val (.double d0), .second, .val (.double d1), .second, .val (.double d2), .second, .val (.double d3), .second, .val (.ref b50), .val (.ref b56), .val (.ref b63), .val (.int x1), .val (.ref b79)] [(.int f), (.ref b79)])) := by
      refine c83.trans ?_
      show Steps p.tables e below (T83.setTop (mkF m 367 #[.val (.int i0), .val (.int i1), .val (.int (2 : Int32)), .val (.int f), .val (.int v0), .val (.int v1), .val (.int v2), .val (.int v3), .val (.double d0), .second, .val (.double d1), .second, .val (.double d2), .second, .val (.double d3), .second, .val (.ref b50), .val (.ref b56), .val (.ref b63), .val (.int x1), .unset] [(.ref b79)])) _
      refine XS.astore X83.here hx rfl (hb hby at_367) rfl rfl (l' := #[.val (.int i0), .val (.int i1), .val (.int (2 : Int32)), .val (.int f), .val (.int v0), .val (.int v1), .val (.int v2), .val (.int v3), .val (.double d0), .second, .val (.double d1), .second, .val (.double d2), .second, .val (.double d3), .second, .val (.ref b50), .val (.ref b56), .val (.ref b63), .val (.int x1), .val (.ref b79)]) rfl ?_
      show Steps p.tables e below (T83.setTop (mkF m 369 #[.val (.int i0), .val (.int i1), .val (.int (2 : Int32)), .val (.int f), .val (.int v0), .val (.int v1), .val (.int v2), .val (.int v3), .val (.double d0), .second, .val (.double d1), .second, .val (.double d2), .second, .val (.double d3), .second, .val (.ref b50), .val (.ref b56), .val (.ref b63), .val (.int x1), .val (.ref b79)] [])) _
      refine XS.aload X83.here hx rfl (hb hby at_369) rfl rfl ?_
      show Steps p.tables e below (T83.setTop (mkF m 371 #[.val (.int i0), .val (.int i1), .val (.int (2 : Int32)), .val (.int f), .val (.int v0), .val (.int v1), .val (.int v2), .val (.int v3), .val (.double d0), .second, .val (.double d1), .second, .val (.double d2), .second, .val (.double d3), .second, .val (.ref b50), .val (.ref b56), .val (.ref b63), .val (.int x1), .val (.ref b79)] [(.ref b79)])) _
      refine XS.iloadN X83.here hx rfl (hb hby at_371) rfl ?_
      exact Steps.refl _
    obtain ⟨cq85, kq85, q85a, q85b, q85c⟩ := isOf hZ rfl Ei
    obtain ⟨_, _, ⟨T85, L85, k85, n85⟩, -, X85, ⟨Lc85, hQ85, l85, y85, z85⟩, st85⟩ := X83.virtualBack hx (y := (⟨"com/example/canvass/canvass/core/Ranking", "endOfTie", "(I)I"⟩ : MethodName)) (z := (⟨"com/example/canvass/canvass/core/Ranking", "endOfTie", "(I)I"⟩ : MethodName)) hown (mvT hZ (hw _ (List.mem_of_getElem? (i := 30) rfl))) (mvT hZ (hw _ (List.mem_of_getElem? (i := 31) rfl))) (notFace_of_selects (args := #[]) (mvT hZ (hw _ (List.mem_of_getElem? (i := 33) rfl)))) (mvT hZ (hw _ (List.mem_of_getElem? (i := 33) rfl))) (mvT hZ (hw _ (List.mem_of_getElem? (i := 32) rfl))) (by decide) (backOf (W := 0) (rm196 l Z a0 hw [] b79 b50 cls_ D (2 : Int32) f T83.heap n0 Zh Fi Arz Ss hDs (by decide) (by decide) hf0 hfN) hZ (hw _ (List.mem_of_getElem? (i := 34) rfl)) (hw _ (List.mem_of_getElem? (i := 9) rfl)) (by decide) (by decide)) q85a q85c (g := (mkF m 372 #[.val (.int i0), .val (.int i1), .val (.int (2 : Int32)), .val (.int f), .val (.int v0), .val (.int v1), .val (.int v2), .val (.int v3), .val (.double d0), .second, .val (.double d1), .second, .val (.double d2), .second, .val (.double d3), .second, .val (.ref b50), .val (.ref b56), .val (.ref b63), .val (.int x1), .val (.ref b79)] [(.int f), (.ref b79)])) rfl (by rw [hml]; rfl) (Steps.refl _) (argsL := [(.int f)]) (rest := []) (lenOf pd3 rfl) rfl (by show 2 * 0 + _ ≤ _; exact Nat.le_of_eq rfl) (hb hby at_372) (fun _ _ => ⟨rfl, rfl, (by decide : 6 + 0 ≤ _), (by decide : 19 + 0 ≤ _)⟩)
    dsimp only [Pt.U, Pt.locs, Pt.cells, Pt.slots] at X85 l85 y85 z85 st85 hQ85
    subst l85 y85 z85
    obtain ⟨rfl, Nz, ez⟩ := hQ85
    have c85 : Steps p.tables e below S0 (T85.setTop (mkF m 375 #[.val (.int i0), .val (.int i1), .val (.int (2 : Int32)), .val (.int f), .val (.int v0), .val (.int v1), .val (.int v2), .val (.int v3), .val (.double d0), .second, .val (.double d1), .second, .val (.double d2), .second, .val (.double d3), .second, .val (.ref b50), .val (.ref b56), .val (.ref b63), .val (.int x1), .val (.ref b79)] [(.int (own_eot (fun k => decide (cmpValue (FP.dcmp (D k) (D f)) .l = 0)) (2 : Int32) 5 (f + 1)))])) := by
      refine c84.trans ?_
      show Steps p.tables e below (T83.setTop (mkF m 372 #[.val (.int i0), .val (.int i1), .val (.int (2 : Int32)), .val (.int f), .val (.int v0), .val (.int v1), .val (.int v2), .val (.int v3), .val (.double d0), .second, .val (.double d1), .second, .val (.double d2), .second, .val (.double d3), .second, .val (.ref b50), .val (.ref b56), .val (.ref b63), .val (.int x1), .val (.ref b79)] [(.int f), (.ref b79)])) _
      refine st85.trans ?_
      exact Steps.refl _
    have hlaw : (own_eot (fun k => decide (cmpValue (FP.dcmp (D k) (D f)) .l = 0)) (2 : Int32) 5 (f + 1)) = x1 := by
      subst hx3 hx2 hx1 hVV hDD
      exact own_law2 f hf0 hfN hd0 hd1 hd2 hd3
    have c86 : Steps p.tables e below S0 (T85.setTop (mkF m 385 #[.val (.int i0), .val (.int i1), .val (.int (2 : Int32)), .val (.int f), .val (.int v0), .val (.int v1), .val (.int v2), .val (.int v3), .val (.double d0), .second, .val (.double d1), .second, .val (.double d2), .second, .val (.double d3), .second, .val (.ref b50), .val (.ref b56), .val (.ref b63), .val (.int x1), .val (.ref b79)] [(.int (1 : Int32))])) := by
      refine c85.trans ?_
      show Steps p.tables e below (T85.setTop (mkF m 375 #[.val (.int i0), .val (.int i1), .val (.int (2 : Int32)), .val (.int f), .val (.int v0), .val (.int v1), .val (.int v2), .val (.int v3), .val (.double d0), .second, .val (.double d1), .second, .val (.double d2), .second, .val (.double d3), .second, .val (.ref b50), .val (.ref b56), .val (.ref b63), .val (.int x1), .val (.ref b79)] [(.int (own_eot (fun k => decide (cmpValue (FP.dcmp (D k) (D f)) .l = 0)) (2 : Int32) 5 (f + 1)))])) _
      refine XS.iload X85.here hx rfl (hb hby at_375) rfl ?_
      show Steps p.tables e below (T85.setTop (mkF m 377 #[.val (.int i0), .val (.int i1), .val (.int (2 : Int32)), .val (.int f), .val (.int v0), .val (.int v1), .val (.int v2), .val (.int v3), .val (.double d0), .second, .val (.double d1), .second, .val (.double d2), .second, .val (.double d3), .second, .val (.ref b50), .val (.ref b56), .val (.ref b63), .val (.int x1), .val (.ref b79)] [(.int x1), (.int (own_eot (fun k => decide (cmpValue (FP.dcmp (D k) (D f)) .l = 0)) (2 : Int32) 5 (f + 1)))])) _
      refine XS.icmpNo X85.here hx rfl (hb hby at_377) rfl (teq hlaw).2 ?_
      show Steps p.tables e below (T85.setTop (mkF m 380 #[.val (.int i0), .val (.int i1), .val (.int (2 : Int32)), .val (.int f), .val (.int v0), .val (.int v1), .val (.int v2), .val (.int v3), .val (.double d0), .second, .val (.double d1), .second, .val (.double d2), .second, .val (.double d3), .second, .val (.ref b50), .val (.ref b56), .val (.ref b63), .val (.int x1), .val (.ref b79)] [])) _
      refine XS.iconst X85.here hx rfl (hb hby at_380) ?_
      show Steps p.tables e below (T85.setTop (mkF m 381 #[.val (.int i0), .val (.int i1), .val (.int (2 : Int32)), .val (.int f), .val (.int v0), .val (.int v1), .val (.int v2), .val (.int v3), .val (.double d0), .second, .val (.double d1), .second, .val (.double d2), .second, .val (.double d3), .second, .val (.ref b50), .val (.ref b56), .val (.ref b63), .val (.int x1), .val (.ref b79)] [(.int (1 : Int32))])) _
      refine XS.goto X85.here hx rfl (pc0 := 381) (pc' := 385) rfl (hb hby at_381) (by decide) (by decide) ?_
      exact Steps.refl _
    obtain ⟨fs, hr, hrun, hended, hW⟩ := X85.leaveW hS (by rw [ez]; exact hk) (v := some (.int 1)) (fun h => by rw [Bd.returns] at h; cases h)
    refine ⟨_, _, c86.trans ?_, hrun, hended, _, _, rfl, ?_, hW.1, hW.2.1, hW.2.2.1, hW.2.2.2.mono (by decide) (by decide)⟩
    · show Steps p.tables e below (T85.setTop (mkF m 385 #[.val (.int i0), .val (.int i1), .val (.int (2 : Int32)), .val (.int f), .val (.int v0), .val (.int v1), .val (.int v2), .val (.int v3), .val (.double d0), .second, .val (.double d1), .second, .val (.double d2), .second, .val (.double d3), .second, .val (.ref b50), .val (.ref b56), .val (.ref b63), .val (.int x1), .val (.ref b79)] [(.int (1 : Int32))])) _
      exact retN X85 hx (t := .boolean) Bd.returns (by simp) (hb hby at_385) hr
    · show Q0 Z i0 i1 h0 n0 _ T85.heap _
      rw [ez]
      exact ⟨rfl, Fr.app (Fr.app Nv3 Ni) Nz⟩
  · subst hcase
    clear hN hNz
    have hf4 : f < 4 := own_f4 hfN (by decide)
    have c87 : Steps p.tables e below S0 (T11.setTop (mkF m 165 #[.val (.int i0), .val (.int i1), .val (.int (3 : Int32)), .val (.int f), .val (.int v0), .val (.int v1), .val (.int v2), .val (.int v3), .val (.double d0), .second, .val (.double d1), .second, .val (.double d2), .second, .val (.double d3), .second, .unset, .unset, .unset, .unset, .unset] [])) := by
      refine c12.trans ?_
      show Steps p.tables e below (T11.setTop (mkF m 99 #[.val (.int i0), .val (.int i1), .val (.int (3 : Int32)), .val (.int f), .val (.int v0), .val (.int v1), .val (.int v2), .val (.int v3), .val (.double d0), .second, .val (.double d1), .second, .val (.double d2), .second, .val (.double d3), .second, .unset, .unset, .unset, .unset, .unset] [(.int (1 : Int32)), (.int (3 : Int32))])) _
      refine XS.icmpYes X11.here hx rfl (pc0 := 99) (pc' := 124) rfl (hb hby at_99) rfl (feq (by decide)).2 (by decide) (by decide) ?_
      show Steps p.tables e below (T11.setTop (mkF m 124 #[.val (.int i0), .val (.int i1), .val (.int (3 : Int32)), .val (.int f), .val (.int v0), .val (.int v1), .val (.int v2), .val (.int v3), .val (.double d0), .second, .val (.double d1), .second, .val (.double d2), .second, .val (.double d3), .second, .unset, .unset, .unset, .unset, .unset] [])) _
      refine XS.iloadN X11.here hx rfl (hb hby at_124) rfl ?_
      show Steps p.tables e below (T11.setTop (mkF m 125 #[.val (.int i0), .val (.int i1), .val (.int (3 : Int32)), .val (.int f), .val (.int v0), .val (.int v1), .val (.int v2), .val (.int v3), .val (.double d0), .second, .val (.double d1), .second, .val (.double d2), .second, .val (.double d3), .second, .unset, .unset, .unset, .unset, .unset] [(.int (3 : Int32))])) _
      refine XS.iconst X11.here hx rfl (hb hby at_125) ?_
      show Steps p.tables e below (T11.setTop (mkF m 126 #[.val (.int i0), .val (.int i1), .val (.int (3 : Int32)), .val (.int f), .val (.int v0), .val (.int v1), .val (.int v2), .val (.int v3), .val (.double d0), .second, .val (.double d1), .second, .val (.double d2), .second, .val (.double d3), .second, .unset, .unset, .unset, .unset, .unset] [(.int (2 : Int32)), (.int (3 : Int32))])) _
      refine XS.icmpYes X11.here hx rfl (pc0 := 126) (pc' := 160) rfl (hb hby at_126) rfl (feq (by decide)).2 (by decide) (by decide) ?_
      show Steps p.tables e below (T11.setTop (mkF m 160 #[.val (.int i0), .val (.int i1), .val (.int (3 : Int32)), .val (.int f), .val (.int v0), .val (.int v1), .val (.int v2), .val (.int v3), .val (.double d0), .second, .val (.double d1), .second, .val (.double d2), .second, .val (.double d3), .second, .unset, .unset, .unset, .unset, .unset] [])) _
      refine XS.iloadN X11.here hx rfl (hb hby at_160) rfl ?_
      show Steps p.tables e below (T11.setTop (mkF m 161 #[.val (.int i0), .val (.int i1), .val (.int (3 : Int32)), .val (.int f), .val (.int v0), .val (.int v1), .val (.int v2), .val (.int v3), .val (.double d0), .second, .val (.double d1), .second, .val (.double d2), .second, .val (.double d3), .second, .unset, .unset, .unset, .unset, .unset] [(.int (3 : Int32))])) _
      refine XS.iconst X11.here hx rfl (hb hby at_161) ?_
      show Steps p.tables e below (T11.setTop (mkF m 162 #[.val (.int i0), .val (.int i1), .val (.int (3 : Int32)), .val (.int f), .val (.int v0), .val (.int v1), .val (.int v2), .val (.int v3), .val (.double d0), .second, .val (.double d1), .second, .val (.double d2), .second, .val (.double d3), .second, .unset, .unset, .unset, .unset, .unset] [(.int (3 : Int32)), (.int (3 : Int32))])) _
      refine XS.icmpNo X11.here hx rfl (hb hby at_162) rfl (teq rfl).2 ?_
      exact Steps.refl _
    have c88 : Steps p.tables e below S0 (T11.setTop (mkF m 166 #[.val (.int i0), .val (.int i1), .val (.int (3 : Int32)), .val (.int f), .val (.int v0), .val (.int v1), .val (.int v2), .val (.int v3), .val (.double d0), .second, .val (.double d1), .second, .val (.double d2), .second, .val (.double d3), .second, .unset, .unset, .unset, .unset, .unset] [(.int (3 : Int32))])) := by
      refine c87.trans ?_
      show Steps p.tables e below (T11.setTop (mkF m 165 #[.val (.int i0), .val (.int i1), .val (.int (3 : Int32)), .val (.int f), .val (.int v0), .val (.int v1), .val (.int v2), .val (.int v3), .val (.double d0), .second, .val (.double d1), .second, .val (.double d2), .second, .val (.double d3), .second, .unset, .unset, .unset, .unset, .unset] [])) _
      refine XS.iconst X11.here hx rfl (hb hby at_165) ?_
      exact Steps.refl _
    obtain ⟨T89, h89, kA89, X89, e89, E89, A89, st89⟩ := newP X11 hx hZ (hw _ (List.mem_of_getElem? (i := 5) rfl)) es3 (g := (mkF m 166 #[.val (.int i0), .val (.int i1), .val (.int (3 : Int32)), .val (.int f), .val (.int v0), .val (.int v1), .val (.int v2), .val (.int v3), .val (.double d0), .second, .val (.double d1), .second, .val (.double d2), .second, .val (.double d3), .second, .unset, .unset, .unset, .unset, .unset] [(.int (3 : Int32))])) rfl (hb hby at_166) rfl (by decide : ¬ ((3 : Int32) < (0 : Int32))) (cap := 3) (by decide) (by decide) (by decide) (by decide)
    obtain ⟨b89, g89⟩ : ∃ z, z = h0.size := ⟨_, rfl⟩
    rw [← g89] at A89 st89
    have c89 : Steps p.tables e below S0 (T89.setTop (mkF m 168 #[.val (.int i0), .val (.int i1), .val (.int (3 : Int32)), .val (.int f), .val (.int v0), .val (.int v1), .val (.int v2), .val (.int v3), .val (.double d0), .second, .val (.double d1), .second, .val (.double d2), .second, .val (.double d3), .second, .unset, .unset, .unset, .unset, .unset] [(.ref b89)])) := by
      refine c88.trans ?_
      show Steps p.tables e below (T11.setTop (mkF m 166 #[.val (.int i0), .val (.int i1), .val (.int (3 : Int32)), .val (.int f), .val (.int v0), .val (.int v1), .val (.int v2), .val (.int v3), .val (.double d0), .second, .val (.double d1), .second, .val (.double d2), .second, .val (.double d3), .second, .unset, .unset, .unset, .unset, .unset] [(.int (3 : Int32))])) _
      refine st89 _ ?_
      exact Steps.refl _
    have V89 := Arv.new A89 (by decide)
    have gb89 : n0 ≤ b89 := Nat.le_trans Zh (Nat.le_of_eq g89.symm)
    have Zh := Nat.le_trans Zh E89.1
    have hk := Nat.le_trans hk E89.1
    have c90 : Steps p.tables e below S0 (T89.setTop (mkF m 172 #[.val (.int i0), .val (.int i1), .val (.int (3 : Int32)), .val (.int f), .val (.int v0), .val (.int v1), .val (.int v2), .val (.int v3), .val (.double d0), .second, .val (.double d1), .second, .val (.double d2), .second, .val (.double d3), .second, .unset, .unset, .unset, .unset, .unset] [(.double d0), (.int (0 : Int32)), (.ref b89), (.ref b89)])) := by
      refine c89.trans ?_
      show Steps p.tables e below (T89.setTop (mkF m 168 #[.val (.int i0), .val (.int i1), .val (.int (3 : Int32)), .val (.int f), .val (.int v0), .val (.int v1), .val (.int v2), .val (.int v3), .val (.double d0), .second, .val (.double d1), .second, .val (.double d2), .second, .val (.double d3), .second, .unset, .unset, .unset, .unset, .unset] [(.ref b89)])) _
      refine XS.dup X89.here hx rfl (hb hby at_168) rfl rfl ?_
      show Steps p.tables e below (T89.setTop (mkF m 169 #[.val (.int i0), .val (.int i1), .val (.int (3 : Int32)), .val (.int f), .val (.int v0), .val (.int v1), .val (.int v2), .val (.int v3), .val (.double d0), .second, .val (.double d1), .second, .val (.double d2), .second, .val (.double d3), .second, .unset, .unset, .unset, .unset, .unset] [(.ref b89), (.ref b89)])) _
      refine XS.iconst X89.here hx rfl (hb hby at_169) ?_
      show Steps p.tables e below (T89.setTop (mkF m 170 #[.val (.int i0), .val (.int i1), .val (.int (3 : Int32)), .val (.int f), .val (.int v0), .val (.int v1), .val (.int v2), .val (.int v3), .val (.double d0), .second, .val (.double d1), .second, .val (.double d2), .second, .val (.double d3), .second, .unset, .unset, .unset, .unset, .unset] [(.int (0 : Int32)), (.ref b89), (.ref b89)])) _
      refine XS.dload X89.here hx rfl (hb hby at_170) rfl ?_
      exact Steps.refl _
    have Vp91 : Arv Z _ b89 kA89 .double (3 : Int32) [(.double 0)] (.double 0) := V89.pad (pad_rep [] (.double 0) 1)
    obtain ⟨cl91, Ar91, qr91, S91, M91, Hs91, U91⟩ := Vp91
    obtain ⟨T91, h91, X91, e91, W91, st91⟩ := stD X89 hx hZ e89 Ar91 (j := (0 : Int32)) (inb_of S91 ⟨(by decide), (by decide)⟩) (g := (mkF m 172 #[.val (.int i0), .val (.int i1), .val (.int (3 : Int32)), .val (.int f), .val (.int v0), .val (.int v1), .val (.int v2), .val (.int v3), .val (.double d0), .second, .val (.double d1), .second, .val (.double d2), .second, .val (.double d3), .second, .unset, .unset, .unset, .unset, .unset] [(.double d0), (.int (0 : Int32)), (.ref b89), (.ref b89)])) rfl rfl (hb hby at_172)
    have V91 : Arv Z h91 b89 kA89 .double (3 : Int32) [(.double d0)] (.double 0) := Arv.set Ar91 qr91 S91 M91 Hs91 U91 rfl W91 0 rfl (Nat.le_of_ble_eq_true rfl)
    have c91 : Steps p.tables e below S0 (T91.setTop (mkF m 173 #[.val (.int i0), .val (.int i1), .val (.int (3 : Int32)), .val (.int f), .val (.int v0), .val (.int v1), .val (.int v2), .val (.int v3), .val (.double d0), .second, .val (.double d1), .second, .val (.double d2), .second, .val (.double d3), .second, .unset, .unset, .unset, .unset, .unset] [(.ref b89)])) := by
      refine c90.trans ?_
      show Steps p.tables e below (T89.setTop (mkF m 172 #[.val (.int i0), .val (.int i1), .val (.int (3 : Int32)), .val (.int f), .val (.int v0), .val (.int v1), .val (.int v2), .val (.int v3), .val (.double d0), .second, .val (.double d1), .second, .val (.double d2), .second, .val (.double d3), .second, .unset, .unset, .unset, .unset, .unset] [(.double d0), (.int (0 : Int32)), (.ref b89), (.ref b89)])) _
      refine st91 _ ?_
      exact Steps.refl _
    have Ns0 := Fr.snoc X91 Na3 gb89
    have Zh := Nat.le_trans Zh (Nat.le_of_eq (own_wsz W91).symm)
    have hk := Nat.le_trans hk (Nat.le_of_eq (own_wsz W91).symm)
    have c92 : Steps p.tables e below S0 (T91.setTop (mkF m 177 #[.val (.int i0), .val (.int i1), .val (.int (3 : Int32)), .val (.int f), .val (.int v0), .val (.int v1), .val (.int v2), .val (.int v3), .val (.double d0), .second, .val (.double d1), .second, .val (.double d2), .second, .val (.double d3), .second, .unset, .unset, .unset, .unset, .unset] [(.double d1), (.int (1 : Int32)), (.ref b89), (.ref b89)])) := by
      refine c91.trans ?_
      show Steps p.tables e below (T91.setTop (mkF m 173 #[.val (.int i0), .val (.int i1), .val (.int (3 : Int32)), .val (.int f), .val (.int v0), .val (.int v1), .val (.int v2), .val (.int v3), .val (.double d0), .second, .val (.double d1), .second, .val (.double d2), .second, .val (.double d3), .second, .unset, .unset, .unset, .unset, .unset] [(.ref b89)])) _
      refine XS.dup X91.here hx rfl (hb hby at_173) rfl rfl ?_
      show Steps p.tables e below (T91.setTop (mkF m 174 #[.val (.int i0), .val (.int i1), .val (.int (3 : Int32)), .val (.int f), .val (.int v0), .val (.int v1), .val (.int v2), .val (.int v3), .val (.double d0), .second, .val (.double d1), .second, .val (.double d2), .second, .val (.double d3), .second, .unset, .unset, .unset, .unset, .unset] [(.ref b89), (.ref b89)])) _
      refine XS.iconst X91.here hx rfl (hb hby at_174) ?_
      show Steps p.tables e below (T91.setTop (mkF m 175 #[.val (.int i0), .val (.int i1), .val (.int (3 : Int32)), .val (.int f), .val (.int v0), .val (.int v1), .val (.int v2), .val (.int v3), .val (.double d0), .second, .val (.double d1), .second, .val (.double d2), .second, .val (.double d3), .second, .unset, .unset, .unset, .unset, .unset] [(.int (1 : Int32)), (.ref b89), (.ref b89)])) _
      refine XS.dload X91.here hx rfl (hb hby at_175) rfl ?_
      exact Steps.refl _
    have Vp93 : Arv Z _ b89 kA89 .double (3 : Int32) [(.double d0), (.double 0)] (.double 0) := V91.pad (pad_rep [(.double d0)] (.double 0) 1)
    obtain ⟨cl93, Ar93, qr93, S93, M93, Hs93, U93⟩ := Vp93
    obtain ⟨T93, h93, X93, e93, W93, st93⟩ := stD X91 hx hZ e91 Ar93 (j := (1 : Int32)) (inb_of S93 ⟨(by decide), (by decide)⟩) (g := (mkF m 177 #[.val (.int i0), .val (.int i1), .val (.int (3 : Int32)), .val (.int f), .val (.int v0), .val (.int v1), .val (.int v2), .val (.int v3), .val (.double d0), .second, .val (.double d1), .second, .val (.double d2), .second, .val (.double d3), .second, .unset, .unset, .unset, .unset, .unset] [(.double d1), (.int (1 : Int32)), (.ref b89), (.ref b89)])) rfl rfl (hb hby at_177)
    have V93 : Arv Z h93 b89 kA89 .double (3 : Int32) [(.double d0), (.double d1)] (.double 0) := Arv.set Ar93 qr93 S93 M93 Hs93 U93 rfl W93 1 rfl (Nat.le_of_ble_eq_true rfl)
    have c93 : Steps p.tables e below S0 (T93.setTop (mkF m 178 #[.val (.int i0), .val (.int i1), .val (.int (3 : Int32)), .val (.int f), .val (.int v0), .val (.int v1), .val (.int v2), .val (.int v3), .val (.double d0), .second, .val (.double d1), .second, .val (.double d2), .second, .val (.double d3), .second, .unset, .unset, .unset, .unset, .unset] [(.ref b89)])) := by
      refine c92.trans ?_
      show Steps p.tables e below (T91.setTop (mkF m 177 #[.val (.int i0), .val (.int i1), .val (.int (3 : Int32)), .val (.int f), .val (.int v0), .val (.int v1), .val (.int v2), .val (.int v3), .val (.double d0), .second, .val (.double d1), .second, .val (.double d2), .second, .val (.double d3), .second, .unset, .unset, .unset, .unset, .unset] [(.double d1), (.int (1 : Int32)), (.ref b89), (.ref b89)])) _
      refine st93 _ ?_
      exact Steps.refl _
    have Ns1 := Fr.snoc X93 Ns0 gb89
    have Zh := Nat.le_trans Zh (Nat.le_of_eq (own_wsz W93).symm)
    have hk := Nat.le_trans hk (Nat.le_of_eq (own_wsz W93).symm)
    have c94 : Steps p.tables e below S0 (T93.setTop (mkF m 182 #[.val (.int i0), .val (.int i1), .val (.int (3 : Int32)), .val (.int f), .val (.int v0), .val (.int v1), .val (.int v2), .val (.int v3), .val (.double d0), .second, .val (.double d1), .second, .val (.double d2), .second, .val (.double d3), .second, .unset, .unset, .unset, .unset, .unset] [(.double d2), (.int (2 : Int32)), (.ref b89), (.ref b89)])) := by
      refine c93.trans ?_
      show Steps p.tables e below (T93.setTop (mkF m 178 #[.val (.int i0), .val (.int i1), .val (.int (3 : Int32)), .val (.int f), .val (.int v0), .val (.int v1), .val (.int v2), .val (.int v3), .val (.double d0), .second, .val (.double d1), .second, .val (.double d2), .second, .val (.double d3), .second, .unset, .unset, .unset, .unset, .unset] [(.ref b89)])) _
      refine XS.dup X93.here hx rfl (hb hby at_178) rfl rfl ?_
      show Steps p.tables e below (T93.setTop (mkF m 179 #[.val (.int i0), .val (.int i1), .val (.int (3 : Int32)), .val (.int f), .val (.int v0), .val (.int v1), .val (.int v2), .val (.int v3), .val (.double d0), .second, .val (.double d1), .second, .val (.double d2), .second, .val (.double d3), .second, .unset, .unset, .unset, .unset, .unset] [(.ref b89), (.ref b89)])) _
      refine XS.iconst X93.here hx rfl (hb hby at_179) ?_
      show Steps p.tables e below (T93.setTop (mkF m 180 #[.val (.int i0), .val (.int i1), .val (.int (3 : Int32)), .val (.int f), .val (.int v0), .val (.int v1), .val (.int v2), .val (.int v3), .val (.double d0), .second, .val (.double d1), .second, .val (.double d2), .second, .val (.double d3), .second, .unset, .unset, .unset, .unset, .unset] [(.int (2 : Int32)), (.ref b89), (.ref b89)])) _
      refine XS.dload X93.here hx rfl (hb hby at_180) rfl ?_
      exact Steps.refl _
    have Vp95 : Arv Z _ b89 kA89 .double (3 : Int32) [(.double d0), (.double d1), (.double 0)] (.double 0) := V93.pad (pad_rep [(.double d0), (.double d1)] (.double 0) 1)
    obtain ⟨cl95, Ar95, qr95, S95, M95, Hs95, U95⟩ := Vp95
    obtain ⟨T95, h95, X95, e95, W95, st95⟩ := stD X93 hx hZ e93 Ar95 (j := (2 : Int32)) (inb_of S95 ⟨(by decide), (by decide)⟩) (g := (mkF m 182 #[.val (.int i0), .val (.int i1), .val (.int (3 : Int32)), .val (.int f), .val (.int v0), .val (.int v1), .val (.int v2), .val (.int v3), .val (.double d0), .second, .val (.double d1), .second, .val (.double d2), .second, .val (.double d3), .second, .unset, .unset, .unset, .unset, .unset] [(.double d2), (.int (2 : Int32)), (.ref b89), (.ref b89)])) rfl rfl (hb hby at_182)
    have V95 : Arv Z h95 b89 kA89 .double (3 : Int32) [(.double d0), (.double d1), (.double d2)] (.double 0) := Arv.set Ar95 qr95 S95 M95 Hs95 U95 rfl W95 2 rfl (Nat.le_of_ble_eq_true rfl)
    have c95 : Steps p.tables e below S0 (T95.setTop (mkF m 183 #[.val (.int i0), .val (.int i1), .val (.int (3 : Int32)), .val (.int f), .val (.int v0), .val (.int v1), .val (.int v2), .val (.int v3), .val (.double d0), .second, .val (.double d1), .second, .val (.double d2), .second, .val (.double d3), .second, .unset, .unset, .unset, .unset, .unset] [(.ref b89)])) := by
      refine c94.trans ?_
      show Steps p.tables e below (T93.setTop (mkF m 182 #[.val (.int i0), .val (.int i1), .val (.int (3 : Int32)), .val (.int f), .val (.int v0), .val (.int v1), .val (.int v2), .val (.int v3), .val (.double d0), .second, .val (.double d1), .second, .val (.double d2), .second, .val (.double d3), .second, .unset, .unset, .unset, .unset, .unset] [(.double d2), (.int (2 : Int32)), (.ref b89), (.ref b89)])) _
      refine st95 _ ?_
      exact Steps.refl _
    have Ns2 := Fr.snoc X95 Ns1 gb89
    have Zh := Nat.le_trans Zh (Nat.le_of_eq (own_wsz W95).symm)
    have hk := Nat.le_trans hk (Nat.le_of_eq (own_wsz W95).symm)
    have c96 : Steps p.tables e below S0 (T95.setTop (mkF m 186 #[.val (.int i0), .val (.int i1), .val (.int (3 : Int32)), .val (.int f), .val (.int v0), .val (.int v1), .val (.int v2), .val (.int v3), .val (.double d0), .second, .val (.double d1), .second, .val (.double d2), .second, .val (.double d3), .second, .val (.ref b89), .unset, .unset, .unset, .unset] [(.int (3 : Int32))])) := by
      refine c95.trans ?_
      show Steps p.tables e below (T95.setTop (mkF m 183 #[.val (.int i0), .val (.int i1), .val (.int (3 : Int32)), .val (.int f), .val (.int v0), .val (.int v1), .val (.int v2), .val (.int v3), .val (.double d0), .second, .val (.double d1), .second, .val (.double d2), .second, .val (.double d3), .second, .unset, .unset, .unset, .unset, .unset] [(.ref b89)])) _
      refine XS.astore X95.here hx rfl (hb hby at_183) rfl rfl (l' := #[.val (.int i0), .val (.int i1), .val (.int (3 : Int32)), .val (.int f), .val (.int v0), .val (.int v1), .val (.int v2), .val (.int v3), .val (.double d0), .second, .val (.double d1), .second, .val (.double d2), .second, .val (.double d3), .second, .val (.ref b89), .unset, .unset, .unset, .unset]) rfl ?_
      show Steps p.tables e below (T95.setTop (mkF m 185 #[.val (.int i0), .val (.int i1), .val (.int (3 : Int32)), .val (.int f), .val (.int v0), .val (.int v1), .val (.int v2), .val (.int v3), .val (.double d0), .second, .val (.double d1), .second, .val (.double d2), .second, .val (.double d3), .second, .val (.ref b89), .unset, .unset, .unset, .unset] [])) _
      refine XS.iconst X95.here hx rfl (hb hby at_185) ?_
      exact Steps.refl _
    obtain ⟨T97, h97, kA97, X97, e97, E97, A97, st97⟩ := newP X95 hx hZ (hw _ (List.mem_of_getElem? (i := 6) rfl)) e95 (g := (mkF m 186 #[.val (.int i0), .val (.int i1), .val (.int (3 : Int32)), .val (.int f), .val (.int v0), .val (.int v1), .val (.int v2), .val (.int v3), .val (.double d0), .second, .val (.double d1), .second, .val (.double d2), .second, .val (.double d3), .second, .val (.ref b89), .unset, .unset, .unset, .unset] [(.int (3 : Int32))])) rfl (hb hby at_186) rfl (by decide : ¬ ((3 : Int32) < (0 : Int32))) (cap := 3) (by decide) (by decide) (by decide) (by decide)
    obtain ⟨b97, g97⟩ : ∃ z, z = h95.size := ⟨_, rfl⟩
    rw [← g97] at A97 st97
    have c97 : Steps p.tables e below S0 (T97.setTop (mkF m 188 #[.val (.int i0), .val (.int i1), .val (.int (3 : Int32)), .val (.int f), .val (.int v0), .val (.int v1), .val (.int v2), .val (.int v3), .val (.double d0), .second, .val (.double d1), .second, .val (.double d2), .second, .val (.double d3), .second, .val (.ref b89), .unset, .unset, .unset, .unset] [(.ref b97)])) := by
      refine c96.trans ?_
      show Steps p.tables e below (T95.setTop (mkF m 186 #[.val (.int i0), .val (.int i1), .val (.int (3 : Int32)), .val (.int f), .val (.int v0), .val (.int v1), .val (.int v2), .val (.int v3), .val (.double d0), .second, .val (.double d1), .second, .val (.double d2), .second, .val (.double d3), .second, .val (.ref b89), .unset, .unset, .unset, .unset] [(.int (3 : Int32))])) _
      refine st97 _ ?_
      exact Steps.refl _
    have V97 := Arv.new A97 (by decide)
    have gb97 : n0 ≤ b97 := Nat.le_trans Zh (Nat.le_of_eq g97.symm)
    have Zh := Nat.le_trans Zh E97.1
    have hk := Nat.le_trans hk E97.1
    have c98 : Steps p.tables e below S0 (T97.setTop (mkF m 191 #[.val (.int i0), .val (.int i1), .val (.int (3 : Int32)), .val (.int f), .val (.int v0), .val (.int v1), .val (.int v2), .val (.int v3), .val (.double d0), .second, .val (.double d1), .second, .val (.double d2), .second, .val (.double d3), .second, .val (.ref b89), .unset, .unset, .unset, .unset] [(.int (0 : Int32)), (.int (0 : Int32)), (.ref b97), (.ref b97)])) := by
      refine c97.trans ?_
      show Steps p.tables e below (T97.setTop (mkF m 188 #[.val (.int i0), .val (.int i1), .val (.int (3 : Int32)), .val (.int f), .val (.int v0), .val (.int v1), .val (.int v2), .val (.int v3), .val (.double d0), .second, .val (.double d1), .second, .val (.double d2), .second, .val (.double d3), .second, .val (.ref b89), .unset, .unset, .unset, .unset] [(.ref b97)])) _
      refine XS.dup X97.here hx rfl (hb hby at_188) rfl rfl ?_
      show Steps p.tables e below (T97.setTop (mkF m 189 #[.val (.int i0), .val (.int i1), .val (.int (3 : Int32)), .val (.int f), .val (.int v0), .val (.int v1), .val (.int v2), .val (.int v3), .val (.double d0), .second, .val (.double d1), .second, .val (.double d2), .second, .val (.double d3), .second, .val (.ref b89), .unset, .unset, .unset, .unset] [(.ref b97), (.ref b97)])) _
      refine XS.iconst X97.here hx rfl (hb hby at_189) ?_
      show Steps p.tables e below (T97.setTop (mkF m 190 #[.val (.int i0), .val (.int i1), .val (.int (3 : Int32)), .val (.int f), .val (.int v0), .val (.int v1), .val (.int v2), .val (.int v3), .val (.double d0), .second, .val (.double d1), .second, .val (.double d2), .second, .val (.double d3), .second, .val (.ref b89), .unset, .unset, .unset, .unset] [(.int (0 : Int32)), (.ref b97), (.ref b97)])) _
      refine XS.iconst X97.here hx rfl (hb hby at_190) ?_
      exact Steps.refl _
    have Vp99 : Arv Z _ b97 kA97 .int (3 : Int32) [(.int 0)] (.int 0) := V97.pad (pad_rep [] (.int 0) 1)
    obtain ⟨cl99, Ar99, qr99, S99, M99, Hs99, U99⟩ := Vp99
    obtain ⟨T99, h99, X99, e99, W99, st99⟩ := stI X97 hx hZ e97 Ar99 (j := (0 : Int32)) (inb_of S99 ⟨(by decide), (by decide)⟩) (g := (mkF m 191 #[.val (.int i0), .val (.int i1), .val (.int (3 : Int32)), .val (.int f), .val (.int v0), .val (.int v1), .val (.int v2), .val (.int v3), .val (.double d0), .second, .val (.double d1), .second, .val (.double d2), .second, .val (.double d3), .second, .val (.ref b89), .unset, .unset, .unset, .unset] [(.int (0 : Int32)), (.int (0 : Int32)), (.ref b97), (.ref b97)])) rfl rfl (hb hby at_191)
    have V99 : Arv Z h99 b97 kA97 .int (3 : Int32) [(.int (0 : Int32))] (.int 0) := Arv.set Ar99 qr99 S99 M99 Hs99 U99 rfl W99 0 rfl (Nat.le_of_ble_eq_true rfl)
    have c99 : Steps p.tables e below S0 (T99.setTop (mkF m 192 #[.val (.int i0), .val (.int i1), .val (.int (3 : Int32)), .val (.int f), .val (.int v0), .val (.int v1), .val (.int v2), .val (.int v3), .val (.double d0), .second, .val (.double d1), .second, .val (.double d2), .second, .val (.double d3), .second, .val (.ref b89), .unset, .unset, .unset, .unset] [(.ref b97)])) := by
      refine c98.trans ?_
      show Steps p.tables e below (T97.setTop (mkF m 191 #[.val (.int i0), .val (.int i1), .val (.int (3 : Int32)), .val (.int f), .val (.int v0), .val (.int v1), .val (.int v2), .val (.int v3), .val (.double d0), .second, .val (.double d1), .second, .val (.double d2), .second, .val (.double d3), .second, .val (.ref b89), .unset, .unset, .unset, .unset] [(.int (0 : Int32)), (.int (0 : Int32)), (.ref b97), (.ref b97)])) _
      refine st99 _ ?_
      exact Steps.refl _
    have Nd0 := Fr.snoc X99 Ns2 gb97
    have Zh := Nat.le_trans Zh (Nat.le_of_eq (own_wsz W99).symm)
    have hk := Nat.le_trans hk (Nat.le_of_eq (own_wsz W99).symm)
    have c100 : Steps p.tables e below S0 (T99.setTop (mkF m 195 #[.val (.int i0), .val (.int i1), .val (.int (3 : Int32)), .val (.int f), .val (.int v0), .val (.int v1), .val (.int v2), .val (.int v3), .val (.double d0), .second, .val (.double d1), .second, .val (.double d2), .second, .val (.double d3), .second, .val (.ref b89), .unset, .unset, .unset, .unset] [(.int (1 : Int32)), (.int (1 : Int32)), (.ref b97), (.ref b97)])) := by
      refine c99.trans ?_
      show Steps p.tables e below (T99.setTop (mkF m 192 #[.val (.int i0), .val (.int i1), .val (.int (3 : Int32)), .val (.int f), .val (.int v0), .val (.int v1), .val (.int v2), .val (.int v3), .val (.double d0), .second, .val (.double d1), .second, .val (.double d2), .second, .val (.double d3), .second, .val (.ref b89), .unset, .unset, .unset, .unset] [(.ref b97)])) _
      refine XS.dup X99.here hx rfl (hb hby at_192) rfl rfl ?_
      show Steps p.tables e below (T99.setTop (mkF m 193 #[.val (.int i0), .val (.int i1), .val (.int (3 : Int32)), .val (.int f), .val (.int v0), .val (.int v1), .val (.int v2), .val (.int v3), .val (.double d0), .second, .val (.double d1), .second, .val (.double d2), .second, .val (.double d3), .second, .val (.ref b89), .unset, .unset, .unset, .unset] [(.ref b97), (.ref b97)])) _
      refine XS.iconst X99.here hx rfl (hb hby at_193) ?_
      show Steps p.tables e below (T99.setTop (mkF m 194 #[.val (.int i0), .val (.int i1), .val (.int (3 : Int32)), .val (.int f), .val (.int v0), .val (.int v1), .val (.int v2), .val (.int v3), .val (.double d0), .second, .val (.double d1), .second, .val (.double d2), .second, .val (.double d3), .second, .val (.ref b89), .unset, .unset, .unset, .unset] [(.int (1 : Int32)), (.ref b97), (.ref b97)])) _
      refine XS.iconst X99.here hx rfl (hb hby at_194) ?_
      exact Steps.refl _
    have Vp101 : Arv Z _ b97 kA97 .int (3 : Int32) [(.int (0 : Int32)), (.int 0)] (.int 0) := V99.pad (pad_rep [(.int (0 : Int32))] (.int 0) 1)
    obtain ⟨cl101, Ar101, qr101, S101, M101, Hs101, U101⟩ := Vp101
    obtain ⟨T101, h101, X101, e101, W101, st101⟩ := stI X99 hx hZ e99 Ar101 (j := (1 : Int32)) (inb_of S101 ⟨(by decide), (by decide)⟩) (g := (mkF m 195 #[.val (.int i0), .val (.int i1), .val (.int (3 : Int32)), .val (.int f), .val (.int v0), .val (.int v1), .val (.int v2), .val (.int v3), .val (.double d0), .second, .val (.double d1), .second, .val (.double d2), .second, .val (.double d3), .second, .val (.ref b89), .unset, .unset, .unset, .unset] [(.int (1 : Int32)), (.int (1 : Int32)), (.ref b97), (.ref b97)])) rfl rfl (hb hby at_195)
    have V101 : Arv Z h101 b97 kA97 .int (3 : Int32) [(.int (0 : Int32)), (.int (1 : Int32))] (.int 0) := Arv.set Ar101 qr101 S101 M101 Hs101 U101 rfl W101 1 rfl (Nat.le_of_ble_eq_true rfl)
    have c101 : Steps p.tables e below S0 (T101.setTop (mkF m 196 #[.val (.int i0), .val (.int i1), .val (.int (3 : Int32)), .val (.int f), .val (.int v0), .val (.int v1), .val (.int v2), .val (.int v3), .val (.double d0), .second, .val (.double d1), .second, .val (.double d2), .second, .val (.double d3), .second, .val (.ref b89), .unset, .unset, .unset, .unset] [(.ref b97)])) := by
      refine c100.trans ?_
      show Steps p.tables e below (T99.setTop (mkF m 195 #[.val (.int i0), .val (.int i1), .val (.int (3 : Int32)), .val (.int f), .val (.int v0), .val (.int v1), .val (.int v2), .val (.int v3), .val (.double d0), .second, .val (.double d1), .second, .val (.double d2), .second, .val (.double d3), .second, .val (.ref b89), .unset, .unset, .unset, .unset] [(.int (1 : Int32)), (.int (1 : Int32)), (.ref b97), (.ref b97)])) _
      refine st101 _ ?_
      exact Steps.refl _
    have Nd1 := Fr.snoc X101 Nd0 gb97
    have Zh := Nat.le_trans Zh (Nat.le_of_eq (own_wsz W101).symm)
    have hk := Nat.le_trans hk (Nat.le_of_eq (own_wsz W101).symm)
    have c102 : Steps p.tables e below S0 (T101.setTop (mkF m 199 #[.val (.int i0), .val (.int i1), .val (.int (3 : Int32)), .val (.int f), .val (.int v0), .val (.int v1), .val (.int v2), .val (.int v3), .val (.double d0), .second, .val (.double d1), .second, .val (.double d2), .second, .val (.double d3), .second, .val (.ref b89), .unset, .unset, .unset, .unset] [(.int (2 : Int32)), (.int (2 : Int32)), (.ref b97), (.ref b97)])) := by
      refine c101.trans ?_
      show Steps p.tables e below (T101.setTop (mkF m 196 #[.val (.int i0), .val (.int i1), .val (.int (3 : Int32)), .val (.int f), .val (.int v0), .val (.int v1), .val (.int v2), .val (.int v3), .val (.double d0), .second, .val (.double d1), .second, .val (.double d2), .second, .val (.double d3), .second, .val (.ref b89), .unset, .unset, .unset, .unset] [(.ref b97)])) _
      refine XS.dup X101.here hx rfl (hb hby at_196) rfl rfl ?_
      show Steps p.tables e below (T101.setTop (mkF m 197 #[.val (.int i0), .val (.int i1), .val (.int (3 : Int32)), .val (.int f), .val (.int v0), .val (.int v1), .val (.int v2), .val (.int v3), .val (.double d0), .second, .val (.double d1), .second, .val (.double d2), .second, .val (.double d3), .second, .val (.ref b89), .unset, .unset, .unset, .unset] [(.ref b97), (.ref b97)])) _
      refine XS.iconst X101.here hx rfl (hb hby at_197) ?_
      show Steps p.tables e below (T101.setTop (mkF m 198 #[.val (.int i0), .val (.int i1), .val (.int (3 : Int32)), .val (.int f), .val (.int v0), .val (.int v1), .val (.int v2), .val (.int v3), .val (.double d0), .second, .val (.double d1), .second, .val (.double d2), .second, .val (.double d3), .second, .val (.ref b89), .unset, .unset, .unset, .unset] [(.int (2 : Int32)), (.ref b97), (.ref b97)])) _
      refine XS.iconst X101.here hx rfl (hb hby at_198) ?_
      exact Steps.refl _
    have Vp103 : Arv Z _ b97 kA97 .int (3 : Int32) [(.int (0 : Int32)), (.int (1 : Int32)), (.int 0)] (.int 0) := V101.pad (pad_rep [(.int (0 : Int32)), (.int (1 : Int32))] (.int 0) 1)
    obtain ⟨cl103, Ar103, qr103, S103, M103, Hs103, U103⟩ := Vp103
    obtain ⟨T103, h103, X103, e103, W103, st103⟩ := stI X101 hx hZ e101 Ar103 (j := (2 : Int32)) (inb_of S103 ⟨(by decide), (by decide)⟩) (g := (mkF m 199 #[.val (.int i0), .val (.int i1), .val (.int (3 : Int32)), .val (.int f), .val (.int v0), .val (.int v1), .val (.int v2), .val (.int v3), .val (.double d0), .second, .val (.double d1), .second, .val (.double d2), .second, .val (.double d3), .second, .val (.ref b89), .unset, .unset, .unset, .unset] [(.int (2 : Int32)), (.int (2 : Int32)), (.ref b97), (.ref b97)])) rfl rfl (hb hby at_199)
    have V103 : Arv Z h103 b97 kA97 .int (3 : Int32) [(.int (0 : Int32)), (.int (1 : Int32)), (.int (2 : Int32))] (.int 0) := Arv.set Ar103 qr103 S103 M103 Hs103 U103 rfl W103 2 rfl (Nat.le_of_ble_eq_true rfl)
    have c103 : Steps p.tables e below S0 (T103.setTop (mkF m 200 #[.val (.int i0), .val (.int i1), .val (.int (3 : Int32)), .val (.int f), .val (.int v0), .val (.int v1), .val (.int v2), .val (.int v3), .val (.double d0), .second, .val (.double d1), .second, .val (.double d2), .second, .val (.double d3), .second, .val (.ref b89), .unset, .unset, .unset, .unset] [(.ref b97)])) := by
      refine c102.trans ?_
      show Steps p.tables e below (T101.setTop (mkF m 199 #[.val (.int i0), .val (.int i1), .val (.int (3 : Int32)), .val (.int f), .val (.int v0), .val (.int v1), .val (.int v2), .val (.int v3), .val (.double d0), .second, .val (.double d1), .second, .val (.double d2), .second, .val (.double d3), .second, .val (.ref b89), .unset, .unset, .unset, .unset] [(.int (2 : Int32)), (.int (2 : Int32)), (.ref b97), (.ref b97)])) _
      refine st103 _ ?_
      exact Steps.refl _
    have Nd2 := Fr.snoc X103 Nd1 gb97
    have Zh := Nat.le_trans Zh (Nat.le_of_eq (own_wsz W103).symm)
    have hk := Nat.le_trans hk (Nat.le_of_eq (own_wsz W103).symm)
    have c104 : Steps p.tables e below S0 (T103.setTop (mkF m 251 #[.val (.int i0), .val (.int i1), .val (.int (3 : Int32)), .val (.int f), .val (.int v0), .val (.int v1), .val (.int v2), .val (.int v3), .val (.double d0), .second, .val (.double d1), .second, .val (.double d2), .second, .val (.double d3), .second, .val (.ref b89), .val (.ref b97), .unset, .unset, .unset] [])) := by
      refine c103.trans ?_
      show Steps p.tables e below (T103.setTop (mkF m 200 #[.val (.int i0), .val (.int i1), .val (.int (3 : Int32)), .val (.int f), .val (.int v0), .val (.int v1), .val (.int v2), .val (.int v3), .val (.double d0), .second, .val (.double d1), .second, .val (.double d2), .second, .val (.double d3), .second, .val (.ref b89), .unset, .unset, .unset, .unset] [(.ref b97)])) _
      refine XS.astore X103.here hx rfl (hb hby at_200) rfl rfl (l' := #[.val (.int i0), .val (.int i1), .val (.int (3 : Int32)), .val (.int f), .val (.int v0), .val (.int v1), .val (.int v2), .val (.int v3), .val (.double d0), .second, .val (.double d1), .second, .val (.double d2), .second, .val (.double d3), .second, .val (.ref b89), .val (.ref b97), .unset, .unset, .unset]) rfl ?_
      show Steps p.tables e below (T103.setTop (mkF m 202 #[.val (.int i0), .val (.int i1), .val (.int (3 : Int32)), .val (.int f), .val (.int v0), .val (.int v1), .val (.int v2), .val (.int v3), .val (.double d0), .second, .val (.double d1), .second, .val (.double d2), .second, .val (.double d3), .second, .val (.ref b89), .val (.ref b97), .unset, .unset, .unset] [])) _
      refine XS.goto X103.here hx rfl (pc0 := 202) (pc' := 251) rfl (hb hby at_202) (by decide) (by decide) ?_
      exact Steps.refl _
    have c105 : Steps p.tables e below S0 (T103.setTop (mkF m 252 #[.val (.int i0), .val (.int i1), .val (.int (3 : Int32)), .val (.int f), .val (.int v0), .val (.int v1), .val (.int v2), .val (.int v3), .val (.double d0), .second, .val (.double d1), .second, .val (.double d2), .second, .val (.double d3), .second, .val (.ref b89), .val (.ref b97), .unset, .unset, .unset] [(.int (4 : Int32))])) := by
      refine c104.trans ?_
      show Steps p.tables e below (T103.setTop (mkF m 251 #[.val (.int i0), .val (.int i1), .val (.int (3 : Int32)), .val (.int f), .val (.int v0), .val (.int v1), .val (.int v2), .val (.int v3), .val (.double d0), .second, .val (.double d1), .second, .val (.double d2), .second, .val (.double d3), .second, .val (.ref b89), .val (.ref b97), .unset, .unset, .unset] [])) _
      refine XS.iconst X103.here hx rfl (hb hby at_251) ?_
      exact Steps.refl _
    obtain ⟨T106, h106, kA106, X106, e106, E106, A106, st106⟩ := newP X103 hx hZ (hw _ (List.mem_of_getElem? (i := 6) rfl)) e103 (g := (mkF m 252 #[.val (.int i0), .val (.int i1), .val (.int (3 : Int32)), .val (.int f), .val (.int v0), .val (.int v1), .val (.int v2), .val (.int v3), .val (.double d0), .second, .val (.double d1), .second, .val (.double d2), .second, .val (.double d3), .second, .val (.ref b89), .val (.ref b97), .unset, .unset, .unset] [(.int (4 : Int32))])) rfl (hb hby at_252) rfl (by decide : ¬ ((4 : Int32) < (0 : Int32))) (cap := 4) (by decide) (by decide) (by decide) (by decide)
    obtain ⟨b106, g106⟩ : ∃ z, z = h103.size := ⟨_, rfl⟩
    rw [← g106] at A106 st106
    have c106 : Steps p.tables e below S0 (T106.setTop (mkF m 254 #[.val (.int i0), .val (.int i1), .val (.int (3 : Int32)), .val (.int f), .val (.int v0), .val (.int v1), .val (.int v2), .val (.int v3), .val (.double d0), .second, .val (.double d1), .second, .val (.double d2), .second, .val (.double d3), .second, .val (.ref b89), .val (.ref b97), .unset, .unset, .unset] [(.ref b106)])) := by
      refine c105.trans ?_
      show Steps p.tables e below (T103.setTop (mkF m 252 #[.val (.int i0), .val (.int i1), .val (.int (3 : Int32)), .val (.int f), .val (.int v0), .val (.int v1), .val (.int v2), .val (.int v3), .val (.double d0), .second, .val (.double d1), .second, .val (.double d2), .second, .val (.double d3), .second, .val (.ref b89), .val (.ref b97), .unset, .unset, .unset] [(.int (4 : Int32))])) _
      refine st106 _ ?_
      exact Steps.refl _
    have V106 := Arv.new A106 (by decide)
    have gb106 : n0 ≤ b106 := Nat.le_trans Zh (Nat.le_of_eq g106.symm)
    have Zh := Nat.le_trans Zh E106.1
    have hk := Nat.le_trans hk E106.1
    have c107 : Steps p.tables e below S0 (T106.setTop (mkF m 258 #[.val (.int i0), .val (.int i1), .val (.int (3 : Int32)), .val (.int f), .val (.int v0), .val (.int v1), .val (.int v2), .val (.int v3), .val (.double d0), .second, .val (.double d1), .second, .val (.double d2), .second, .val (.double d3), .second, .val (.ref b89), .val (.ref b97), .unset, .unset, .unset] [(.int v0), (.int (0 : Int32)), (.ref b106), (.ref b106)])) := by
      refine c106.trans ?_
      show Steps p.tables e below (T106.setTop (mkF m 254 #[.val (.int i0), .val (.int i1), .val (.int (3 : Int32)), .val (.int f), .val (.int v0), .val (.int v1), .val (.int v2), .val (.int v3), .val (.double d0), .second, .val (.double d1), .second, .val (.double d2), .second, .val (.double d3), .second, .val (.ref b89), .val (.ref b97), .unset, .unset, .unset] [(.ref b106)])) _
      refine XS.dup X106.here hx rfl (hb hby at_254) rfl rfl ?_
      show Steps p.tables e below (T106.setTop (mkF m 255 #[.val (.int i0), .val (.int i1), .val (.int (3 : Int32)), .val (.int f), .val (.int v0), .val (.int v1), .val (.int v2), .val (.int v3), .val (.double d0), .second, .val (.double d1), .second, .val (.double d2), .second, .val (.double d3), .second, .val (.ref b89), .val (.ref b97), .unset, .unset, .unset] [(.ref b106), (.ref b106)])) _
      refine XS.iconst X106.here hx rfl (hb hby at_255) ?_
      show Steps p.tables e below (T106.setTop (mkF m 256 #[.val (.int i0), .val (.int i1), .val (.int (3 : Int32)), .val (.int f), .val (.int v0), .val (.int v1), .val (.int v2), .val (.int v3), .val (.double d0), .second, .val (.double d1), .second, .val (.double d2), .second, .val (.double d3), .second, .val (.ref b89), .val (.ref b97), .unset, .unset, .unset] [(.int (0 : Int32)), (.ref b106), (.ref b106)])) _
      refine XS.iload X106.here hx rfl (hb hby at_256) rfl ?_
      exact Steps.refl _
    have Vp108 : Arv Z _ b106 kA106 .int (4 : Int32) [(.int 0)] (.int 0) := V106.pad (pad_rep [] (.int 0) 1)
    obtain ⟨cl108, Ar108, qr108, S108, M108, Hs108, U108⟩ := Vp108
    obtain ⟨T108, h108, X108, e108, W108, st108⟩ := stI X106 hx hZ e106 Ar108 (j := (0 : Int32)) (inb_of S108 ⟨(by decide), (by decide)⟩) (g := (mkF m 258 #[.val (.int i0), .val (.int i1), .val (.int (3 : Int32)), .val (.int f), .val (.int v0), .val (.int v1), .val (.int v2), .val (.int v3), .val (.double d0), .second, .val (.double d1), .second, .val (.double d2), .second, .val (.double d3), .second, .val (.ref b89), .val (.ref b97), .unset, .unset, .unset] [(.int v0), (.int (0 : Int32)), (.ref b106), (.ref b106)])) rfl rfl (hb hby at_258)
    have V108 : Arv Z h108 b106 kA106 .int (4 : Int32) [(.int v0)] (.int 0) := Arv.set Ar108 qr108 S108 M108 Hs108 U108 rfl W108 0 rfl (Nat.le_of_ble_eq_true rfl)
    have c108 : Steps p.tables e below S0 (T108.setTop (mkF m 259 #[.val (.int i0), .val (.int i1), .val (.int (3 : Int32)), .val (.int f), .val (.int v0), .val (.int v1), .val (.int v2), .val (.int v3), .val (.double d0), .second, .val (.double d1), .second, .val (.double d2), .second, .val (.double d3), .second, .val (.ref b89), .val (.ref b97), .unset, .unset, .unset] [(.ref b106)])) := by
      refine c107.trans ?_
      show Steps p.tables e below (T106.setTop (mkF m 258 #[.val (.int i0), .val (.int i1), .val (.int (3 : Int32)), .val (.int f), .val (.int v0), .val (.int v1), .val (.int v2), .val (.int v3), .val (.double d0), .second, .val (.double d1), .second, .val (.double d2), .second, .val (.double d3), .second, .val (.ref b89), .val (.ref b97), .unset, .unset, .unset] [(.int v0), (.int (0 : Int32)), (.ref b106), (.ref b106)])) _
      refine st108 _ ?_
      exact Steps.refl _
    have Nv0 := Fr.snoc X108 Nd2 gb106
    have Zh := Nat.le_trans Zh (Nat.le_of_eq (own_wsz W108).symm)
    have hk := Nat.le_trans hk (Nat.le_of_eq (own_wsz W108).symm)
    have c109 : Steps p.tables e below S0 (T108.setTop (mkF m 263 #[.val (.int i0), .val (.int i1), .val (.int (3 : Int32)), .val (.int f), .val (.int v0), .val (.int v1), .val (.int v2), .val (.int v3), .val (.double d0), .second, .val (.double d1), .second, .val (.double d2), .second, .val (.double d3), .second, .val (.ref b89), .val (.ref b97), .unset, .unset, .unset] [(.int v1), (.int (1 : Int32)), (.ref b106), (.ref b106)])) := by
      refine c108.trans ?_
      show Steps p.tables e below (T108.setTop (mkF m 259 #[.val (.int i0), .val (.int i1), .val (.int (3 : Int32)), .val (.int f), .val (.int v0), .val (.int v1), .val (.int v2), .val (.int v3), .val (.double d0), .second, .val (.double d1), .second, .val (.double d2), .second, .val (.double d3), .second, .val (.ref b89), .val (.ref b97), .unset, .unset, .unset] [(.ref b106)])) _
      refine XS.dup X108.here hx rfl (hb hby at_259) rfl rfl ?_
      show Steps p.tables e below (T108.setTop (mkF m 260 #[.val (.int i0), .val (.int i1), .val (.int (3 : Int32)), .val (.int f), .val (.int v0), .val (.int v1), .val (.int v2), .val (.int v3), .val (.double d0), .second, .val (.double d1), .second, .val (.double d2), .second, .val (.double d3), .second, .val (.ref b89), .val (.ref b97), .unset, .unset, .unset] [(.ref b106), (.ref b106)])) _
      refine XS.iconst X108.here hx rfl (hb hby at_260) ?_
      show Steps p.tables e below (T108.setTop (mkF m 261 #[.val (.int i0), .val (.int i1), .val (.int (3 : Int32)), .val (.int f), .val (.int v0), .val (.int v1), .val (.int v2), .val (.int v3), .val (.double d0), .second, .val (.double d1), .second, .val (.double d2), .second, .val (.double d3), .second, .val (.ref b89), .val (.ref b97), .unset, .unset, .unset] [(.int (1 : Int32)), (.ref b106), (.ref b106)])) _
      refine XS.iload X108.here hx rfl (hb hby at_261) rfl ?_
      exact Steps.refl _
    have Vp110 : Arv Z _ b106 kA106 .int (4 : Int32) [(.int v0), (.int 0)] (.int 0) := V108.pad (pad_rep [(.int v0)] (.int 0) 1)
    obtain ⟨cl110, Ar110, qr110, S110, M110, Hs110, U110⟩ := Vp110
    obtain ⟨T110, h110, X110, e110, W110, st110⟩ := stI X108 hx hZ e108 Ar110 (j := (1 : Int32)) (inb_of S110 ⟨(by decide), (by decide)⟩) (g := (mkF m 263 #[.val (.int i0), .val (.int i1), .val (.int (3 : Int32)), .val (.int f), .val (.int v0), .val (.int v1), .val (.int v2), .val (.int v3), .val (.double d0), .second, .val (.double d1), .second, .val (.double d2), .second, .val (.double d3), .second, .val (.ref b89), .val (.ref b97), .unset, .unset, .unset] [(.int v1), (.int (1 : Int32)), (.ref b106), (.ref b106)])) rfl rfl (hb hby at_263)
    have V110 : Arv Z h110 b106 kA106 .int (4 : Int32) [(.int v0), (.int v1)] (.int 0) := Arv.set Ar110 qr110 S110 M110 Hs110 U110 rfl W110 1 rfl (Nat.le_of_ble_eq_true rfl)
    have c110 : Steps p.tables e below S0 (T110.setTop (mkF m 264 #[.val (.int i0), .val (.int i1), .val (.int (3 : Int32)), .val (.int f), .val (.int v0), .val (.int v1), .val (.int v2), .val (.int v3), .val (.double d0), .second, .val (.double d1), .second, .val (.double d2), .second, .val (.double d3), .second, .val (.ref b89), .val (.ref b97), .unset, .unset, .unset] [(.ref b106)])) := by
      refine c109.trans ?_
      show Steps p.tables e below (T108.setTop (mkF m 263 #[.val (.int i0), .val (.int i1), .val (.int (3 : Int32)), .val (.int f), .val (.int v0), .val (.int v1), .val (.int v2), .val (.int v3), .val (.double d0), .second, .val (.double d1), .second, .val (.double d2), .second, .val (.double d3), .second, .val (.ref b89), .val (.ref b97), .unset, .unset, .unset] [(.int v1), (.int (1 : Int32)), (.ref b106), (.ref b106)])) _
      refine st110 _ ?_
      exact Steps.refl _
    have Nv1 := Fr.snoc X110 Nv0 gb106
    have Zh := Nat.le_trans Zh (Nat.le_of_eq (own_wsz W110).symm)
    have hk := Nat.le_trans hk (Nat.le_of_eq (own_wsz W110).symm)
    have c111 : Steps p.tables e below S0 (T110.setTop (mkF m 268 #[.val (.int i0), .val (.int i1), .val (.int (3 : Int32)), .val (.int f), .val (.int v0), .val (.int v1), .val (.int v2), .val (.int v3), .val (.double d0), .second, .val (.double d1), .second, .val (.double d2), .second, .val (.double d3), .second, .val (.ref b89), .val (.ref b97), .unset, .unset, .unset] [(.int v2), (.int (2 : Int32)), (.ref b106), (.ref b106)])) := by
      refine c110.trans ?_
      show Steps p.tables e below (T110.setTop (mkF m 264 #[.val (.int i0), .val (.int i1), .val (.int (3 : Int32)), .val (.int f), .val (.int v0), .val (.int v1), .val (.int v2), .val (.int v3), .val (.double d0), .second, .val (.double d1), .second, .val (.double d2), .second, .val (.double d3), .second, .val (.ref b89), .val (.ref b97), .unset, .unset, .unset] [(.ref b106)])) _
      refine XS.dup X110.here hx rfl (hb hby at_264) rfl rfl ?_
      show Steps p.tables e below (T110.setTop (mkF m 265 #[.val (.int i0), .val (.int i1), .val (.int (3 : Int32)), .val (.int f), .val (.int v0), .val (.int v1), .val (.int v2), .val (.int v3), .val (.double d0), .second, .val (.double d1), .second, .val (.double d2), .second, .val (.double d3), .second, .val (.ref b89), .val (.ref b97), .unset, .unset, .unset] [(.ref b106), (.ref b106)])) _
      refine XS.iconst X110.here hx rfl (hb hby at_265) ?_
      show Steps p.tables e below (T110.setTop (mkF m 266 #[.val (.int i0), .val (.int i1), .val (.int (3 : Int32)), .val (.int f), .val (.int v0), .val (.int v1), .val (.int v2), .val (.int v3), .val (.double d0), .second, .val (.double d1), .second, .val (.double d2), .second, .val (.double d3), .second, .val (.ref b89), .val (.ref b97), .unset, .unset, .unset] [(.int (2 : Int32)), (.ref b106), (.ref b106)])) _
      refine XS.iload X110.here hx rfl (hb hby at_266) rfl ?_
      exact Steps.refl _
    have Vp112 : Arv Z _ b106 kA106 .int (4 : Int32) [(.int v0), (.int v1), (.int 0)] (.int 0) := V110.pad (pad_rep [(.int v0), (.int v1)] (.int 0) 1)
    obtain ⟨cl112, Ar112, qr112, S112, M112, Hs112, U112⟩ := Vp112
    obtain ⟨T112, h112, X112, e112, W112, st112⟩ := stI X110 hx hZ e110 Ar112 (j := (2 : Int32)) (inb_of S112 ⟨(by decide), (by decide)⟩) (g := (mkF m 268 #[.val (.int i0), .val (.int i1), .val (.int (3 : Int32)), .val (.int f), .val (.int v0), .val (.int v1), .val (.int v2), .val (.int v3), .val (.double d0), .second, .val (.double d1), .second, .val (.double d2), .second, .val (.double d3), .second, .val (.ref b89), .val (.ref b97), .unset, .unset, .unset] [(.int v2), (.int (2 : Int32)), (.ref b106), (.ref b106)])) rfl rfl (hb hby at_268)
    have V112 : Arv Z h112 b106 kA106 .int (4 : Int32) [(.int v0), (.int v1), (.int v2)] (.int 0) := Arv.set Ar112 qr112 S112 M112 Hs112 U112 rfl W112 2 rfl (Nat.le_of_ble_eq_true rfl)
    have c112 : Steps p.tables e below S0 (T112.setTop (mkF m 269 #[.val (.int i0), .val (.int i1), .val (.int (3 : Int32)), .val (.int f), .val (.int v0), .val (.int v1), .val (.int v2), .val (.int v3), .val (.double d0), .second, .val (.double d1), .second, .val (.double d2), .second, .val (.double d3), .second, .val (.ref b89), .val (.ref b97), .unset, .unset, .unset] [(.ref b106)])) := by
      refine c111.trans ?_
      show Steps p.tables e below (T110.setTop (mkF m 268 #[.val (.int i0), .val (.int i1), .val (.int (3 : Int32)), .val (.int f), .val (.int v0), .val (.int v1), .val (.int v2), .val (.int v3), .val (.double d0), .second, .val (.double d1), .second, .val (.double d2), .second, .val (.double d3), .second, .val (.ref b89), .val (.ref b97), .unset, .unset, .unset] [(.int v2), (.int (2 : Int32)), (.ref b106), (.ref b106)])) _
      refine st112 _ ?_
      exact Steps.refl _
    have Nv2 := Fr.snoc X112 Nv1 gb106
    have Zh := Nat.le_trans Zh (Nat.le_of_eq (own_wsz W112).symm)
    have hk := Nat.le_trans hk (Nat.le_of_eq (own_wsz W112).symm)
    have c113 : Steps p.tables e below S0 (T112.setTop (mkF m 273 #[.val (.int i0), .val (.int i1), .val (.int (3 : Int32)), .val (.int f), .val (.int v0), .val (.int v1), .val (.int v2), .val (.int v3), .val (.double d0), .second, .val (.double d1), .second, .val (.double d2), .second, .val (.double d3), .second, .val (.ref b89), .val (.ref b97), .unset, .unset, .unset] [(.int v3), (.int (3 : Int32)), (.ref b106), (.ref b106)])) := by
      refine c112.trans ?_
      show Steps p.tables e below (T112.setTop (mkF m 269 #[.val (.int i0), .val (.int i1), .val (.int (3 : Int32)), .val (.int f), .val (.int v0), .val (.int v1), .val (.int v2), .val (.int v3), .val (.double d0), .second, .val (.double d1), .second, .val (.double d2), .second, .val (.double d3), .second, .val (.ref b89), .val (.ref b97), .unset, .unset, .unset] [(.ref b106)])) _
      refine XS.dup X112.here hx rfl (hb hby at_269) rfl rfl ?_
      show Steps p.tables e below (T112.setTop (mkF m 270 #[.val (.int i0), .val (.int i1), .val (.int (3 : Int32)), .val (.int f), .val (.int v0), .val (.int v1), .val (.int v2), .val (.int v3), .val (.double d0), .second, .val (.double d1), .second, .val (.double d2), .second, .val (.double d3), .second, .val (.ref b89), .val (.ref b97), .unset, .unset, .unset] [(.ref b106), (.ref b106)])) _
      refine XS.iconst X112.here hx rfl (hb hby at_270) ?_
      show Steps p.tables e below (T112.setTop (mkF m 271 #[.val (.int i0), .val (.int i1), .val (.int (3 : Int32)), .val (.int f), .val (.int v0), .val (.int v1), .val (.int v2), .val (.int v3), .val (.double d0), .second, .val (.double d1), .second, .val (.double d2), .second, .val (.double d3), .second, .val (.ref b89), .val (.ref b97), .unset, .unset, .unset] [(.int (3 : Int32)), (.ref b106), (.ref b106)])) _
      refine XS.iload X112.here hx rfl (hb hby at_271) rfl ?_
      exact Steps.refl _
    have Vp114 : Arv Z _ b106 kA106 .int (4 : Int32) [(.int v0), (.int v1), (.int v2), (.int 0)] (.int 0) := V112.pad (pad_rep [(.int v0), (.int v1), (.int v2)] (.int 0) 1)
    obtain ⟨cl114, Ar114, qr114, S114, M114, Hs114, U114⟩ := Vp114
    obtain ⟨T114, h114, X114, e114, W114, st114⟩ := stI X112 hx hZ e112 Ar114 (j := (3 : Int32)) (inb_of S114 ⟨(by decide), (by decide)⟩) (g := (mkF m 273 #[.val (.int i0), .val (.int i1), .val (.int (3 : Int32)), .val (.int f), .val (.int v0), .val (.int v1), .val (.int v2), .val (.int v3), .val (.double d0), .second, .val (.double d1), .second, .val (.double d2), .second, .val (.double d3), .second, .val (.ref b89), .val (.ref b97), .unset, .unset, .unset] [(.int v3), (.int (3 : Int32)), (.ref b106), (.ref b106)])) rfl rfl (hb hby at_273)
    have V114 : Arv Z h114 b106 kA106 .int (4 : Int32) [(.int v0), (.int v1), (.int v2), (.int v3)] (.int 0) := Arv.set Ar114 qr114 S114 M114 Hs114 U114 rfl W114 3 rfl (Nat.le_of_ble_eq_true rfl)
    have c114 : Steps p.tables e below S0 (T114.setTop (mkF m 274 #[.val (.int i0), .val (.int i1), .val (.int (3 : Int32)), .val (.int f), .val (.int v0), .val (.int v1), .val (.int v2), .val (.int v3), .val (.double d0), .second, .val (.double d1), .second, .val (.double d2), .second, .val (.double d3), .second, .val (.ref b89), .val (.ref b97), .unset, .unset, .unset] [(.ref b106)])) := by
      refine c113.trans ?_
      show Steps p.tables e below (T112.setTop (mkF m 273 #[.val (.int i0), .val (.int i1), .val (.int (3 : Int32)), .val (.int f), .val (.int v0), .val (.int v1), .val (.int v2), .val (.int v3), .val (.double d0), .second, .val (.double d1), .second, .val (.double d2), .second, .val (.double d3), .second, .val (.ref b89), .val (.ref b97), .unset, .unset, .unset] [(.int v3), (.int (3 : Int32)), (.ref b106), (.ref b106)])) _
      refine st114 _ ?_
      exact Steps.refl _
    have Nv3 := Fr.snoc X114 Nv2 gb106
    have Zh := Nat.le_trans Zh (Nat.le_of_eq (own_wsz W114).symm)
    have hk := Nat.le_trans hk (Nat.le_of_eq (own_wsz W114).symm)
    have Vs := (((((((((V95.ext E97).other W99 (Nat.ne_of_lt (Nat.lt_of_lt_of_le V95.lt (Nat.le_of_eq g97.symm)))).other W101 (Nat.ne_of_lt (Nat.lt_of_lt_of_le V95.lt (Nat.le_of_eq g97.symm)))).other W103 (Nat.ne_of_lt (Nat.lt_of_lt_of_le V95.lt (Nat.le_of_eq g97.symm)))).ext E106).other W108 (Nat.ne_of_lt (Nat.lt_of_lt_of_le ((((V95.ext E97).other W99 (Nat.ne_of_lt (Nat.lt_of_lt_of_le V95.lt (Nat.le_of_eq g97.symm)))).other W101 (Nat.ne_of_lt (Nat.lt_of_lt_of_le V95.lt (Nat.le_of_eq g97.symm)))).other W103 (Nat.ne_of_lt (Nat.lt_of_lt_of_le V95.lt (Nat.le_of_eq g97.symm)))).lt (Nat.le_of_eq g106.symm)))).other W110 (Nat.ne_of_lt (Nat.lt_of_lt_of_le ((((V95.ext E97).other W99 (Nat.ne_of_lt (Nat.lt_of_lt_of_le V95.lt (Nat.le_of_eq g97.symm)))).other W101 (Nat.ne_of_lt (Nat.lt_of_lt_of_le V95.lt (Nat.le_of_eq g97.symm)))).other W103 (Nat.ne_of_lt (Nat.lt_of_lt_of_le V95.lt (Nat.le_of_eq g97.symm)))).lt (Nat.le_of_eq g106.symm)))).other W112 (Nat.ne_of_lt (Nat.lt_of_lt_of_le ((((V95.ext E97).other W99 (Nat.ne_of_lt (Nat.lt_of_lt_of_le V95.lt (Nat.le_of_eq g97.symm)))).other W101 (Nat.ne_of_lt (Nat.lt_of_lt_of_le V95.lt (Nat.le_of_eq g97.symm)))).other W103 (Nat.ne_of_lt (Nat.lt_of_lt_of_le V95.lt (Nat.le_of_eq g97.symm)))).lt (Nat.le_of_eq g106.symm)))).other W114 (Nat.ne_of_lt (Nat.lt_of_lt_of_le ((((V95.ext E97).other W99 (Nat.ne_of_lt (Nat.lt_of_lt_of_le V95.lt (Nat.le_of_eq g97.symm)))).other W101 (Nat.ne_of_lt (Nat.lt_of_lt_of_le V95.lt (Nat.le_of_eq g97.symm)))).other W103 (Nat.ne_of_lt (Nat.lt_of_lt_of_le V95.lt (Nat.le_of_eq g97.symm)))).lt (Nat.le_of_eq g106.symm))))
    have Vd := (((((V103.ext E106).other W108 (Nat.ne_of_lt (Nat.lt_of_lt_of_le V103.lt (Nat.le_of_eq g106.symm)))).other W110 (Nat.ne_of_lt (Nat.lt_of_lt_of_le V103.lt (Nat.le_of_eq g106.symm)))).other W112 (Nat.ne_of_lt (Nat.lt_of_lt_of_le V103.lt (Nat.le_of_eq g106.symm)))).other W114 (Nat.ne_of_lt (Nat.lt_of_lt_of_le V103.lt (Nat.le_of_eq g106.symm))))
    obtain ⟨clv, Arv_, -, Sv, -, Hv, -⟩ := V114
    have hVv := own_hV (v0 := v0) (v1 := v1) (v2 := v2) (v3 := v3) Sv Hv
    generalize hVV : own_V v0 v1 v2 v3 = VV at hVv
    have c115 : Steps p.tables e below S0 (T114.setTop (mkF m 279 #[.val (.int i0), .val (.int i1), .val (.int (3 : Int32)), .val (.int f), .val (.int v0), .val (.int v1), .val (.int v2), .val (.int v3), .val (.double d0), .second, .val (.double d1), .second, .val (.double d2), .second, .val (.double d3), .second, .val (.ref b89), .val (.ref b97), .val (.ref b106), .val (.int (3 : Int32)), .unset] [])) := by
      refine c114.trans ?_
      show Steps p.tables e below (T114.setTop (mkF m 274 #[.val (.int i0), .val (.int i1), .val (.int (3 : Int32)), .val (.int f), .val (.int v0), .val (.int v1), .val (.int v2), .val (.int v3), .val (.double d0), .second, .val (.double d1), .second, .val (.double d2), .second, .val (.double d3), .second, .val (.ref b89), .val (.ref b97), .unset, .unset, .unset] [(.ref b106)])) _
      refine XS.astore X114.here hx rfl (hb hby at_274) rfl rfl (l' := #[.val (.int i0), .val (.int i1), .val (.int (3 : Int32)), .val (.int f), .val (.int v0), .val (.int v1), .val (.int v2), .val (.int v3), .val (.double d0), .second, .val (.double d1), .second, .val (.double d2), .second, .val (.double d3), .second, .val (.ref b89), .val (.ref b97), .val (.ref b106), .unset, .unset]) rfl ?_
      show Steps p.tables e below (T114.setTop (mkF m 276 #[.val (.int i0), .val (.int i1), .val (.int (3 : Int32)), .val (.int f), .val (.int v0), .val (.int v1), .val (.int v2), .val (.int v3), .val (.double d0), .second, .val (.double d1), .second, .val (.double d2), .second, .val (.double d3), .second, .val (.ref b89), .val (.ref b97), .val (.ref b106), .unset, .unset] [])) _
      refine XS.iloadN X114.here hx rfl (hb hby at_276) rfl ?_
      show Steps p.tables e below (T114.setTop (mkF m 277 #[.val (.int i0), .val (.int i1), .val (.int (3 : Int32)), .val (.int f), .val (.int v0), .val (.int v1), .val (.int v2), .val (.int v3), .val (.double d0), .second, .val (.double d1), .second, .val (.double d2), .second, .val (.double d3), .second, .val (.ref b89), .val (.ref b97), .val (.ref b106), .unset, .unset] [(.int (3 : Int32))])) _
      refine XS.istore X114.here hx rfl (hb hby at_277) rfl (l' := #[.val (.int i0), .val (.int i1), .val (.int (3 : Int32)), .val (.int f), .val (.int v0), .val (.int v1), .val (.int v2), .val (.int v3), .val (.double d0), .second, .val (.double d1), .second, .val (.double d2), .second, .val (.double d3), .second, .val (.ref b89), .val (.ref b97), .val (.ref b106), .val (.int (3 : Int32)), .unset]) rfl ?_
      exact Steps.refl _
    have c116 : Steps p.tables e below S0 (T114.setTop (mkF m 283 #[.val (.int i0), .val (.int i1), .val (.int (3 : Int32)), .val (.int f), .val (.int v0), .val (.int v1), .val (.int v2), .val (.int v3), .val (.double d0), .second, .val (.double d1), .second, .val (.double d2), .second, .val (.double d3), .second, .val (.ref b89), .val (.ref b97), .val (.ref b106), .val (.int (3 : Int32)), .unset] [(.int (3 : Int32)), (.int (f + (3 : Int32)))])) := by
      refine c115.trans ?_
      show Steps p.tables e below (T114.setTop (mkF m 279 #[.val (.int i0), .val (.int i1), .val (.int (3 : Int32)), .val (.int f), .val (.int v0), .val (.int v1), .val (.int v2), .val (.int v3), .val (.double d0), .second, .val (.double d1), .second, .val (.double d2), .second, .val (.double d3), .second, .val (.ref b89), .val (.ref b97), .val (.ref b106), .val (.int (3 : Int32)), .unset] [])) _
      refine XS.iloadN X114.here hx rfl (hb hby at_279) rfl ?_
      show Steps p.tables e below (T114.setTop (mkF m 280 #[.val (.int i0), .val (.int i1), .val (.int (3 : Int32)), .val (.int f), .val (.int v0), .val (.int v1), .val (.int v2), .val (.int v3), .val (.double d0), .second, .val (.double d1), .second, .val (.double d2), .second, .val (.double d3), .second, .val (.ref b89), .val (.ref b97), .val (.ref b106), .val (.int (3 : Int32)), .unset] [(.int f)])) _
      refine XS.iconst X114.here hx rfl (hb hby at_280) ?_
      show Steps p.tables e below (T114.setTop (mkF m 281 #[.val (.int i0), .val (.int i1), .val (.int (3 : Int32)), .val (.int f), .val (.int v0), .val (.int v1), .val (.int v2), .val (.int v3), .val (.double d0), .second, .val (.double d1), .second, .val (.double d2), .second, .val (.double d3), .second, .val (.ref b89), .val (.ref b97), .val (.ref b106), .val (.int (3 : Int32)), .unset] [(.int (3 : Int32)), (.int f)])) _
      refine XS.iadd X114.here hx rfl (hb hby at_281) rfl ?_
      show Steps p.tables e below (T114.setTop (mkF m 282 #[.val (.int i0), .val (.int i1), .val (.int (3 : Int32)), .val (.int f), .val (.int v0), .val (.int v1), .val (.int v2), .val (.int v3), .val (.double d0), .second, .val (.double d1), .second, .val (.double d2), .second, .val (.double d3), .second, .val (.ref b89), .val (.ref b97), .val (.ref b106), .val (.int (3 : Int32)), .unset] [(.int (f + (3 : Int32)))])) _
      refine XS.iloadN X114.here hx rfl (hb hby at_282) rfl ?_
      exact Steps.refl _
    have c117 : Steps p.tables e below S0 (T114.setTop (mkF m 304 #[.val (.int i0), .val (.int i1), .val (.int (3 : Int32)), .val (.int f), .val (.int v0), .val (.int v1), .val (.int v2), .val (.int v3), .val (.double d0), .second, .val (.double d1), .second, .val (.double d2), .second, .val (.double d3), .second, .val (.ref b89), .val (.ref b97), .val (.ref b106), .val (.int (if (f + (3 : Int32)) < (3 : Int32) then (if VV (f + (3 : Int32)) = VV f then (3 : Int32) else (f + (3 : Int32))) else (3 : Int32))), .unset] [])) := by
      refine c116.trans ?_
      by_cases h1 : (f + (3 : Int32)) < (3 : Int32)
      · obtain ⟨hq0, hq4⟩ := own_place (k := 3) (n := 3) hf0 hfN (by decide) h1
        rw [if_pos h1]
        by_cases h2 : VV (f + (3 : Int32)) = VV f
        · rw [if_pos h2]
          show Steps p.tables e below (T114.setTop (mkF m 283 #[.val (.int i0), .val (.int i1), .val (.int (3 : Int32)), .val (.int f), .val (.int v0), .val (.int v1), .val (.int v2), .val (.int v3), .val (.double d0), .second, .val (.double d1), .second, .val (.double d2), .second, .val (.double d3), .second, .val (.ref b89), .val (.ref b97), .val (.ref b106), .val (.int (3 : Int32)), .unset] [(.int (3 : Int32)), (.int (f + (3 : Int32)))])) _
          refine XS.icmpNo X114.here hx rfl (hb hby at_283) rfl (tlt h1).2.1 ?_
          show Steps p.tables e below (T114.setTop (mkF m 286 #[.val (.int i0), .val (.int i1), .val (.int (3 : Int32)), .val (.int f), .val (.int v0), .val (.int v1), .val (.int v2), .val (.int v3), .val (.double d0), .second, .val (.double d1), .second, .val (.double d2), .second, .val (.double d3), .second, .val (.ref b89), .val (.ref b97), .val (.ref b106), .val (.int (3 : Int32)), .unset] [])) _
          refine XS.aload X114.here hx rfl (hb hby at_286) rfl rfl ?_
          show Steps p.tables e below (T114.setTop (mkF m 288 #[.val (.int i0), .val (.int i1), .val (.int (3 : Int32)), .val (.int f), .val (.int v0), .val (.int v1), .val (.int v2), .val (.int v3), .val (.double d0), .second, .val (.double d1), .second, .val (.double d2), .second, .val (.double d3), .second, .val (.ref b89), .val (.ref b97), .val (.ref b106), .val (.int (3 : Int32)), .unset] [(.ref b106)])) _
          refine XS.iloadN X114.here hx rfl (hb hby at_288) rfl ?_
          show Steps p.tables e below (T114.setTop (mkF m 289 #[.val (.int i0), .val (.int i1), .val (.int (3 : Int32)), .val (.int f), .val (.int v0), .val (.int v1), .val (.int v2), .val (.int v3), .val (.double d0), .second, .val (.double d1), .second, .val (.double d2), .second, .val (.double d3), .second, .val (.ref b89), .val (.ref b97), .val (.ref b106), .val (.int (3 : Int32)), .unset] [(.int f), (.ref b106)])) _
          refine XS.iconst X114.here hx rfl (hb hby at_289) ?_
          show Steps p.tables e below (T114.setTop (mkF m 290 #[.val (.int i0), .val (.int i1), .val (.int (3 : Int32)), .val (.int f), .val (.int v0), .val (.int v1), .val (.int v2), .val (.int v3), .val (.double d0), .second, .val (.double d1), .second, .val (.double d2), .second, .val (.double d3), .second, .val (.ref b89), .val (.ref b97), .val (.ref b106), .val (.int (3 : Int32)), .unset] [(.int (3 : Int32)), (.int f), (.ref b106)])) _
          refine XS.iadd X114.here hx rfl (hb hby at_290) rfl ?_
          show Steps p.tables e below (T114.setTop (mkF m 291 #[.val (.int i0), .val (.int i1), .val (.int (3 : Int32)), .val (.int f), .val (.int v0), .val (.int v1), .val (.int v2), .val (.int v3), .val (.double d0), .second, .val (.double d1), .second, .val (.double d2), .second, .val (.double d3), .second, .val (.ref b89), .val (.ref b97), .val (.ref b106), .val (.int (3 : Int32)), .unset] [(.int (f + (3 : Int32))), (.ref b106)])) _
          refine X114.iaload hx (j := (f + (3 : Int32))) (v := .int (VV (f + (3 : Int32)))) (by rw [e114]; exact Arv_.1) (State.isArrayOf_alike hZ.alike Arv_.2.1) Arv_.2.2 (inb_of Sv ⟨hq0, hq4⟩) (hVv _ hq0 hq4) (g := (mkF m 291 #[.val (.int i0), .val (.int i1), .val (.int (3 : Int32)), .val (.int f), .val (.int v0), .val (.int v1), .val (.int v2), .val (.int v3), .val (.double d0), .second, .val (.double d1), .second, .val (.double d2), .second, .val (.double d3), .second, .val (.ref b89), .val (.ref b97), .val (.ref b106), .val (.int (3 : Int32)), .unset] [(.int (f + (3 : Int32))), (.ref b106)])) rfl rfl (hb hby at_291) _ ?_
          show Steps p.tables e below (T114.setTop (mkF m 292 #[.val (.int i0), .val (.int i1), .val (.int (3 : Int32)), .val (.int f), .val (.int v0), .val (.int v1), .val (.int v2), .val (.int v3), .val (.double d0), .second, .val (.double d1), .second, .val (.double d2), .second, .val (.double d3), .second, .val (.ref b89), .val (.ref b97), .val (.ref b106), .val (.int (3 : Int32)), .unset] [(.int (VV (f + (3 : Int32))))])) _
          refine XS.aload X114.here hx rfl (hb hby at_292) rfl rfl ?_
          show Steps p.tables e below (T114.setTop (mkF m 294 #[.val (.int i0), .val (.int i1), .val (.int (3 : Int32)), .val (.int f), .val (.int v0), .val (.int v1), .val (.int v2), .val (.int v3), .val (.double d0), .second, .val (.double d1), .second, .val (.double d2), .second, .val (.double d3), .second, .val (.ref b89), .val (.ref b97), .val (.ref b106), .val (.int (3 : Int32)), .unset] [(.ref b106), (.int (VV (f + (3 : Int32))))])) _
          refine XS.iloadN X114.here hx rfl (hb hby at_294) rfl ?_
          show Steps p.tables e below (T114.setTop (mkF m 295 #[.val (.int i0), .val (.int i1), .val (.int (3 : Int32)), .val (.int f), .val (.int v0), .val (.int v1), .val (.int v2), .val (.int v3), .val (.double d0), .second, .val (.double d1), .second, .val (.double d2), .second, .val (.double d3), .second, .val (.ref b89), .val (.ref b97), .val (.ref b106), .val (.int (3 : Int32)), .unset] [(.int f), (.ref b106), (.int (VV (f + (3 : Int32))))])) _
          refine X114.iaload hx (j := f) (v := .int (VV f)) (by rw [e114]; exact Arv_.1) (State.isArrayOf_alike hZ.alike Arv_.2.1) Arv_.2.2 (inb_of Sv ⟨hf0, hf4⟩) (hVv _ hf0 hf4) (g := (mkF m 295 #[.val (.int i0), .val (.int i1), .val (.int (3 : Int32)), .val (.int f), .val (.int v0), .val (.int v1), .val (.int v2), .val (.int v3), .val (.double d0), .second, .val (.double d1), .second, .val (.double d2), .second, .val (.double d3), .second, .val (.ref b89), .val (.ref b97), .val (.ref b106), .val (.int (3 : Int32)), .unset] [(.int f), (.ref b106), (.int (VV (f + (3 : Int32))))])) rfl rfl (hb hby at_295) _ ?_
          show Steps p.tables e below (T114.setTop (mkF m 296 #[.val (.int i0), .val (.int i1), .val (.int (3 : Int32)), .val (.int f), .val (.int v0), .val (.int v1), .val (.int v2), .val (.int v3), .val (.double d0), .second, .val (.double d1), .second, .val (.double d2), .second, .val (.double d3), .second, .val (.ref b89), .val (.ref b97), .val (.ref b106), .val (.int (3 : Int32)), .unset] [(.int (VV f)), (.int (VV (f + (3 : Int32))))])) _
          refine XS.icmpYes X114.here hx rfl (pc0 := 296) (pc' := 304) rfl (hb hby at_296) rfl (teq h2).1 (by decide) (by decide) ?_
          exact Steps.refl _
        · rw [if_neg h2]
          show Steps p.tables e below (T114.setTop (mkF m 283 #[.val (.int i0), .val (.int i1), .val (.int (3 : Int32)), .val (.int f), .val (.int v0), .val (.int v1), .val (.int v2), .val (.int v3), .val (.double d0), .second, .val (.double d1), .second, .val (.double d2), .second, .val (.double d3), .second, .val (.ref b89), .val (.ref b97), .val (.ref b106), .val (.int (3 : Int32)), .unset] [(.int (3 : Int32)), (.int (f + (3 : Int32)))])) _
          refine XS.icmpNo X114.here hx rfl (hb hby at_283) rfl (tlt h1).2.1 ?_
          show Steps p.tables e below (T114.setTop (mkF m 286 #[.val (.int i0), .val (.int i1), .val (.int (3 : Int32)), .val (.int f), .val (.int v0), .val (.int v1), .val (.int v2), .val (.int v3), .val (.double d0), .second, .val (.double d1), .second, .val (.double d2), .second, .val (.double d3), .second, .val (.ref b89), .val (.ref b97), .val (.ref b106), .val (.int (3 : Int32)), .unset] [])) _
          refine XS.aload X114.here hx rfl (hb hby at_286) rfl rfl ?_
          show Steps p.tables e below (T114.setTop (mkF m 288 #[.val (.int i0), .val (.int i1), .val (.int (3 : Int32)), .val (.int f), .val (.int v0), .val (.int v1), .val (.int v2), .val (.int v3), .val (.double d0), .second, .val (.double d1), .second, .val (.double d2), .second, .val (.double d3), .second, .val (.ref b89), .val (.ref b97), .val (.ref b106), .val (.int (3 : Int32)), .unset] [(.ref b106)])) _
          refine XS.iloadN X114.here hx rfl (hb hby at_288) rfl ?_
          show Steps p.tables e below (T114.setTop (mkF m 289 #[.val (.int i0), .val (.int i1), .val (.int (3 : Int32)), .val (.int f), .val (.int v0), .val (.int v1), .val (.int v2), .val (.int v3), .val (.double d0), .second, .val (.double d1), .second, .val (.double d2), .second, .val (.double d3), .second, .val (.ref b89), .val (.ref b97), .val (.ref b106), .val (.int (3 : Int32)), .unset] [(.int f), (.ref b106)])) _
          refine XS.iconst X114.here hx rfl (hb hby at_289) ?_
          show Steps p.tables e below (T114.setTop (mkF m 290 #[.val (.int i0), .val (.int i1), .val (.int (3 : Int32)), .val (.int f), .val (.int v0), .val (.int v1), .val (.int v2), .val (.int v3), .val (.double d0), .second, .val (.double d1), .second, .val (.double d2), .second, .val (.double d3), .second, .val (.ref b89), .val (.ref b97), .val (.ref b106), .val (.int (3 : Int32)), .unset] [(.int (3 : Int32)), (.int f), (.ref b106)])) _
          refine XS.iadd X114.here hx rfl (hb hby at_290) rfl ?_
          show Steps p.tables e below (T114.setTop (mkF m 291 #[.val (.int i0), .val (.int i1), .val (.int (3 : Int32)), .val (.int f), .val (.int v0), .val (.int v1), .val (.int v2), .val (.int v3), .val (.double d0), .second, .val (.double d1), .second, .val (.double d2), .second, .val (.double d3), .second, .val (.ref b89), .val (.ref b97), .val (.ref b106), .val (.int (3 : Int32)), .unset] [(.int (f + (3 : Int32))), (.ref b106)])) _
          refine X114.iaload hx (j := (f + (3 : Int32))) (v := .int (VV (f + (3 : Int32)))) (by rw [e114]; exact Arv_.1) (State.isArrayOf_alike hZ.alike Arv_.2.1) Arv_.2.2 (inb_of Sv ⟨hq0, hq4⟩) (hVv _ hq0 hq4) (g := (mkF m 291 #[.val (.int i0), .val (.int i1), .val (.int (3 : Int32)), .val (.int f), .val (.int v0), .val (.int v1), .val (.int v2), .val (.int v3), .val (.double d0), .second, .val (.double d1), .second, .val (.double d2), .second, .val (.double d3), .second, .val (.ref b89), .val (.ref b97), .val (.ref b106), .val (.int (3 : Int32)), .unset] [(.int (f + (3 : Int32))), (.ref b106)])) rfl rfl (hb hby at_291) _ ?_
          show Steps p.tables e below (T114.setTop (mkF m 292 #[.val (.int i0), .val (.int i1), .val (.int (3 : Int32)), .val (.int f), .val (.int v0), .val (.int v1), .val (.int v2), .val (.int v3), .val (.double d0), .second, .val (.double d1), .second, .val (.double d2), .second, .val (.double d3), .second, .val (.ref b89), .val (.ref b97), .val (.ref b106), .val (.int (3 : Int32)), .unset] [(.int (VV (f + (3 : Int32))))])) _
          refine XS.aload X114.here hx rfl (hb hby at_292) rfl rfl ?_
          show Steps p.tables e below (T114.setTop (mkF m 294 #[.val (.int i0), .val (.int i1), .val (.int (3 : Int32)), .val (.int f), .val (.int v0), .val (.int v1), .val (.int v2), .val (.int v3), .val (.double d0), .second, .val (.double d1), .second, .val (.double d2), .second, .val (.double d3), .second, .val (.ref b89), .val (.ref b97), .val (.ref b106), .val (.int (3 : Int32)), .unset] [(.ref b106), (.int (VV (f + (3 : Int32))))])) _
          refine XS.iloadN X114.here hx rfl (hb hby at_294) rfl ?_
          show Steps p.tables e below (T114.setTop (mkF m 295 #[.val (.int i0), .val (.int i1), .val (.int (3 : Int32)), .val (.int f), .val (.int v0), .val (.int v1), .val (.int v2), .val (.int v3), .val (.double d0), .second, .val (.double d1), .second, .val (.double d2), .second, .val (.double d3), .second, .val (.ref b89), .val (.ref b97), .val (.ref b106), .val (.int (3 : Int32)), .unset] [(.int f), (.ref b106), (.int (VV (f + (3 : Int32))))])) _
          refine X114.iaload hx (j := f) (v := .int (VV f)) (by rw [e114]; exact Arv_.1) (State.isArrayOf_alike hZ.alike Arv_.2.1) Arv_.2.2 (inb_of Sv ⟨hf0, hf4⟩) (hVv _ hf0 hf4) (g := (mkF m 295 #[.val (.int i0), .val (.int i1), .val (.int (3 : Int32)), .val (.int f), .val (.int v0), .val (.int v1), .val (.int v2), .val (.int v3), .val (.double d0), .second, .val (.double d1), .second, .val (.double d2), .second, .val (.double d3), .second, .val (.ref b89), .val (.ref b97), .val (.ref b106), .val (.int (3 : Int32)), .unset] [(.int f), (.ref b106), (.int (VV (f + (3 : Int32))))])) rfl rfl (hb hby at_295) _ ?_
          show Steps p.tables e below (T114.setTop (mkF m 296 #[.val (.int i0), .val (.int i1), .val (.int (3 : Int32)), .val (.int f), .val (.int v0), .val (.int v1), .val (.int v2), .val (.int v3), .val (.double d0), .second, .val (.double d1), .second, .val (.double d2), .second, .val (.double d3), .second, .val (.ref b89), .val (.ref b97), .val (.ref b106), .val (.int (3 : Int32)), .unset] [(.int (VV f)), (.int (VV (f + (3 : Int32))))])) _
          refine XS.icmpNo X114.here hx rfl (hb hby at_296) rfl (feq h2).1 ?_
          show Steps p.tables e below (T114.setTop (mkF m 299 #[.val (.int i0), .val (.int i1), .val (.int (3 : Int32)), .val (.int f), .val (.int v0), .val (.int v1), .val (.int v2), .val (.int v3), .val (.double d0), .second, .val (.double d1), .second, .val (.double d2), .second, .val (.double d3), .second, .val (.ref b89), .val (.ref b97), .val (.ref b106), .val (.int (3 : Int32)), .unset] [])) _
          refine XS.iloadN X114.here hx rfl (hb hby at_299) rfl ?_
          show Steps p.tables e below (T114.setTop (mkF m 300 #[.val (.int i0), .val (.int i1), .val (.int (3 : Int32)), .val (.int f), .val (.int v0), .val (.int v1), .val (.int v2), .val (.int v3), .val (.double d0), .second, .val (.double d1), .second, .val (.double d2), .second, .val (.double d3), .second, .val (.ref b89), .val (.ref b97), .val (.ref b106), .val (.int (3 : Int32)), .unset] [(.int f)])) _
          refine XS.iconst X114.here hx rfl (hb hby at_300) ?_
          show Steps p.tables e below (T114.setTop (mkF m 301 #[.val (.int i0), .val (.int i1), .val (.int (3 : Int32)), .val (.int f), .val (.int v0), .val (.int v1), .val (.int v2), .val (.int v3), .val (.double d0), .second, .val (.double d1), .second, .val (.double d2), .second, .val (.double d3), .second, .val (.ref b89), .val (.ref b97), .val (.ref b106), .val (.int (3 : Int32)), .unset] [(.int (3 : Int32)), (.int f)])) _
          refine XS.iadd X114.here hx rfl (hb hby at_301) rfl ?_
          show Steps p.tables e below (T114.setTop (mkF m 302 #[.val (.int i0), .val (.int i1), .val (.int (3 : Int32)), .val (.int f), .val (.int v0), .val (.int v1), .val (.int v2), .val (.int v3), .val (.double d0), .second, .val (.double d1), .second, .val (.double d2), .second, .val (.double d3), .second, .val (.ref b89), .val (.ref b97), .val (.ref b106), .val (.int (3 : Int32)), .unset] [(.int (f + (3 : Int32)))])) _
          refine XS.istore X114.here hx rfl (hb hby at_302) rfl (l' := #[.val (.int i0), .val (.int i1), .val (.int (3 : Int32)), .val (.int f), .val (.int v0), .val (.int v1), .val (.int v2), .val (.int v3), .val (.double d0), .second, .val (.double d1), .second, .val (.double d2), .second, .val (.double d3), .second, .val (.ref b89), .val (.ref b97), .val (.ref b106), .val (.int (f + (3 : Int32))), .unset]) rfl ?_
          exact Steps.refl _
      · rw [if_neg h1]
        show Steps p.tables e below (T114.setTop (mkF m 283 #[.val (.int i0), .val (.int i1), .val (.int (3 : Int32)), .val (.int f), .val (.int v0), .val (.int v1), .val (.int v2), .val (.int v3), .val (.double d0), .second, .val (.double d1), .second, .val (.double d2), .second, .val (.double d3), .second, .val (.ref b89), .val (.ref b97), .val (.ref b106), .val (.int (3 : Int32)), .unset] [(.int (3 : Int32)), (.int (f + (3 : Int32)))])) _
        refine XS.icmpYes X114.here hx rfl (pc0 := 283) (pc' := 304) rfl (hb hby at_283) rfl (flt h1).2.1 (by decide) (by decide) ?_
        exact Steps.refl _
    generalize hx3 : (if (f + (3 : Int32)) < (3 : Int32) then (if VV (f + (3 : Int32)) = VV f then (3 : Int32) else (f + (3 : Int32))) else (3 : Int32)) = x3 at c117
    have c118 : Steps p.tables e below S0 (T114.setTop (mkF m 308 #[.val (.int i0), .val (.int i1), .val (.int (3 : Int32)), .val (.int f), .val (.int v0), .val (.int v1), .val (.int v2), .val (.int v3), .val (.double d0), .second, .val (.double d1), .second, .val (.double d2), .second, .val (.double d3), .second, .val (.ref b89), .val (.ref b97), .val (.ref b106), .val (.int x3), .unset] [(.int (3 : Int32)), (.int (f + (2 : Int32)))])) := by
      refine c117.trans ?_
      show Steps p.tables e below (T114.setTop (mkF m 304 #[.val (.int i0), .val (.int i1), .val (.int (3 : Int32)), .val (.int f), .val (.int v0), .val (.int v1), .val (.int v2), .val (.int v3), .val (.double d0), .second, .val (.double d1), .second, .val (.double d2), .second, .val (.double d3), .second, .val (.ref b89), .val (.ref b97), .val (.ref b106), .val (.int x3), .unset] [])) _
      refine XS.iloadN X114.here hx rfl (hb hby at_304) rfl ?_
      show Steps p.tables e below (T114.setTop (mkF m 305 #[.val (.int i0), .val (.int i1), .val (.int (3 : Int32)), .val (.int f), .val (.int v0), .val (.int v1), .val (.int v2), .val (.int v3), .val (.double d0), .second, .val (.double d1), .second, .val (.double d2), .second, .val (.double d3), .second, .val (.ref b89), .val (.ref b97), .val (.ref b106), .val (.int x3), .unset] [(.int f)])) _
      refine XS.iconst X114.here hx rfl (hb hby at_305) ?_
      show Steps p.tables e below (T114.setTop (mkF m 306 #[.val (.int i0), .val (.int i1), .val (.int (3 : Int32)), .val (.int f), .val (.int v0), .val (.int v1), .val (.int v2), .val (.int v3), .val (.double d0), .second, .val (.double d1), .second, .val (.double d2), .second, .val (.double d3), .second, .val (.ref b89), .val (.ref b97), .val (.ref b106), .val (.int x3), .unset] [(.int (2 : Int32)), (.int f)])) _
      refine XS.iadd X114.here hx rfl (hb hby at_306) rfl ?_
      show Steps p.tables e below (T114.setTop (mkF m 307 #[.val (.int i0), .val (.int i1), .val (.int (3 : Int32)), .val (.int f), .val (.int v0), .val (.int v1), .val (.int v2), .val (.int v3), .val (.double d0), .second, .val (.double d1), .second, .val (.double d2), .second, .val (.double d3), .second, .val (.ref b89), .val (.ref b97), .val (.ref b106), .val (.int x3), .unset] [(.int (f + (2 : Int32)))])) _
      refine XS.iloadN X114.here hx rfl (hb hby at_307) rfl ?_
      exact Steps.refl _
    have c119 : Steps p.tables e below S0 (T114.setTop (mkF m 329 #[.val (.int i0), .val (.int i1), .val (.int (3 : Int32)), .val (.int f), .val (.int v0), .val (.int v1), .val (.int v2), .val (.int v3), .val (.double d0), .second, .val (.double d1), .second, .val (.double d2), .second, .val (.double d3), .second, .val (.ref b89), .val (.ref b97), .val (.ref b106), .val (.int (if (f + (2 : Int32)) < (3 : Int32) then (if VV (f + (2 : Int32)) = VV f then x3 else (f + (2 : Int32))) else x3)), .unset] [])) := by
      refine c118.trans ?_
      by_cases h1 : (f + (2 : Int32)) < (3 : Int32)
      · obtain ⟨hq0, hq4⟩ := own_place (k := 2) (n := 3) hf0 hfN (by decide) h1
        rw [if_pos h1]
        by_cases h2 : VV (f + (2 : Int32)) = VV f
        · rw [if_pos h2]
          show Steps p.tables e below (T114.setTop (mkF m 308 #[.val (.int i0), .val (.int i1), .val (.int (3 : Int32)), .val (.int f), .val (.int v0), .val (.int v1), .val (.int v2), .val (.int v3), .val (.double d0), .second, .val (.double d1), .second, .val (.double d2), .second, .val (.double d3), .second, .val (.ref b89), .val (.ref b97), .val (.ref b106), .val (.int x3), .unset] [(.int (3 : Int32)), (.int (f + (2 : Int32)))])) _
          refine XS.icmpNo X114.here hx rfl (hb hby at_308) rfl (tlt h1).2.1 ?_
          show Steps p.tables e below (T114.setTop (mkF m 311 #[.val (.int i0), .val (.int i1), .val (.int (3 : Int32)), .val (.int f), .val (.int v0), .val (.int v1), .val (.int v2), .val (.int v3), .val (.double d0), .second, .val (.double d1), .second, .val (.double d2), .second, .val (.double d3), .second, .val (.ref b89), .val (.ref b97), .val (.ref b106), .val (.int x3), .unset] [])) _
          refine XS.aload X114.here hx rfl (hb hby at_311) rfl rfl ?_
          show Steps p.tables e below (T114.setTop (mkF m 313 #[.val (.int i0), .val (.int i1), .val (.int (3 : Int32)), .val (.int f), .val (.int v0), .val (.int v1), .val (.int v2), .val (.int v3), .val (.double d0), .second, .val (.double d1), .second, .val (.double d2), .second, .val (.double d3), .second, .val (.ref b89), .val (.ref b97), .val (.ref b106), .val (.int x3), .unset] [(.ref b106)])) _
          refine XS.iloadN X114.here hx rfl (hb hby at_313) rfl ?_
          show Steps p.tables e below (T114.setTop (mkF m 314 #[.val (.int i0), .val (.int i1), .val (.int (3 : Int32)), .val (.int f), .val (.int v0), .val (.int v1), .val (.int v2), .val (.int v3), .val (.double d0), .second, .val (.double d1), .second, .val (.double d2), .second, .val (.double d3), .second, .val (.ref b89), .val (.ref b97), .val (.ref b106), .val (.int x3), .unset] [(.int f), (.ref b106)])) _
          refine XS.iconst X114.here hx rfl (hb hby at_314) ?_
          show Steps p.tables e below (T114.setTop (mkF m 315 #[.val (.int i0), .val (.int i1), .val (.int (3 : Int32)), .val (.int f), .val (.int v0), .val (.int v1), .val (.int v2), .val (.int v3), .val (.double d0), .second, .val (.double d1), .second, .val (.double d2), .second, .val (.double d3), .second, .val (.ref b89), .val (.ref b97), .val (.ref b106), .val (.int x3), .unset] [(.int (2 : Int32)), (.int f), (.ref b106)])) _
          refine XS.iadd X114.here hx rfl (hb hby at_315) rfl ?_
          show Steps p.tables e below (T114.setTop (mkF m 316 #[.val (.int i0), .val (.int i1), .val (.int (3 : Int32)), .val (.int f), .val (.int v0), .val (.int v1), .val (.int v2), .val (.int v3), .val (.double d0), .second, .val (.double d1), .second, .val (.double d2), .second, .val (.double d3), .second, .val (.ref b89), .val (.ref b97), .val (.ref b106), .val (.int x3), .unset] [(.int (f + (2 : Int32))), (.ref b106)])) _
          refine X114.iaload hx (j := (f + (2 : Int32))) (v := .int (VV (f + (2 : Int32)))) (by rw [e114]; exact Arv_.1) (State.isArrayOf_alike hZ.alike Arv_.2.1) Arv_.2.2 (inb_of Sv ⟨hq0, hq4⟩) (hVv _ hq0 hq4) (g := (mkF m 316 #[.val (.int i0), .val (.int i1), .val (.int (3 : Int32)), .val (.int f), .val (.int v0), .val (.int v1), .val (.int v2), .val (.int v3), .val (.double d0), .second, .val (.double d1), .second, .val (.double d2), .second, .val (.double d3), .second, .val (.ref b89), .val (.ref b97), .val (.ref b106), .val (.int x3), .unset] [(.int (f + (2 : Int32))), (.ref b106)])) rfl rfl (hb hby at_316) _ ?_
          show Steps p.tables e below (T114.setTop (mkF m 317 #[.val (.int i0), .val (.int i1), .val (.int (3 : Int32)), .val (.int f), .val (.int v0), .val (.int v1), .val (.int v2), .val (.int v3), .val (.double d0), .second, .val (.double d1), .second, .val (.double d2), .second, .val (.double d3), .second, .val (.ref b89), .val (.ref b97), .val (.ref b106), .val (.int x3), .unset] [(.int (VV (f + (2 : Int32))))])) _
          refine XS.aload X114.here hx rfl (hb hby at_317) rfl rfl ?_
          show Steps p.tables e below (T114.setTop (mkF m 319 #[.val (.int i0), .val (.int i1), .val (.int (3 : Int32)), .val (.int f), .val (.int v0), .val (.int v1), .val (.int v2), .val (.int v3), .val (.double d0), .second, .val (.double d1), .second, .val (.double d2), .second, .val (.double d3), .second, .val (.ref b89), .val (.ref b97), .val (.ref b106), .val (.int x3), .unset] [(.ref b106), (.int (VV (f + (2 : Int32))))])) _
          refine XS.iloadN X114.here hx rfl (hb hby at_319) rfl ?_
          show Steps p.tables e below (T114.setTop (mkF m 320 #[.val (.int i0), .val (.int i1), .val (.int (3 : Int32)), .val (.int f), .val (.int v0), .val (.int v1), .val (.int v2), .val (.int v3), .val (.double d0), .second, .val (.double d1), .second, .val (.double d2), .second, .val (.double d3), .second, .val (.ref b89), .val (.ref b97), .val (.ref b106), .val (.int x3), .unset] [(.int f), (.ref b106), (.int (VV (f + (2 : Int32))))])) _
          refine X114.iaload hx (j := f) (v := .int (VV f)) (by rw [e114]; exact Arv_.1) (State.isArrayOf_alike hZ.alike Arv_.2.1) Arv_.2.2 (inb_of Sv ⟨hf0, hf4⟩) (hVv _ hf0 hf4) (g := (mkF m 320 #[.val (.int i0), .val (.int i1), .val (.int (3 : Int32)), .val (.int f), .val (.int v0), .val (.int v1), .val (.int v2), .val (.int v3), .val (.double d0), .second, .val (.double d1), .second, .val (.double d2), .second, .val (.double d3), .second, .val (.ref b89), .val (.ref b97), .val (.ref b106), .val (.int x3), .unset] [(.int f), (.ref b106), (.int (VV (f + (2 : Int32))))])) rfl rfl (hb hby at_320) _ ?_
          show Steps p.tables e below (T114.setTop (mkF m 321 #[.val (.int i0), .val (.int i1), .val (.int (3 : Int32)), .val (.int f), .val (.int v0), .val (.int v1), .val (.int v2), .val (.int v3), .val (.double d0), .second, .val (.double d1), .second, .val (.double d2), .second, .val (.double d3), .second, .val (.ref b89), .val (.ref b97), .val (.ref b106), .val (.int x3), .unset] [(.int (VV f)), (.int (VV (f + (2 : Int32))))])) _
          refine XS.icmpYes X114.here hx rfl (pc0 := 321) (pc' := 329) rfl (hb hby at_321) rfl (teq h2).1 (by decide) (by decide) ?_
          exact Steps.refl _
        · rw [if_neg h2]
          show Steps p.tables e below (T114.setTop (mkF m 308 #[.val (.int i0), .val (.int i1), .val (.int (3 : Int32)), .val (.int f), .val (.int v0), .val (.int v1), .val (.int v2), .val (.int v3), .val (.double d0), .second, .val (.double d1), .second, .val (.double d2), .second, .val (.double d3), .second, .val (.ref b89), .val (.ref b97), .val (.ref b106), .val (.int x3), .unset] [(.int (3 : Int32)), (.int (f + (2 : Int32)))])) _
          refine XS.icmpNo X114.here hx rfl (hb hby at_308) rfl (tlt h1).2.1 ?_
          show Steps p.tables e below (T114.setTop (mkF m 311 #[.val (.int i0), .val (.int i1), .val (.int (3 : Int32)), .val (.int f), .val (.int v0), .val (.int v1), .val (.int v2), .val (.int v3), .val (.double d0), .second, .val (.double d1), .second, .val (.double d2), .second, .val (.double d3), .second, .val (.ref b89), .val (.ref b97), .val (.ref b106), .val (.int x3), .unset] [])) _
          refine XS.aload X114.here hx rfl (hb hby at_311) rfl rfl ?_
          show Steps p.tables e below (T114.setTop (mkF m 313 #[.val (.int i0), .val (.int i1), .val (.int (3 : Int32)), .val (.int f), .val (.int v0), .val (.int v1), .val (.int v2), .val (.int v3), .val (.double d0), .second, .val (.double d1), .second, .val (.double d2), .second, .val (.double d3), .second, .val (.ref b89), .val (.ref b97), .val (.ref b106), .val (.int x3), .unset] [(.ref b106)])) _
          refine XS.iloadN X114.here hx rfl (hb hby at_313) rfl ?_
          show Steps p.tables e below (T114.setTop (mkF m 314 #[.val (.int i0), .val (.int i1), .val (.int (3 : Int32)), .val (.int f), .val (.int v0), .val (.int v1), .val (.int v2), .val (.int v3), .val (.double d0), .second, .val (.double d1), .second, .val (.double d2), .second, .val (.double d3), .second, .val (.ref b89), .val (.ref b97), .val (.ref b106), .val (.int x3), .unset] [(.int f), (.ref b106)])) _
          refine XS.iconst X114.here hx rfl (hb hby at_314) ?_
          show Steps p.tables e below (T114.setTop (mkF m 315 #[.val (.int i0), .val (.int i1), .val (.int (3 : Int32)), .val (.int f), .val (.int v0), .val (.int v1), .val (.int v2), .val (.int v3), .val (.double d0), .second, .val (.double d1), .second, .val (.double d2), .second, .val (.double d3), .second, .val (.ref b89), .val (.ref b97), .val (.ref b106), .val (.int x3), .unset] [(.int (2 : Int32)), (.int f), (.ref b106)])) _
          refine XS.iadd X114.here hx rfl (hb hby at_315) rfl ?_
          show Steps p.tables e below (T114.setTop (mkF m 316 #[.val (.int i0), .val (.int i1), .val (.int (3 : Int32)), .val (.int f), .val (.int v0), .val (.int v1), .val (.int v2), .val (.int v3), .val (.double d0), .second, .val (.double d1), .second, .val (.double d2), .second, .val (.double d3), .second, .val (.ref b89), .val (.ref b97), .val (.ref b106), .val (.int x3), .unset] [(.int (f + (2 : Int32))), (.ref b106)])) _
          refine X114.iaload hx (j := (f + (2 : Int32))) (v := .int (VV (f + (2 : Int32)))) (by rw [e114]; exact Arv_.1) (State.isArrayOf_alike hZ.alike Arv_.2.1) Arv_.2.2 (inb_of Sv ⟨hq0, hq4⟩) (hVv _ hq0 hq4) (g := (mkF m 316 #[.val (.int i0), .val (.int i1), .val (.int (3 : Int32)), .val (.int f), .val (.int v0), .val (.int v1), .val (.int v2), .val (.int v3), .val (.double d0), .second, .val (.double d1), .second, .val (.double d2), .second, .val (.double d3), .second, .val (.ref b89), .val (.ref b97), .val (.ref b106), .val (.int x3), .unset] [(.int (f + (2 : Int32))), (.ref b106)])) rfl rfl (hb hby at_316) _ ?_
          show Steps p.tables e below (T114.setTop (mkF m 317 #[.val (.int i0), .val (.int i1), .val (.int (3 : Int32)), .val (.int f), .val (.int v0), .val (.int v1), .val (.int v2), .val (.int v3), .val (.double d0), .second, .val (.double d1), .second, .val (.double d2), .second, .val (.double d3), .second, .val (.ref b89), .val (.ref b97), .val (.ref b106), .val (.int x3), .unset] [(.int (VV (f + (2 : Int32))))])) _
          refine XS.aload X114.here hx rfl (hb hby at_317) rfl rfl ?_
          show Steps p.tables e below (T114.setTop (mkF m 319 #[.val (.int i0), .val (.int i1), .val (.int (3 : Int32)), .val (.int f), .val (.int v0), .val (.int v1), .val (.int v2), .val (.int v3), .val (.double d0), .second, .val (.double d1), .second, .val (.double d2), .second, .val (.double d3), .second, .val (.ref b89), .val (.ref b97), .val (.ref b106), .val (.int x3), .unset] [(.ref b106), (.int (VV (f + (2 : Int32))))])) _
          refine XS.iloadN X114.here hx rfl (hb hby at_319) rfl ?_
          show Steps p.tables e below (T114.setTop (mkF m 320 #[.val (.int i0), .val (.int i1), .val (.int (3 : Int32)), .val (.int f), .val (.int v0), .val (.int v1), .val (.int v2), .val (.int v3), .val (.double d0), .second, .val (.double d1), .second, .val (.double d2), .second, .val (.double d3), .second, .val (.ref b89), .val (.ref b97), .val (.ref b106), .val (.int x3), .unset] [(.int f), (.ref b106), (.int (VV (f + (2 : Int32))))])) _
          refine X114.iaload hx (j := f) (v := .int (VV f)) (by rw [e114]; exact Arv_.1) (State.isArrayOf_alike hZ.alike Arv_.2.1) Arv_.2.2 (inb_of Sv ⟨hf0, hf4⟩) (hVv _ hf0 hf4) (g := (mkF m 320 #[.val (.int i0), .val (.int i1), .val (.int (3 : Int32)), .val (.int f), .val (.int v0), .val (.int v1), .val (.int v2), .val (.int v3), .val (.double d0), .second, .val (.double d1), .second, .val (.double d2), .second, .val (.double d3), .second, .val (.ref b89), .val (.ref b97), .val (.ref b106), .val (.int x3), .unset] [(.int f), (.ref b106), (.int (VV (f + (2 : Int32))))])) rfl rfl (hb hby at_320) _ ?_
          show Steps p.tables e below (T114.setTop (mkF m 321 #[.val (.int i0), .val (.int i1), .val (.int (3 : Int32)), .val (.int f), .val (.int v0), .val (.int v1), .val (.int v2), .val (.int v3), .val (.double d0), .second, .val (.double d1), .second, .val (.double d2), .second, .val (.double d3), .second, .val (.ref b89), .val (.ref b97), .val (.ref b106), .val (.int x3), .unset] [(.int (VV f)), (.int (VV (f + (2 : Int32))))])) _
          refine XS.icmpNo X114.here hx rfl (hb hby at_321) rfl (feq h2).1 ?_
          show Steps p.tables e below (T114.setTop (mkF m 324 #[.val (.int i0), .val (.int i1), .val (.int (3 : Int32)), .val (.int f), .val (.int v0), .val (.int v1), .val (.int v2), .val (.int v3), .val (.double d0), .second, .val (.double d1), .second, .val (.double d2), .second, .val (.double d3), .second, .val (.ref b89), .val (.ref b97), .val (.ref b106), .val (.int x3), .unset] [])) _
          refine XS.iloadN X114.here hx rfl (hb hby at_324) rfl ?_
          show Steps p.tables e below (T114.setTop (mkF m 325 #[.val (.int i0), .val (.int i1), .val (.int (3 : Int32)), .val (.int f), .val (.int v0), .val (.int v1), .val (.int v2), .val (.int v3), .val (.double d0), .second, .val (.double d1), .second, .val (.double d2), .second, .val (.double d3), .second, .val (.ref b89), .val (.ref b97), .val (.ref b106), .val (.int x3), .unset] [(.int f)])) _
          refine XS.iconst X114.here hx rfl (hb hby at_325) ?_
          show Steps p.tables e below (T114.setTop (mkF m 326 #[.val (.int i0), .val (.int i1), .val (.int (3 : Int32)), .val (.int f), .val (.int v0), .val (.int v1), .val (.int v2), .val (.int v3), .val (.double d0), .second, .val (.double d1), .second, .val (.double d2), .second, .val (.double d3), .second, .val (.ref b89), .val (.ref b97), .val (.ref b106), .val (.int x3), .unset] [(.int (2 : Int32)), (.int f)])) _
          refine XS.iadd X114.here hx rfl (hb hby at_326) rfl ?_
          show Steps p.tables e below (T114.setTop (mkF m 327 #[.val (.int i0), .val (.int i1), .val (.int (3 : Int32)), .val (.int f), .val (.int v0), .val (.int v1), .val (.int v2), .val (.int v3), .val (.double d0), .second, .val (.double d1), .second, .val (.double d2), .second, .val (.double d3), .second, .val (.ref b89), .val (.ref b97), .val (.ref b106), .val (.int x3), .unset] [(.int (f + (2 : Int32)))])) _
          refine XS.istore X114.here hx rfl (hb hby at_327) rfl (l' := #[.val (.int i0), .val (.int i1), .val (.int (3 : Int32)), .val (.int f), .val (.int v0), .val (.int v1), .val (.int v2), .val (.int v3), .val (.double d0), .second, .val (.double d1), .second, .val (.double d2), .second, .val (.double d3), .second, .val (.ref b89), .val (.ref b97), .val (.ref b106), .val (.int (f + (2 : Int32))), .unset]) rfl ?_
          exact Steps.refl _
      · rw [if_neg h1]
        show Steps p.tables e below (T114.setTop (mkF m 308 #[.val (.int i0), .val (.int i1), .val (.int (3 : Int32)), .val (.int f), .val (.int v0), .val (.int v1), .val (.int v2), .val (.int v3), .val (.double d0), .second, .val (.double d1), .second, .val (.double d2), .second, .val (.double d3), .second, .val (.ref b89), .val (.ref b97), .val (.ref b106), .val (.int x3), .unset] [(.int (3 : Int32)), (.int (f + (2 : Int32)))])) _
        refine XS.icmpYes X114.here hx rfl (pc0 := 308) (pc' := 329) rfl (hb hby at_308) rfl (flt h1).2.1 (by decide) (by decide) ?_
        exact Steps.refl _
    generalize hx2 : (if (f + (2 : Int32)) < (3 : Int32) then (if VV (f + (2 : Int32)) = VV f then x3 else (f + (2 : Int32))) else x3) = x2 at c119
    have c120 : Steps p.tables e below S0 (T114.setTop (mkF m 333 #[.val (.int i0), .val (.int i1), .val (.int (3 : Int32)), .val (.int f), .val (.int v0), .val (.int v1), .val (.int v2), .val (.int v3), .val (.double d0), .second, .val (.double d1), .second, .val (.double d2), .second, .val (.double d3), .second, .val (.ref b89), .val (.ref b97), .val (.ref b106), .val (.int x2), .unset] [(.int (3 : Int32)), (.int (f + (1 : Int32)))])) := by
      refine c119.trans ?_
      show Steps p.tables e below (T114.setTop (mkF m 329 #[.val (.int i0), .val (.int i1), .val (.int (3 : Int32)), .val (.int f), .val (.int v0), .val (.int v1), .val (.int v2), .val (.int v3), .val (.double d0), .second, .val (.double d1), .second, .val (.double d2), .second, .val (.double d3), .second, .val (.ref b89), .val (.ref b97), .val (.ref b106), .val (.int x2), .unset] [])) _
      refine XS.iloadN X114.here hx rfl (hb hby at_329) rfl ?_
      show Steps p.tables e below (T114.setTop (mkF m 330 #[.val (.int i0), .val (.int i1), .val (.int (3 : Int32)), .val (.int f), .val (.int v0), .val (.int v1), .val (.int v2), .val (.int v3), .val (.double d0), .second, .val (.double d1), .second, .val (.double d2), .second, .val (.double d3), .second, .val (.ref b89), .val (.ref b97), .val (.ref b106), .val (.int x2), .unset] [(.int f)])) _
      refine XS.iconst X114.here hx rfl (hb hby at_330) ?_
      show Steps p.tables e below (T114.setTop (mkF m 331 #[.val (.int i0), .val (.int i1), .val (.int (3 : Int32)), .val (.int f), .val (.int v0), .val (.int v1), .val (.int v2), .val (.int v3), .val (.double d0), .second, .val (.double d1), .second, .val (.double d2), .second, .val (.double d3), .second, .val (.ref b89), .val (.ref b97), .val (.ref b106), .val (.int x2), .unset] [(.int (1 : Int32)), (.int f)])) _
      refine XS.iadd X114.here hx rfl (hb hby at_331) rfl ?_
      show Steps p.tables e below (T114.setTop (mkF m 332 #[.val (.int i0), .val (.int i1), .val (.int (3 : Int32)), .val (.int f), .val (.int v0), .val (.int v1), .val (.int v2), .val (.int v3), .val (.double d0), .second, .val (.double d1), .second, .val (.double d2), .second, .val (.double d3), .second, .val (.ref b89), .val (.ref b97), .val (.ref b106), .val (.int x2), .unset] [(.int (f + (1 : Int32)))])) _
      refine XS.iloadN X114.here hx rfl (hb hby at_332) rfl ?_
      exact Steps.refl _
    have c121 : Steps p.tables e below S0 (T114.setTop (mkF m 354 #[.val (.int i0), .val (.int i1), .val (.int (3 : Int32)), .val (.int f), .val (.int v0), .val (.int v1), .val (.int v2), .val (.int v3), .val (.double d0), .second, .val (.double d1), .second, .val (.double d2), .second, .val (.double d3), .second, .val (.ref b89), .val (.ref b97), .val (.ref b106), .val (.int (if (f + (1 : Int32)) < (3 : Int32) then (if VV (f + (1 : Int32)) = VV f then x2 else (f + (1 : Int32))) else x2)), .unset] [])) := by
      refine c120.trans ?_
      by_cases h1 : (f + (1 : Int32)) < (3 : Int32)
      · obtain ⟨hq0, hq4⟩ := own_place (k := 1) (n := 3) hf0 hfN (by decide) h1
        rw [if_pos h1]
        by_cases h2 : VV (f + (1 : Int32)) = VV f
        · rw [if_pos h2]
          show Steps p.tables e below (T114.setTop (mkF m 333 #[.val (.int i0), .val (.int i1), .val (.int (3 : Int32)), .val (.int f), .val (.int v0), .val (.int v1), .val (.int v2), .val (.int v3), .val (.double d0), .second, .val (.double d1), .second, .val (.double d2), .second, .val (.double d3), .second, .val (.ref b89), .val (.ref b97), .val (.ref b106), .val (.int x2), .unset] [(.int (3 : Int32)), (.int (f + (1 : Int32)))])) _
          refine XS.icmpNo X114.here hx rfl (hb hby at_333) rfl (tlt h1).2.1 ?_
          show Steps p.tables e below (T114.setTop (mkF m 336 #[.val (.int i0), .val (.int i1), .val (.int (3 : Int32)), .val (.int f), .val (.int v0), .val (.int v1), .val (.int v2), .val (.int v3), .val (.double d0), .second, .val (.double d1), .second, .val (.double d2), .second, .val (.double d3), .second, .val (.ref b89), .val (.ref b97), .val (.ref b106), .val (.int x2), .unset] [])) _
          refine XS.aload X114.here hx rfl (hb hby at_336) rfl rfl ?_
          show Steps p.tables e below (T114.setTop (mkF m 338 #[.val (.int i0), .val (.int i1), .val (.int (3 : Int32)), .val (.int f), .val (.int v0), .val (.int v1), .val (.int v2), .val (.int v3), .val (.double d0), .second, .val (.double d1), .second, .val (.double d2), .second, .val (.double d3), .second, .val (.ref b89), .val (.ref b97), .val (.ref b106), .val (.int x2), .unset] [(.ref b106)])) _
          refine XS.iloadN X114.here hx rfl (hb hby at_338) rfl ?_
          show Steps p.tables e below (T114.setTop (mkF m 339 #[.val (.int i0), .val (.int i1), .val (.int (3 : Int32)), .val (.int f), .val (.int v0), .val (.int v1), .val (.int v2), .val (.int v3), .val (.double d0), .second, .val (.double d1), .second, .val (.double d2), .second, .val (.double d3), .second, .val (.ref b89), .val (.ref b97), .val (.ref b106), .val (.int x2), .unset] [(.int f), (.ref b106)])) _
          refine XS.iconst X114.here hx rfl (hb hby at_339) ?_
          show Steps p.tables e below (T114.setTop (mkF m 340 #[.val (.int i0), .val (.int i1), .val (.int (3 : Int32)), .val (.int f), .val (.int v0), .val (.int v1), .val (.int v2), .val (.int v3), .val (.double d0), .second, .val (.double d1), .second, .val (.double d2), .second, .val (.double d3), .second, .val (.ref b89), .val (.ref b97), .val (.ref b106), .val (.int x2), .unset] [(.int (1 : Int32)), (.int f), (.ref b106)])) _
          refine XS.iadd X114.here hx rfl (hb hby at_340) rfl ?_
          show Steps p.tables e below (T114.setTop (mkF m 341 #[.val (.int i0), .val (.int i1), .val (.int (3 : Int32)), .val (.int f), .val (.int v0), .val (.int v1), .val (.int v2), .val (.int v3), .val (.double d0), .second, .val (.double d1), .second, .val (.double d2), .second, .val (.double d3), .second, .val (.ref b89), .val (.ref b97), .val (.ref b106), .val (.int x2), .unset] [(.int (f + (1 : Int32))), (.ref b106)])) _
          refine X114.iaload hx (j := (f + (1 : Int32))) (v := .int (VV (f + (1 : Int32)))) (by rw [e114]; exact Arv_.1) (State.isArrayOf_alike hZ.alike Arv_.2.1) Arv_.2.2 (inb_of Sv ⟨hq0, hq4⟩) (hVv _ hq0 hq4) (g := (mkF m 341 #[.val (.int i0), .val (.int i1), .val (.int (3 : Int32)), .val (.int f), .val (.int v0), .val (.int v1), .val (.int v2), .val (.int v3), .val (.double d0), .second, .val (.double d1), .second, .val (.double d2), .second, .val (.double d3), .second, .val (.ref b89), .val (.ref b97), .val (.ref b106), .val (.int x2), .unset] [(.int (f + (1 : Int32))), (.ref b106)])) rfl rfl (hb hby at_341) _ ?_
          show Steps p.tables e below (T114.setTop (mkF m 342 #[.val (.int i0), .val (.int i1), .val (.int (3 : Int32)), .val (.int f), .val (.int v0), .val (.int v1), .val (.int v2), .val (.int v3), .val (.double d0), .second, .val (.double d1), .second, .val (.double d2), .second, .val (.double d3), .second, .val (.ref b89), .val (.ref b97), .val (.ref b106), .val (.int x2), .unset] [(.int (VV (f + (1 : Int32))))])) _
          refine XS.aload X114.here hx rfl (hb hby at_342) rfl rfl ?_
          show Steps p.tables e below (T114.setTop (mkF m 344 #[.val (.int i0), .val (.int i1), .val (.int (3 : Int32)), .val (.int f), .val (.int v0), .val (.int v1), .val (.int v2), .val (.int v3), .val (.double d0), .second, .val (.double d1), .second, .val (.double d2), .second, .val (.double d3), .second, .val (.ref b89), .val (.ref b97), .val (.ref b106), .val (.int x2), .unset] [(.ref b106), (.int (VV (f + (1 : Int32))))])) _
          refine XS.iloadN X114.here hx rfl (hb hby at_344) rfl ?_
          show Steps p.tables e below (T114.setTop (mkF m 345 #[.val (.int i0), .val (.int i1), .val (.int (3 : Int32)), .val (.int f), .val (.int v0), .val (.int v1), .val (.int v2), .val (.int v3), .val (.double d0), .second, .val (.double d1), .second, .val (.double d2), .second, .val (.double d3), .second, .val (.ref b89), .val (.ref b97), .val (.ref b106), .val (.int x2), .unset] [(.int f), (.ref b106), (.int (VV (f + (1 : Int32))))])) _
          refine X114.iaload hx (j := f) (v := .int (VV f)) (by rw [e114]; exact Arv_.1) (State.isArrayOf_alike hZ.alike Arv_.2.1) Arv_.2.2 (inb_of Sv ⟨hf0, hf4⟩) (hVv _ hf0 hf4) (g := (mkF m 345 #[.val (.int i0), .val (.int i1), .val (.int (3 : Int32)), .val (.int f), .val (.int v0), .val (.int v1), .val (.int v2), .val (.int v3), .val (.double d0), .second, .val (.double d1), .second, .val (.double d2), .second, .val (.double d3), .second, .val (.ref b89), .val (.ref b97), .val (.ref b106), .val (.int x2), .unset] [(.int f), (.ref b106), (.int (VV (f + (1 : Int32))))])) rfl rfl (hb hby at_345) _ ?_
          show Steps p.tables e below (T114.setTop (mkF m 346 #[.val (.int i0), .val (.int i1), .val (.int (3 : Int32)), .val (.int f), .val (.int v0), .val (.int v1), .val (.int v2), .val (.int v3), .val (.double d0), .second, .val (.double d1), .second, .val (.double d2), .second, .val (.double d3), .second, .val (.ref b89), .val (.ref b97), .val (.ref b106), .val (.int x2), .unset] [(.int (VV f)), (.int (VV (f + (1 : Int32))))])) _
          refine XS.icmpYes X114.here hx rfl (pc0 := 346) (pc' := 354) rfl (hb hby at_346) rfl (teq h2).1 (by decide) (by decide) ?_
          exact Steps.refl _
        · rw [if_neg h2]
          show Steps p.tables e below (T114.setTop (mkF m 333 #[.val (.int i0), .val (.int i1), .val (.int (3 : Int32)), .val (.int f), .val (.int v0), .val (.int v1), .val (.int v2), .val (.int v3), .val (.double d0), .second, .val (.double d1), .second, .val (.double d2), .second, .val (.double d3), .second, .val (.ref b89), .val (.ref b97), .val (.ref b106), .val (.int x2), .unset] [(.int (3 : Int32)), (.int (f + (1 : Int32)))])) _
          refine XS.icmpNo X114.here hx rfl (hb hby at_333) rfl (tlt h1).2.1 ?_
          show Steps p.tables e below (T114.setTop (mkF m 336 #[.val (.int i0), .val (.int i1), .val (.int (3 : Int32)), .val (.int f), .val (.int v0), .val (.int v1), .val (.int v2), .val (.int v3), .val (.double d0), .second, .val (.double d1), .second, .val (.double d2), .second, .val (.double d3), .second, .val (.ref b89), .val (.ref b97), .val (.ref b106), .val (.int x2), .unset] [])) _
          refine XS.aload X114.here hx rfl (hb hby at_336) rfl rfl ?_
          show Steps p.tables e below (T114.setTop (mkF m 338 #[.val (.int i0), .val (.int i1), .val (.int (3 : Int32)), .val (.int f), .val (.int v0), .val (.int v1), .val (.int v2), .val (.int v3), .val (.double d0), .second, .val (.double d1), .second, .val (.double d2), .second, .val (.double d3), .second, .val (.ref b89), .val (.ref b97), .val (.ref b106), .val (.int x2), .unset] [(.ref b106)])) _
          refine XS.iloadN X114.here hx rfl (hb hby at_338) rfl ?_
          show Steps p.tables e below (T114.setTop (mkF m 339 #[.val (.int i0), .val (.int i1), .val (.int (3 : Int32)), .val (.int f), .val (.int v0), .val (.int v1), .val (.int v2), .val (.int v3), .val (.double d0), .second, .val (.double d1), .second, .val (.double d2), .second, .val (.double d3), .second, .val (.ref b89), .val (.ref b97), .val (.ref b106), .val (.int x2), .unset] [(.int f), (.ref b106)])) _
          refine XS.iconst X114.here hx rfl (hb hby at_339) ?_
          show Steps p.tables e below (T114.setTop (mkF m 340 #[.val (.int i0), .val (.int i1), .val (.int (3 : Int32)), .val (.int f), .val (.int v0), .val (.int v1), .val (.int v2), .val (.int v3), .val (.double d0), .second, .val (.double d1), .second, .val (.double d2), .second, .val (.double d3), .second, .val (.ref b89), .val (.ref b97), .val (.ref b106), .val (.int x2), .unset] [(.int (1 : Int32)), (.int f), (.ref b106)])) _
          refine XS.iadd X114.here hx rfl (hb hby at_340) rfl ?_
          show Steps p.tables e below (T114.setTop (mkF m 341 #[.val (.int i0), .val (.int i1), .val (.int (3 : Int32)), .val (.int f), .val (.int v0), .val (.int v1), .val (.int v2), .val (.int v3), .val (.double d0), .second, .val (.double d1), .second, .val (.double d2), .second, .val (.double d3), .second, .val (.ref b89), .val (.ref b97), .val (.ref b106), .val (.int x2), .unset] [(.int (f + (1 : Int32))), (.ref b106)])) _
          refine X114.iaload hx (j := (f + (1 : Int32))) (v := .int (VV (f + (1 : Int32)))) (by rw [e114]; exact Arv_.1) (State.isArrayOf_alike hZ.alike Arv_.2.1) Arv_.2.2 (inb_of Sv ⟨hq0, hq4⟩) (hVv _ hq0 hq4) (g := (mkF m 341 #[.val (.int i0), .val (.int i1), .val (.int (3 : Int32)), .val (.int f), .val (.int v0), .val (.int v1), .val (.int v2), .val (.int v3), .val (.double d0), .second, .val (.double d1), .second, .val (.double d2), .second, .val (.double d3), .second, .val (.ref b89), .val (.ref b97), .val (.ref b106), .val (.int x2), .unset] [(.int (f + (1 : Int32))), (.ref b106)])) rfl rfl (hb hby at_341) _ ?_
          show Steps p.tables e below (T114.setTop (mkF m 342 #[.val (.int i0), .val (.int i1), .val (.int (3 : Int32)), .val (.int f), .val (.int v0), .val (.int v1), .val (.int v2), .val (.int v3), .val (.double d0), .second, .val (.double d1), .second, .val (.double d2), .second, .val (.double d3), .second, .val (.ref b89), .val (.ref b97), .val (.ref b106), .val (.int x2), .unset] [(.int (VV (f + (1 : Int32))))])) _
          refine XS.aload X114.here hx rfl (hb hby at_342) rfl rfl ?_
          show Steps p.tables e below (T114.setTop (mkF m 344 #[.val (.int i0), .val (.int i1), .val (.int (3 : Int32)), .val (.int f), .val (.int v0), .val (.int v1), .val (.int v2), .val (.int v3), .val (.double d0), .second, .val (.double d1), .second, .val (.double d2), .second, .val (.double d3), .second, .val (.ref b89), .val (.ref b97), .val (.ref b106), .val (.int x2), .unset] [(.ref b106), (.int (VV (f + (1 : Int32))))])) _
          refine XS.iloadN X114.here hx rfl (hb hby at_344) rfl ?_
          show Steps p.tables e below (T114.setTop (mkF m 345 #[.val (.int i0), .val (.int i1), .val (.int (3 : Int32)), .val (.int f), .val (.int v0), .val (.int v1), .val (.int v2), .val (.int v3), .val (.double d0), .second, .val (.double d1), .second, .val (.double d2), .second, .val (.double d3), .second, .val (.ref b89), .val (.ref b97), .val (.ref b106), .val (.int x2), .unset] [(.int f), (.ref b106), (.int (VV (f + (1 : Int32))))])) _
          refine X114.iaload hx (j := f) (v := .int (VV f)) (by rw [e114]; exact Arv_.1) (State.isArrayOf_alike hZ.alike Arv_.2.1) Arv_.2.2 (inb_of Sv ⟨hf0, hf4⟩) (hVv _ hf0 hf4) (g := (mkF m 345 #[.val (.int i0), .val (.int i1), .val (.int (3 : Int32)), .val (.int f), .val (.int v0), .val (.int v1), .val (.int v2), .val (.int v3), .val (.double d0), .second, .val (.double d1), .second, .val (.double d2), .second, .val (.double d3), .second, .val (.ref b89), .val (.ref b97), .val (.ref b106), .val (.int x2), .unset] [(.int f), (.ref b106), (.int (VV (f + (1 : Int32))))])) rfl rfl (hb hby at_345) _ ?_
          show Steps p.tables e below (T114.setTop (mkF m 346 #[.val (.int i0), .val (.int i1), .val (.int (3 : Int32)), .val (.int f), .val (.int v0), .val (.int v1), .val (.int v2), .val (.int v3), .val (.double d0), .second, .val (.double d1), .second, .val (.double d2), .second, .val (.double d3), .second, .val (.ref b89), .val (.ref b97), .val (.ref b106), .val (.int x2), .unset] [(.int (VV f)), (.int (VV (f + (1 : Int32))))])) _
          refine XS.icmpNo X114.here hx rfl (hb hby at_346) rfl (feq h2).1 ?_
          show Steps p.tables e below (T114.setTop (mkF m 349 #[.val (.int i0), .val (.int i1), .val (.int (3 : Int32)), .val (.int f), .val (.int v0), .val (.int v1), .val (.int v2), .val (.int v3), .val (.double d0), .second, .val (.double d1), .second, .val (.double d2), .second, .val (.double d3), .second, .val (.ref b89), .val (.ref b97), .val (.ref b106), .val (.int x2), .unset] [])) _
          refine XS.iloadN X114.here hx rfl (hb hby at_349) rfl ?_
          show Steps p.tables e below (T114.setTop (mkF m 350 #[.val (.int i0), .val (.int i1), .val (.int (3 : Int32)), .val (.int f), .val (.int v0), .val (.int v1), .val (.int v2), .val (.int v3), .val (.double d0), .second, .val (.double d1), .second, .val (.double d2), .second, .val (.double d3), .second, .val (.ref b89), .val (.ref b97), .val (.ref b106), .val (.int x2), .unset] [(.int f)])) _
          refine XS.iconst X114.here hx rfl (hb hby at_350) ?_
          show Steps p.tables e below (T114.setTop (mkF m 351 #[.val (.int i0), .val (.int i1), .val (.int (3 : Int32)), .val (.int f), .val (.int v0), .val (.int v1), .val (.int v2), .val (.int v3), .val (.double d0), .second, .val (.double d1), .second, .val (.double d2), .second, .val (.double d3), .second, .val (.ref b89), .val (.ref b97), .val (.ref b106), .val (.int x2), .unset] [(.int (1 : Int32)), (.int f)])) _
          refine XS.iadd X114.here hx rfl (hb hby at_351) rfl ?_
          show Steps p.tables e below (T114.setTop (mkF m 352 #[.val (.int i0), .val (.int i1), .val (.int (3 : Int32)), .val (.int f), .val (.int v0), .val (.int v1), .val (.int v2), .val (.int v3), .val (.double d0), .second, .val (.double d1), .second, .val (.double d2), .second, .val (.double d3), .second, .val (.ref b89), .val (.ref b97), .val (.ref b106), .val (.int x2), .unset] [(.int (f + (1 : Int32)))])) _
          refine XS.istore X114.here hx rfl (hb hby at_352) rfl (l' := #[.val (.int i0), .val (.int i1), .val (.int (3 : Int32)), .val (.int f), .val (.int v0), .val (.int v1), .val (.int v2), .val (.int v3), .val (.double d0), .second, .val (.double d1), .second, .val (.double d2), .second, .val (.double d3), .second, .val (.ref b89), .val (.ref b97), .val (.ref b106), .val (.int (f + (1 : Int32))), .unset]) rfl ?_
          exact Steps.refl _
      · rw [if_neg h1]
        show Steps p.tables e below (T114.setTop (mkF m 333 #[.val (.int i0), .val (.int i1), .val (.int (3 : Int32)), .val (.int f), .val (.int v0), .val (.int v1), .val (.int v2), .val (.int v3), .val (.double d0), .second, .val (.double d1), .second, .val (.double d2), .second, .val (.double d3), .second, .val (.ref b89), .val (.ref b97), .val (.ref b106), .val (.int x2), .unset] [(.int (3 : Int32)), (.int (f + (1 : Int32)))])) _
        refine XS.icmpYes X114.here hx rfl (pc0 := 333) (pc' := 354) rfl (hb hby at_333) rfl (flt h1).2.1 (by decide) (by decide) ?_
        exact Steps.refl _
    generalize hx1 : (if (f + (1 : Int32)) < (3 : Int32) then (if VV (f + (1 : Int32)) = VV f then x2 else (f + (1 : Int32))) else x2) = x1 at c121
    obtain ⟨T122, h122, X122, e122, E122, A122, D122, -, st122⟩ := newO X114 hx hZ hown (hw _ (List.mem_of_getElem? (i := 7) rfl)) (hw _ (List.mem_of_getElem? (i := 8) rfl)) (hw _ (List.mem_of_getElem? (i := 9) rfl)) e114 (g := (mkF m 354 #[.val (.int i0), .val (.int i1), .val (.int (3 : Int32)), .val (.int f), .val (.int v0), .val (.int v1), .val (.int v2), .val (.int v3), .val (.double d0), .second, .val (.double d1), .second, .val (.double d2), .second, .val (.double d3), .second, .val (.ref b89), .val (.ref b97), .val (.ref b106), .val (.int x1), .unset] [])) rfl (hb hby at_354) (by decide) (by decide)
    obtain ⟨b122, g122⟩ : ∃ z, z = h114.size := ⟨_, rfl⟩
    rw [← g122] at A122 D122 st122
    have c122 : Steps p.tables e below S0 (T122.setTop (mkF m 357 #[.val (.int i0), .val (.int i1), .val (.int (3 : Int32)), .val (.int f), .val (.int v0), .val (.int v1), .val (.int v2), .val (.int v3), .val (.double d0), .second, .val (.double d1), .second, .val (.double d2), .second, .val (.double d3), .second, .val (.ref b89), .val (.ref b97), .val (.ref b106), .val (.int x1), .unset] [(.ref b122)])) := by
      refine c121.trans ?_
      show Steps p.tables e below (T114.setTop (mkF m 354 #[.val (.int i0), .val (.int i1), .val (.int (3 : Int32)), .val (.int f), .val (.int v0), .val (.int v1), .val (.int v2), .val (.int v3), .val (.double d0), .second, .val (.double d1), .second, .val (.double d2), .second, .val (.double d3), .second, .val (.ref b89), .val (.ref b97), .val (.ref b106), .val (.int x1), .unset] [])) _
      refine st122 _ ?_
      exact Steps.refl _
    have go : n0 ≤ b122 := Nat.le_trans Zh (Nat.le_of_eq g122.symm)
    have Zh := Nat.le_trans Zh E122.1
    have hk := Nat.le_trans hk E122.1
    have Fquery : Fld Z h122 b122 "com/example/canvass/canvass/core/Ranking" "query" "Ljava/lang/String;" .null := D122 (Or.inr (hw _ (List.mem_of_getElem? (i := 25) rfl))) (ty := (.object "java/lang/String")) (by decide)
    have Fdocuments : Fld Z h122 b122 "com/example/canvass/canvass/core/Ranking" "documents" "[I" .null := D122 (Or.inr (hw _ (List.mem_of_getElem? (i := 27) rfl))) (ty := (.array .int)) (by decide)
    have Fscores : Fld Z h122 b122 "com/example/canvass/canvass/core/Ranking" "scores" "[D" .null := D122 (Or.inr (hw _ (List.mem_of_getElem? (i := 29) rfl))) (ty := (.array .double)) (by decide)
    have c123 : Steps p.tables e below S0 (T122.setTop (mkF m 358 #[.val (.int i0), .val (.int i1), .val (.int (3 : Int32)), .val (.int f), .val (.int v0), .val (.int v1), .val (.int v2), .val (.int v3), .val (.double d0), .second, .val (.double d1), .second, .val (.double d2), .second, .val (.double d3), .second, .val (.ref b89), .val (.ref b97), .val (.ref b106), .val (.int x1), .unset] [(.ref b122), (.ref b122)])) := by
      refine c122.trans ?_
      show Steps p.tables e below (T122.setTop (mkF m 357 #[.val (.int i0), .val (.int i1), .val (.int (3 : Int32)), .val (.int f), .val (.int v0), .val (.int v1), .val (.int v2), .val (.int v3), .val (.double d0), .second, .val (.double d1), .second, .val (.double d2), .second, .val (.double d3), .second, .val (.ref b89), .val (.ref b97), .val (.ref b106), .val (.int x1), .unset] [(.ref b122)])) _
      refine XS.dup X122.here hx rfl (hb hby at_357) rfl rfl ?_
      exact Steps.refl _
    obtain ⟨q124, T124, h124, k124, X124, e124, E124, hS, hk, hZ, hown, st124⟩ := ldcS X122 hx hZ hown (hw _ (List.mem_of_getElem? (i := 10) rfl)) (own_wS hw) e122 hS hk (g := (mkF m 358 #[.val (.int i0), .val (.int i1), .val (.int (3 : Int32)), .val (.int f), .val (.int v0), .val (.int v1), .val (.int v2), .val (.int v3), .val (.double d0), .second, .val (.double d1), .second, .val (.double d2), .second, .val (.double d3), .second, .val (.ref b89), .val (.ref b97), .val (.ref b106), .val (.int x1), .unset] [(.ref b122), (.ref b122)])) rfl (hb hby at_358) (n := 4) (by decide) (by decide) (by decide) (by decide)
    have c124 : Steps p.tables e below S0 (T124.setTop (mkF m 360 #[.val (.int i0), .val (.int i1), .val (.int (3 : Int32)), .val (.int f), .val (.int v0), .val (.int v1), .val (.int v2), .val (.int v3), .val (.double d0), .second, .val (.double d1), .second, .val (.double d2), .second, .val (.double d3), .second, .val (.ref b89), .val (.ref b97), .val (.ref b106), .val (.int x1), .unset] [(.ref q124), (.ref b122), (.ref b122)])) := by
      refine c123.trans ?_
      show Steps p.tables e below (T122.setTop (mkF m 358 #[.val (.int i0), .val (.int i1), .val (.int (3 : Int32)), .val (.int f), .val (.int v0), .val (.int v1), .val (.int v2), .val (.int v3), .val (.double d0), .second, .val (.double d1), .second, .val (.double d2), .second, .val (.double d3), .second, .val (.ref b89), .val (.ref b97), .val (.ref b106), .val (.int x1), .unset] [(.ref b122), (.ref b122)])) _
      refine st124 _ ?_
      exact Steps.refl _
    have Zh := Nat.le_trans Zh E124.1
    obtain ⟨cls_, Ars, -, Ss, Ms, Hs, -⟩ := (Vs.ext E122).ext E124
    obtain ⟨cld, Ard, -, Sd, Md, -, -⟩ := (Vd.ext E122).ext E124
    have hDs := own_hD3 (d0 := d0) (d1 := d1) (d2 := d2) Ss Hs
    generalize hDD : own_D d0 d1 d2 d2 = D at hDs
    have c125 : Steps p.tables e below S0 (T124.setTop (mkF m 364 #[.val (.int i0), .val (.int i1), .val (.int (3 : Int32)), .val (.int f), .val (.int v0), .val (.int v1), .val (.int v2), .val (.int v3), .val (.double d0), .second, .val (.double d1), .second, .val (.double d2), .second, .val (.double d3), .second, .val (.ref b89), .val (.ref b97), .val (.ref b106), .val (.int x1), .unset] [(.ref b89), (.ref b97), (.ref q124), (.ref b122), (.ref b122)])) := by
      refine c124.trans ?_
      show Steps p.tables e below (T124.setTop (mkF m 360 #[.val (.int i0), .val (.int i1), .val (.int (3 : Int32)), .val (.int f), .val (.int v0), .val (.int v1), .val (.int v2), .val (.int v3), .val (.double d0), .second, .val (.double d1), .second, .val (.double d2), .second, .val (.double d3), .second, .val (.ref b89), .val (.ref b97), .val (.ref b106), .val (.int x1), .unset] [(.ref q124), (.ref b122), (.ref b122)])) _
      refine XS.aload X124.here hx rfl (hb hby at_360) rfl rfl ?_
      show Steps p.tables e below (T124.setTop (mkF m 362 #[.val (.int i0), .val (.int i1), .val (.int (3 : Int32)), .val (.int f), .val (.int v0), .val (.int v1), .val (.int v2), .val (.int v3), .val (.double d0), .second, .val (.double d1), .second, .val (.double d2), .second, .val (.double d3), .second, .val (.ref b89), .val (.ref b97), .val (.ref b106), .val (.int x1), .unset] [(.ref b97), (.ref q124), (.ref b122), (.ref b122)])) _
      refine XS.aload X124.here hx rfl (hb hby at_362) rfl rfl ?_
      exact Steps.refl _
    obtain ⟨_, _, ⟨T126, L126, k126, n126⟩, -, X126, ⟨Lc126, hQ126, l126, y126, z126⟩, st126⟩ := X124.specialBack hx (y := (⟨"com/example/canvass/canvass/core/Ranking", "<init>", "(Ljava/lang/String;[I[D)V"⟩ : MethodName)) rfl hown (mvT hZ (hw _ (List.mem_of_getElem? (i := 18) rfl))) (mvT hZ (hw _ (List.mem_of_getElem? (i := 19) rfl))) (mvT hZ (hw _ (List.mem_of_getElem? (i := 20) rfl))) (by decide) (backOf (W := 1) (rm19 l Z a0 hw [] b122 q124 b97 b89 cld cls_ (3 : Int32) h124 n0 Zh Ard Sd Ars Ss (by decide) (A122.ext E124) (Fquery.ext E124) (Fdocuments.ext E124) (Fscores.ext E124) go) hZ (hw _ (List.mem_of_getElem? (i := 20) rfl)) (hw _ (List.mem_of_getElem? (i := 9) rfl)) (by decide) (by decide)) (g := (mkF m 364 #[.val (.int i0), .val (.int i1), .val (.int (3 : Int32)), .val (.int f), .val (.int v0), .val (.int v1), .val (.int v2), .val (.int v3), .val (.double d0), .second, .val (.double d1), .second, .val (.double d2), .second, .val (.double d3), .second, .val (.ref b89), .val (.ref b97), .val (.ref b106), .val (.int x1), .unset] [(.ref b89), (.ref b97), (.ref q124), (.ref b122), (.ref b122)])) rfl (by rw [hml]; rfl) (Steps.refl _) (a := b122) (argsL := [(.ref q124), (.ref b97), (.ref b89)]) (rest := [(.ref b122)]) (lenOf pd2 rfl) rfl (by show 2 * 0 + _ ≤ _; exact Nat.le_of_eq rfl) (hb hby at_364) (fun _ _ => ⟨rfl, e124, (by decide : 6 + 0 ≤ _), (by decide : 21 + 0 ≤ _)⟩)
    dsimp only [Pt.U, Pt.locs, Pt.cells, Pt.slots] at X126 l126 y126 z126 st126 hQ126
    subst l126 y126 z126
    obtain ⟨rfl, Ni, Ki, Ei, Fi⟩ := hQ126
    have c126 : Steps p.tables e below S0 (T126.setTop (mkF m 367 #[.val (.int i0), .val (.int i1), .val (.int (3 : Int32)), .val (.int f), .val (.int v0), .val (.int v1), .val (.int v2), .val (.int v3), .val (.double d0), .second, .val (.double d1), .second, .val (.double d2), .second, .val (.double d3), .second, .val (.ref b89), .val (.ref b97), .val (.ref b106), .val (.int x1), .unset] [(.ref b122)])) := by
      refine c125.trans ?_
      show Steps p.tables e below (T124.setTop (mkF m 364 #[.val (.int i0), .val (.int i1), .val (.int (3 : Int32)), .val (.int f), .val (.int v0), .val (.int v1), .val (.int v2), .val (.int v3), .val (.double d0), .second, .val (.double d1), .second, .val (.double d2), .second, .val (.double d3), .second, .val (.ref b89), .val (.ref b97), .val (.ref b106), .val (.int x1), .unset] [(.ref b89), (.ref b97), (.ref q124), (.ref b122), (.ref b122)])) _
      refine st126.trans ?_
      exact Steps.refl _
    have Zh := Nat.le_trans Zh Ki.1
    have hk := Nat.le_trans hk Ki.1
    have Arz : Arr Z T126.heap b89 cls_ .double := ⟨Ki.2.1 _ _ Ars.1 (fun q => Nat.ne_of_lt (Nat.lt_of_lt_of_le Vs.lt (Nat.le_of_eq g122.symm)) (List.mem_singleton.mp q)), Ars.2⟩
    have c127 : Steps p.tables e below S0 (T126.setTop (mkF m 372 #[.val (.int i0), .val (.int i1), .val (.int (3 : Int32)), .val (.int f), .val (.int v0), .val (.int v1), .val (.int v2), .val (.int v3), .val (.double d0), .second, .val (.double d1), .second, .val (.double d2), .second, .val (.double d3), .second, .val (.ref b89), .val (.ref b97), .val (.ref b106), .val (.int x1), .val (.ref b122)] [(.int f), (.ref b122)])) := by
      refine c126.trans ?_
      show Steps p.tables e below (T126.setTop (mkF m 367 #[.val (.int i0), .val (.int i1), .val (.int (3 : Int32)), .val (.int f), .val (.int v0), .val (.int v1), .val (.int v2), .val (.int v3), .val (.double d0), .second, .val (.double d1), .second, .val (.double d2), .second, .val (.double d3), .second, .val (.ref b89), .val (.ref b97), .val (.ref b106), .val (.int x1), .unset] [(.ref b122)])) _
      refine XS.astore X126.here hx rfl (hb hby at_367) rfl rfl (l' := #[.val (.int i0), .val (.int i1), .val (.int (3 : Int32)), .val (.int f), .val (.int v0), .val (.int v1), .val (.int v2), .val (.int v3), .val (.double d0), .second, .val (.double d1), .second, .val (.double d2), .second, .val (.double d3), .second, .val (.ref b89), .val (.ref b97), .val (.ref b106), .val (.int x1), .val (.ref b122)]) rfl ?_
      show Steps p.tables e below (T126.setTop (mkF m 369 #[.val (.int i0), .val (.int i1), .val (.int (3 : Int32)), .val (.int f), .val (.int v0), .val (.int v1), .val (.int v2), .val (.int v3), .val (.double d0), .second, .val (.double d1), .second, .val (.double d2), .second, .val (.double d3), .second, .val (.ref b89), .val (.ref b97), .val (.ref b106), .val (.int x1), .val (.ref b122)] [])) _
      refine XS.aload X126.here hx rfl (hb hby at_369) rfl rfl ?_
      show Steps p.tables e below (T126.setTop (mkF m 371 #[.val (.int i0), .val (.int i1), .val (.int (3 : Int32)), .val (.int f), .val (.int v0), .val (.int v1), .val (.int v2), .val (.int v3), .val (.double d0), .second, .val (.double d1), .second, .val (.double d2), .second, .val (.double d3), .second, .val (.ref b89), .val (.ref b97), .val (.ref b106), .val (.int x1), .val (.ref b122)] [(.ref b122)])) _
      refine XS.iloadN X126.here hx rfl (hb hby at_371) rfl ?_
      exact Steps.refl _
    obtain ⟨cq128, kq128, q128a, q128b, q128c⟩ := isOf hZ rfl Ei
    obtain ⟨_, _, ⟨T128, L128, k128, n128⟩, -, X128, ⟨Lc128, hQ128, l128, y128, z128⟩, st128⟩ := X126.virtualBack hx (y := (⟨"com/example/canvass/canvass/core/Ranking", "endOfTie", "(I)I"⟩ : MethodName)) (z := (⟨"com/example/canvass/canvass/core/Ranking", "endOfTie", "(I)I"⟩ : MethodName)) hown (mvT hZ (hw _ (List.mem_of_getElem? (i := 30) rfl))) (mvT hZ (hw _ (List.mem_of_getElem? (i := 31) rfl))) (notFace_of_selects (args := #[]) (mvT hZ (hw _ (List.mem_of_getElem? (i := 33) rfl)))) (mvT hZ (hw _ (List.mem_of_getElem? (i := 33) rfl))) (mvT hZ (hw _ (List.mem_of_getElem? (i := 32) rfl))) (by decide) (backOf (W := 0) (rm196 l Z a0 hw [] b122 b89 cls_ D (3 : Int32) f T126.heap n0 Zh Fi Arz Ss hDs (by decide) (by decide) hf0 hfN) hZ (hw _ (List.mem_of_getElem? (i := 34) rfl)) (hw _ (List.mem_of_getElem? (i := 9) rfl)) (by decide) (by decide)) q128a q128c (g := (mkF m 372 #[.val (.int i0), .val (.int i1), .val (.int (3 : Int32)), .val (.int f), .val (.int v0), .val (.int v1), .val (.int v2), .val (.int v3), .val (.double d0), .second, .val (.double d1), .second, .val (.double d2), .second, .val (.double d3), .second, .val (.ref b89), .val (.ref b97), .val (.ref b106), .val (.int x1), .val (.ref b122)] [(.int f), (.ref b122)])) rfl (by rw [hml]; rfl) (Steps.refl _) (argsL := [(.int f)]) (rest := []) (lenOf pd3 rfl) rfl (by show 2 * 0 + _ ≤ _; exact Nat.le_of_eq rfl) (hb hby at_372) (fun _ _ => ⟨rfl, rfl, (by decide : 6 + 0 ≤ _), (by decide : 21 + 0 ≤ _)⟩)
    dsimp only [Pt.U, Pt.locs, Pt.cells, Pt.slots] at X128 l128 y128 z128 st128 hQ128
    subst l128 y128 z128
    obtain ⟨rfl, Nz, ez⟩ := hQ128
    have c128 : Steps p.tables e below S0 (T128.setTop (mkF m 375 #[.val (.int i0), .val (.int i1), .val (.int (3 : Int32)), .val (.int f), .val (.int v0), .val (.int v1), .val (.int v2), .val (.int v3), .val (.double d0), .second, .val (.double d1), .second, .val (.double d2), .second, .val (.double d3), .second, .val (.ref b89), .val (.ref b97), .val (.ref b106), .val (.int x1), .val (.ref b122)] [(.int (own_eot (fun k => decide (cmpValue (FP.dcmp (D k) (D f)) .l = 0)) (3 : Int32) 5 (f + 1)))])) := by
      refine c127.trans ?_
      show Steps p.tables e below (T126.setTop (mkF m 372 #[.val (.int i0), .val (.int i1), .val (.int (3 : Int32)), .val (.int f), .val (.int v0), .val (.int v1), .val (.int v2), .val (.int v3), .val (.double d0), .second, .val (.double d1), .second, .val (.double d2), .second, .val (.double d3), .second, .val (.ref b89), .val (.ref b97), .val (.ref b106), .val (.int x1), .val (.ref b122)] [(.int f), (.ref b122)])) _
      refine st128.trans ?_
      exact Steps.refl _
    have hlaw : (own_eot (fun k => decide (cmpValue (FP.dcmp (D k) (D f)) .l = 0)) (3 : Int32) 5 (f + 1)) = x1 := by
      subst hx3 hx2 hx1 hVV hDD
      exact own_law3 f hf0 hfN hd0 hd1 hd2 hd3
    have c129 : Steps p.tables e below S0 (T128.setTop (mkF m 385 #[.val (.int i0), .val (.int i1), .val (.int (3 : Int32)), .val (.int f), .val (.int v0), .val (.int v1), .val (.int v2), .val (.int v3), .val (.double d0), .second, .val (.double d1), .second, .val (.double d2), .second, .val (.double d3), .second, .val (.ref b89), .val (.ref b97), .val (.ref b106), .val (.int x1), .val (.ref b122)] [(.int (1 : Int32))])) := by
      refine c128.trans ?_
      show Steps p.tables e below (T128.setTop (mkF m 375 #[.val (.int i0), .val (.int i1), .val (.int (3 : Int32)), .val (.int f), .val (.int v0), .val (.int v1), .val (.int v2), .val (.int v3), .val (.double d0), .second, .val (.double d1), .second, .val (.double d2), .second, .val (.double d3), .second, .val (.ref b89), .val (.ref b97), .val (.ref b106), .val (.int x1), .val (.ref b122)] [(.int (own_eot (fun k => decide (cmpValue (FP.dcmp (D k) (D f)) .l = 0)) (3 : Int32) 5 (f + 1)))])) _
      refine XS.iload X128.here hx rfl (hb hby at_375) rfl ?_
      show Steps p.tables e below (T128.setTop (mkF m 377 #[.val (.int i0), .val (.int i1), .val (.int (3 : Int32)), .val (.int f), .val (.int v0), .val (.int v1), .val (.int v2), .val (.int v3), .val (.double d0), .second, .val (.double d1), .second, .val (.double d2), .second, .val (.double d3), .second, .val (.ref b89), .val (.ref b97), .val (.ref b106), .val (.int x1), .val (.ref b122)] [(.int x1), (.int (own_eot (fun k => decide (cmpValue (FP.dcmp (D k) (D f)) .l = 0)) (3 : Int32) 5 (f + 1)))])) _
      refine XS.icmpNo X128.here hx rfl (hb hby at_377) rfl (teq hlaw).2 ?_
      show Steps p.tables e below (T128.setTop (mkF m 380 #[.val (.int i0), .val (.int i1), .val (.int (3 : Int32)), .val (.int f), .val (.int v0), .val (.int v1), .val (.int v2), .val (.int v3), .val (.double d0), .second, .val (.double d1), .second, .val (.double d2), .second, .val (.double d3), .second, .val (.ref b89), .val (.ref b97), .val (.ref b106), .val (.int x1), .val (.ref b122)] [])) _
      refine XS.iconst X128.here hx rfl (hb hby at_380) ?_
      show Steps p.tables e below (T128.setTop (mkF m 381 #[.val (.int i0), .val (.int i1), .val (.int (3 : Int32)), .val (.int f), .val (.int v0), .val (.int v1), .val (.int v2), .val (.int v3), .val (.double d0), .second, .val (.double d1), .second, .val (.double d2), .second, .val (.double d3), .second, .val (.ref b89), .val (.ref b97), .val (.ref b106), .val (.int x1), .val (.ref b122)] [(.int (1 : Int32))])) _
      refine XS.goto X128.here hx rfl (pc0 := 381) (pc' := 385) rfl (hb hby at_381) (by decide) (by decide) ?_
      exact Steps.refl _
    obtain ⟨fs, hr, hrun, hended, hW⟩ := X128.leaveW hS (by rw [ez]; exact hk) (v := some (.int 1)) (fun h => by rw [Bd.returns] at h; cases h)
    refine ⟨_, _, c129.trans ?_, hrun, hended, _, _, rfl, ?_, hW.1, hW.2.1, hW.2.2.1, hW.2.2.2.mono (by decide) (by decide)⟩
    · show Steps p.tables e below (T128.setTop (mkF m 385 #[.val (.int i0), .val (.int i1), .val (.int (3 : Int32)), .val (.int f), .val (.int v0), .val (.int v1), .val (.int v2), .val (.int v3), .val (.double d0), .second, .val (.double d1), .second, .val (.double d2), .second, .val (.double d3), .second, .val (.ref b89), .val (.ref b97), .val (.ref b106), .val (.int x1), .val (.ref b122)] [(.int (1 : Int32))])) _
      exact retN X128 hx (t := .boolean) Bd.returns (by simp) (hb hby at_385) hr
    · show Q0 Z i0 i1 h0 n0 _ T128.heap _
      rw [ez]
      exact ⟨rfl, Fr.app (Fr.app Nv3 Ni) Nz⟩
  · subst hcase
    clear hN hNz
    have hf4 : f < 4 := own_f4 hfN (by decide)
    have c130 : Steps p.tables e below S0 (T11.setTop (mkF m 205 #[.val (.int i0), .val (.int i1), .val (.int (4 : Int32)), .val (.int f), .val (.int v0), .val (.int v1), .val (.int v2), .val (.int v3), .val (.double d0), .second, .val (.double d1), .second, .val (.double d2), .second, .val (.double d3), .second, .unset, .unset, .unset, .unset, .unset] [])) := by
      refine c12.trans ?_
      show Steps p.tables e below (T11.setTop (mkF m 99 #[.val (.int i0), .val (.int i1), .val (.int (4 : Int32)), .val (.int f), .val (.int v0), .val (.int v1), .val (.int v2), .val (.int v3), .val (.double d0), .second, .val (.double d1), .second, .val (.double d2), .second, .val (.double d3), .second, .unset, .unset, .unset, .unset, .unset] [(.int (1 : Int32)), (.int (4 : Int32))])) _
      refine XS.icmpYes X11.here hx rfl (pc0 := 99) (pc' := 124) rfl (hb hby at_99) rfl (feq (by decide)).2 (by decide) (by decide) ?_
      show Steps p.tables e below (T11.setTop (mkF m 124 #[.val (.int i0), .val (.int i1), .val (.int (4 : Int32)), .val (.int f), .val (.int v0), .val (.int v1), .val (.int v2), .val (.int v3), .val (.double d0), .second, .val (.double d1), .second, .val (.double d2), .second, .val (.double d3), .second, .unset, .unset, .unset, .unset, .unset] [])) _
      refine XS.iloadN X11.here hx rfl (hb hby at_124) rfl ?_
      show Steps p.tables e below (T11.setTop (mkF m 125 #[.val (.int i0), .val (.int i1), .val (.int (4 : Int32)), .val (.int f), .val (.int v0), .val (.int v1), .val (.int v2), .val (.int v3), .val (.double d0), .second, .val (.double d1), .second, .val (.double d2), .second, .val (.double d3), .second, .unset, .unset, .unset, .unset, .unset] [(.int (4 : Int32))])) _
      refine XS.iconst X11.here hx rfl (hb hby at_125) ?_
      show Steps p.tables e below (T11.setTop (mkF m 126 #[.val (.int i0), .val (.int i1), .val (.int (4 : Int32)), .val (.int f), .val (.int v0), .val (.int v1), .val (.int v2), .val (.int v3), .val (.double d0), .second, .val (.double d1), .second, .val (.double d2), .second, .val (.double d3), .second, .unset, .unset, .unset, .unset, .unset] [(.int (2 : Int32)), (.int (4 : Int32))])) _
      refine XS.icmpYes X11.here hx rfl (pc0 := 126) (pc' := 160) rfl (hb hby at_126) rfl (feq (by decide)).2 (by decide) (by decide) ?_
      show Steps p.tables e below (T11.setTop (mkF m 160 #[.val (.int i0), .val (.int i1), .val (.int (4 : Int32)), .val (.int f), .val (.int v0), .val (.int v1), .val (.int v2), .val (.int v3), .val (.double d0), .second, .val (.double d1), .second, .val (.double d2), .second, .val (.double d3), .second, .unset, .unset, .unset, .unset, .unset] [])) _
      refine XS.iloadN X11.here hx rfl (hb hby at_160) rfl ?_
      show Steps p.tables e below (T11.setTop (mkF m 161 #[.val (.int i0), .val (.int i1), .val (.int (4 : Int32)), .val (.int f), .val (.int v0), .val (.int v1), .val (.int v2), .val (.int v3), .val (.double d0), .second, .val (.double d1), .second, .val (.double d2), .second, .val (.double d3), .second, .unset, .unset, .unset, .unset, .unset] [(.int (4 : Int32))])) _
      refine XS.iconst X11.here hx rfl (hb hby at_161) ?_
      show Steps p.tables e below (T11.setTop (mkF m 162 #[.val (.int i0), .val (.int i1), .val (.int (4 : Int32)), .val (.int f), .val (.int v0), .val (.int v1), .val (.int v2), .val (.int v3), .val (.double d0), .second, .val (.double d1), .second, .val (.double d2), .second, .val (.double d3), .second, .unset, .unset, .unset, .unset, .unset] [(.int (3 : Int32)), (.int (4 : Int32))])) _
      refine XS.icmpYes X11.here hx rfl (pc0 := 162) (pc' := 205) rfl (hb hby at_162) rfl (feq (by decide)).2 (by decide) (by decide) ?_
      exact Steps.refl _
    have c131 : Steps p.tables e below S0 (T11.setTop (mkF m 206 #[.val (.int i0), .val (.int i1), .val (.int (4 : Int32)), .val (.int f), .val (.int v0), .val (.int v1), .val (.int v2), .val (.int v3), .val (.double d0), .second, .val (.double d1), .second, .val (.double d2), .second, .val (.double d3), .second, .unset, .unset, .unset, .unset, .unset] [(.int (4 : Int32))])) := by
      refine c130.trans ?_
      show Steps p.tables e below (T11.setTop (mkF m 205 #[.val (.int i0), .val (.int i1), .val (.int (4 : Int32)), .val (.int f), .val (.int v0), .val (.int v1), .val (.int v2), .val (.int v3), .val (.double d0), .second, .val (.double d1), .second, .val (.double d2), .second, .val (.double d3), .second, .unset, .unset, .unset, .unset, .unset] [])) _
      refine XS.iconst X11.here hx rfl (hb hby at_205) ?_
      exact Steps.refl _
    obtain ⟨T132, h132, kA132, X132, e132, E132, A132, st132⟩ := newP X11 hx hZ (hw _ (List.mem_of_getElem? (i := 5) rfl)) es3 (g := (mkF m 206 #[.val (.int i0), .val (.int i1), .val (.int (4 : Int32)), .val (.int f), .val (.int v0), .val (.int v1), .val (.int v2), .val (.int v3), .val (.double d0), .second, .val (.double d1), .second, .val (.double d2), .second, .val (.double d3), .second, .unset, .unset, .unset, .unset, .unset] [(.int (4 : Int32))])) rfl (hb hby at_206) rfl (by decide : ¬ ((4 : Int32) < (0 : Int32))) (cap := 4) (by decide) (by decide) (by decide) (by decide)
    obtain ⟨b132, g132⟩ : ∃ z, z = h0.size := ⟨_, rfl⟩
    rw [← g132] at A132 st132
    have c132 : Steps p.tables e below S0 (T132.setTop (mkF m 208 #[.val (.int i0), .val (.int i1), .val (.int (4 : Int32)), .val (.int f), .val (.int v0), .val (.int v1), .val (.int v2), .val (.int v3), .val (.double d0), .second, .val (.double d1), .second, .val (.double d2), .second, .val (.double d3), .second, .unset, .unset, .unset, .unset, .unset] [(.ref b132)])) := by
      refine c131.trans ?_
      show Steps p.tables e below (T11.setTop (mkF m 206 #[.val (.int i0), .val (.int i1), .val (.int (4 : Int32)), .val (.int f), .val (.int v0), .val (.int v1), .val (.int v2), .val (.int v3), .val (.double d0), .second, .val (.double d1), .second, .val (.double d2), .second, .val (.double d3), .second, .unset, .unset, .unset, .unset, .unset] [(.int (4 : Int32))])) _
      refine st132 _ ?_
      exact Steps.refl _
    have V132 := Arv.new A132 (by decide)
    have gb132 : n0 ≤ b132 := Nat.le_trans Zh (Nat.le_of_eq g132.symm)
    have Zh := Nat.le_trans Zh E132.1
    have hk := Nat.le_trans hk E132.1
    have c133 : Steps p.tables e below S0 (T132.setTop (mkF m 212 #[.val (.int i0), .val (.int i1), .val (.int (4 : Int32)), .val (.int f), .val (.int v0), .val (.int v1), .val (.int v2), .val (.int v3), .val (.double d0), .second, .val (.double d1), .second, .val (.double d2), .second, .val (.double d3), .second, .unset, .unset, .unset, .unset, .unset] [(.double d0), (.int (0 : Int32)), (.ref b132), (.ref b132)])) := by
      refine c132.trans ?_
      show Steps p.tables e below (T132.setTop (mkF m 208 #[.val (.int i0), .val (.int i1), .val (.int (4 : Int32)), .val (.int f), .val (.int v0), .val (.int v1), .val (.int v2), .val (.int v3), .val (.double d0), .second, .val (.double d1), .second, .val (.double d2), .second, .val (.double d3), .second, .unset, .unset, .unset, .unset, .unset] [(.ref b132)])) _
      refine XS.dup X132.here hx rfl (hb hby at_208) rfl rfl ?_
      show Steps p.tables e below (T132.setTop (mkF m 209 #[.val (.int i0), .val (.int i1), .val (.int (4 : Int32)), .val (.int f), .val (.int v0), .val (.int v1), .val (.int v2), .val (.int v3), .val (.double d0), .second, .val (.double d1), .second, .val (.double d2), .second, .val (.double d3), .second, .unset, .unset, .unset, .unset, .unset] [(.ref b132), (.ref b132)])) _
      refine XS.iconst X132.here hx rfl (hb hby at_209) ?_
      show Steps p.tables e below (T132.setTop (mkF m 210 #[.val (.int i0), .val (.int i1), .val (.int (4 : Int32)), .val (.int f), .val (.int v0), .val (.int v1), .val (.int v2), .val (.int v3), .val (.double d0), .second, .val (.double d1), .second, .val (.double d2), .second, .val (.double d3), .second, .unset, .unset, .unset, .unset, .unset] [(.int (0 : Int32)), (.ref b132), (.ref b132)])) _
      refine XS.dload X132.here hx rfl (hb hby at_210) rfl ?_
      exact Steps.refl _
    have Vp134 : Arv Z _ b132 kA132 .double (4 : Int32) [(.double 0)] (.double 0) := V132.pad (pad_rep [] (.double 0) 1)
    obtain ⟨cl134, Ar134, qr134, S134, M134, Hs134, U134⟩ := Vp134
    obtain ⟨T134, h134, X134, e134, W134, st134⟩ := stD X132 hx hZ e132 Ar134 (j := (0 : Int32)) (inb_of S134 ⟨(by decide), (by decide)⟩) (g := (mkF m 212 #[.val (.int i0), .val (.int i1), .val (.int (4 : Int32)), .val (.int f), .val (.int v0), .val (.int v1), .val (.int v2), .val (.int v3), .val (.double d0), .second, .val (.double d1), .second, .val (.double d2), .second, .val (.double d3), .second, .unset, .unset, .unset, .unset, .unset] [(.double d0), (.int (0 : Int32)), (.ref b132), (.ref b132)])) rfl rfl (hb hby at_212)
    have V134 : Arv Z h134 b132 kA132 .double (4 : Int32) [(.double d0)] (.double 0) := Arv.set Ar134 qr134 S134 M134 Hs134 U134 rfl W134 0 rfl (Nat.le_of_ble_eq_true rfl)
    have c134 : Steps p.tables e below S0 (T134.setTop (mkF m 213 #[.val (.int i0), .val (.int i1), .val (.int (4 : Int32)), .val (.int f), .val (.int v0), .val (.int v1), .val (.int v2), .val (.int v3), .val (.double d0), .second, .val (.double d1), .second, .val (.double d2), .second, .val (.double d3), .second, .unset, .unset, .unset, .unset, .unset] [(.ref b132)])) := by
      refine c133.trans ?_
      show Steps p.tables e below (T132.setTop (mkF m 212 #[.val (.int i0), .val (.int i1), .val (.int (4 : Int32)), .val (.int f), .val (.int v0), .val (.int v1), .val (.int v2), .val (.int v3), .val (.double d0), .second, .val (.double d1), .second, .val (.double d2), .second, .val (.double d3), .second, .unset, .unset, .unset, .unset, .unset] [(.double d0), (.int (0 : Int32)), (.ref b132), (.ref b132)])) _
      refine st134 _ ?_
      exact Steps.refl _
    have Ns0 := Fr.snoc X134 Na3 gb132
    have Zh := Nat.le_trans Zh (Nat.le_of_eq (own_wsz W134).symm)
    have hk := Nat.le_trans hk (Nat.le_of_eq (own_wsz W134).symm)
    have c135 : Steps p.tables e below S0 (T134.setTop (mkF m 217 #[.val (.int i0), .val (.int i1), .val (.int (4 : Int32)), .val (.int f), .val (.int v0), .val (.int v1), .val (.int v2), .val (.int v3), .val (.double d0), .second, .val (.double d1), .second, .val (.double d2), .second, .val (.double d3), .second, .unset, .unset, .unset, .unset, .unset] [(.double d1), (.int (1 : Int32)), (.ref b132), (.ref b132)])) := by
      refine c134.trans ?_
      show Steps p.tables e below (T134.setTop (mkF m 213 #[.val (.int i0), .val (.int i1), .val (.int (4 : Int32)), .val (.int f), .val (.int v0), .val (.int v1), .val (.int v2), .val (.int v3), .val (.double d0), .second, .val (.double d1), .second, .val (.double d2), .second, .val (.double d3), .second, .unset, .unset, .unset, .unset, .unset] [(.ref b132)])) _
      refine XS.dup X134.here hx rfl (hb hby at_213) rfl rfl ?_
      show Steps p.tables e below (T134.setTop (mkF m 214 #[.val (.int i0), .val (.int i1), .val (.int (4 : Int32)), .val (.int f), .val (.int v0), .val (.int v1), .val (.int v2), .val (.int v3), .val (.double d0), .second, .val (.double d1), .second, .val (.double d2), .second, .val (.double d3), .second, .unset, .unset, .unset, .unset, .unset] [(.ref b132), (.ref b132)])) _
      refine XS.iconst X134.here hx rfl (hb hby at_214) ?_
      show Steps p.tables e below (T134.setTop (mkF m 215 #[.val (.int i0), .val (.int i1), .val (.int (4 : Int32)), .val (.int f), .val (.int v0), .val (.int v1), .val (.int v2), .val (.int v3), .val (.double d0), .second, .val (.double d1), .second, .val (.double d2), .second, .val (.double d3), .second, .unset, .unset, .unset, .unset, .unset] [(.int (1 : Int32)), (.ref b132), (.ref b132)])) _
      refine XS.dload X134.here hx rfl (hb hby at_215) rfl ?_
      exact Steps.refl _
    have Vp136 : Arv Z _ b132 kA132 .double (4 : Int32) [(.double d0), (.double 0)] (.double 0) := V134.pad (pad_rep [(.double d0)] (.double 0) 1)
    obtain ⟨cl136, Ar136, qr136, S136, M136, Hs136, U136⟩ := Vp136
    obtain ⟨T136, h136, X136, e136, W136, st136⟩ := stD X134 hx hZ e134 Ar136 (j := (1 : Int32)) (inb_of S136 ⟨(by decide), (by decide)⟩) (g := (mkF m 217 #[.val (.int i0), .val (.int i1), .val (.int (4 : Int32)), .val (.int f), .val (.int v0), .val (.int v1), .val (.int v2), .val (.int v3), .val (.double d0), .second, .val (.double d1), .second, .val (.double d2), .second, .val (.double d3), .second, .unset, .unset, .unset, .unset, .unset] [(.double d1), (.int (1 : Int32)), (.ref b132), (.ref b132)])) rfl rfl (hb hby at_217)
    have V136 : Arv Z h136 b132 kA132 .double (4 : Int32) [(.double d0), (.double d1)] (.double 0) := Arv.set Ar136 qr136 S136 M136 Hs136 U136 rfl W136 1 rfl (Nat.le_of_ble_eq_true rfl)
    have c136 : Steps p.tables e below S0 (T136.setTop (mkF m 218 #[.val (.int i0), .val (.int i1), .val (.int (4 : Int32)), .val (.int f), .val (.int v0), .val (.int v1), .val (.int v2), .val (.int v3), .val (.double d0), .second, .val (.double d1), .second, .val (.double d2), .second, .val (.double d3), .second, .unset, .unset, .unset, .unset, .unset] [(.ref b132)])) := by
      refine c135.trans ?_
      show Steps p.tables e below (T134.setTop (mkF m 217 #[.val (.int i0), .val (.int i1), .val (.int (4 : Int32)), .val (.int f), .val (.int v0), .val (.int v1), .val (.int v2), .val (.int v3), .val (.double d0), .second, .val (.double d1), .second, .val (.double d2), .second, .val (.double d3), .second, .unset, .unset, .unset, .unset, .unset] [(.double d1), (.int (1 : Int32)), (.ref b132), (.ref b132)])) _
      refine st136 _ ?_
      exact Steps.refl _
    have Ns1 := Fr.snoc X136 Ns0 gb132
    have Zh := Nat.le_trans Zh (Nat.le_of_eq (own_wsz W136).symm)
    have hk := Nat.le_trans hk (Nat.le_of_eq (own_wsz W136).symm)
    have c137 : Steps p.tables e below S0 (T136.setTop (mkF m 222 #[.val (.int i0), .val (.int i1), .val (.int (4 : Int32)), .val (.int f), .val (.int v0), .val (.int v1), .val (.int v2), .val (.int v3), .val (.double d0), .second, .val (.double d1), .second, .val (.double d2), .second, .val (.double d3), .second, .unset, .unset, .unset, .unset, .unset] [(.double d2), (.int (2 : Int32)), (.ref b132), (.ref b132)])) := by
      refine c136.trans ?_
      show Steps p.tables e below (T136.setTop (mkF m 218 #[.val (.int i0), .val (.int i1), .val (.int (4 : Int32)), .val (.int f), .val (.int v0), .val (.int v1), .val (.int v2), .val (.int v3), .val (.double d0), .second, .val (.double d1), .second, .val (.double d2), .second, .val (.double d3), .second, .unset, .unset, .unset, .unset, .unset] [(.ref b132)])) _
      refine XS.dup X136.here hx rfl (hb hby at_218) rfl rfl ?_
      show Steps p.tables e below (T136.setTop (mkF m 219 #[.val (.int i0), .val (.int i1), .val (.int (4 : Int32)), .val (.int f), .val (.int v0), .val (.int v1), .val (.int v2), .val (.int v3), .val (.double d0), .second, .val (.double d1), .second, .val (.double d2), .second, .val (.double d3), .second, .unset, .unset, .unset, .unset, .unset] [(.ref b132), (.ref b132)])) _
      refine XS.iconst X136.here hx rfl (hb hby at_219) ?_
      show Steps p.tables e below (T136.setTop (mkF m 220 #[.val (.int i0), .val (.int i1), .val (.int (4 : Int32)), .val (.int f), .val (.int v0), .val (.int v1), .val (.int v2), .val (.int v3), .val (.double d0), .second, .val (.double d1), .second, .val (.double d2), .second, .val (.double d3), .second, .unset, .unset, .unset, .unset, .unset] [(.int (2 : Int32)), (.ref b132), (.ref b132)])) _
      refine XS.dload X136.here hx rfl (hb hby at_220) rfl ?_
      exact Steps.refl _
    have Vp138 : Arv Z _ b132 kA132 .double (4 : Int32) [(.double d0), (.double d1), (.double 0)] (.double 0) := V136.pad (pad_rep [(.double d0), (.double d1)] (.double 0) 1)
    obtain ⟨cl138, Ar138, qr138, S138, M138, Hs138, U138⟩ := Vp138
    obtain ⟨T138, h138, X138, e138, W138, st138⟩ := stD X136 hx hZ e136 Ar138 (j := (2 : Int32)) (inb_of S138 ⟨(by decide), (by decide)⟩) (g := (mkF m 222 #[.val (.int i0), .val (.int i1), .val (.int (4 : Int32)), .val (.int f), .val (.int v0), .val (.int v1), .val (.int v2), .val (.int v3), .val (.double d0), .second, .val (.double d1), .second, .val (.double d2), .second, .val (.double d3), .second, .unset, .unset, .unset, .unset, .unset] [(.double d2), (.int (2 : Int32)), (.ref b132), (.ref b132)])) rfl rfl (hb hby at_222)
    have V138 : Arv Z h138 b132 kA132 .double (4 : Int32) [(.double d0), (.double d1), (.double d2)] (.double 0) := Arv.set Ar138 qr138 S138 M138 Hs138 U138 rfl W138 2 rfl (Nat.le_of_ble_eq_true rfl)
    have c138 : Steps p.tables e below S0 (T138.setTop (mkF m 223 #[.val (.int i0), .val (.int i1), .val (.int (4 : Int32)), .val (.int f), .val (.int v0), .val (.int v1), .val (.int v2), .val (.int v3), .val (.double d0), .second, .val (.double d1), .second, .val (.double d2), .second, .val (.double d3), .second, .unset, .unset, .unset, .unset, .unset] [(.ref b132)])) := by
      refine c137.trans ?_
      show Steps p.tables e below (T136.setTop (mkF m 222 #[.val (.int i0), .val (.int i1), .val (.int (4 : Int32)), .val (.int f), .val (.int v0), .val (.int v1), .val (.int v2), .val (.int v3), .val (.double d0), .second, .val (.double d1), .second, .val (.double d2), .second, .val (.double d3), .second, .unset, .unset, .unset, .unset, .unset] [(.double d2), (.int (2 : Int32)), (.ref b132), (.ref b132)])) _
      refine st138 _ ?_
      exact Steps.refl _
    have Ns2 := Fr.snoc X138 Ns1 gb132
    have Zh := Nat.le_trans Zh (Nat.le_of_eq (own_wsz W138).symm)
    have hk := Nat.le_trans hk (Nat.le_of_eq (own_wsz W138).symm)
    have c139 : Steps p.tables e below S0 (T138.setTop (mkF m 227 #[.val (.int i0), .val (.int i1), .val (.int (4 : Int32)), .val (.int f), .val (.int v0), .val (.int v1), .val (.int v2), .val (.int v3), .val (.double d0), .second, .val (.double d1), .second, .val (.double d2), .second, .val (.double d3), .second, .unset, .unset, .unset, .unset, .unset] [(.double d3), (.int (3 : Int32)), (.ref b132), (.ref b132)])) := by
      refine c138.trans ?_
      show Steps p.tables e below (T138.setTop (mkF m 223 #[.val (.int i0), .val (.int i1), .val (.int (4 : Int32)), .val (.int f), .val (.int v0), .val (.int v1), .val (.int v2), .val (.int v3), .val (.double d0), .second, .val (.double d1), .second, .val (.double d2), .second, .val (.double d3), .second, .unset, .unset, .unset, .unset, .unset] [(.ref b132)])) _
      refine XS.dup X138.here hx rfl (hb hby at_223) rfl rfl ?_
      show Steps p.tables e below (T138.setTop (mkF m 224 #[.val (.int i0), .val (.int i1), .val (.int (4 : Int32)), .val (.int f), .val (.int v0), .val (.int v1), .val (.int v2), .val (.int v3), .val (.double d0), .second, .val (.double d1), .second, .val (.double d2), .second, .val (.double d3), .second, .unset, .unset, .unset, .unset, .unset] [(.ref b132), (.ref b132)])) _
      refine XS.iconst X138.here hx rfl (hb hby at_224) ?_
      show Steps p.tables e below (T138.setTop (mkF m 225 #[.val (.int i0), .val (.int i1), .val (.int (4 : Int32)), .val (.int f), .val (.int v0), .val (.int v1), .val (.int v2), .val (.int v3), .val (.double d0), .second, .val (.double d1), .second, .val (.double d2), .second, .val (.double d3), .second, .unset, .unset, .unset, .unset, .unset] [(.int (3 : Int32)), (.ref b132), (.ref b132)])) _
      refine XS.dload X138.here hx rfl (hb hby at_225) rfl ?_
      exact Steps.refl _
    have Vp140 : Arv Z _ b132 kA132 .double (4 : Int32) [(.double d0), (.double d1), (.double d2), (.double 0)] (.double 0) := V138.pad (pad_rep [(.double d0), (.double d1), (.double d2)] (.double 0) 1)
    obtain ⟨cl140, Ar140, qr140, S140, M140, Hs140, U140⟩ := Vp140
    obtain ⟨T140, h140, X140, e140, W140, st140⟩ := stD X138 hx hZ e138 Ar140 (j := (3 : Int32)) (inb_of S140 ⟨(by decide), (by decide)⟩) (g := (mkF m 227 #[.val (.int i0), .val (.int i1), .val (.int (4 : Int32)), .val (.int f), .val (.int v0), .val (.int v1), .val (.int v2), .val (.int v3), .val (.double d0), .second, .val (.double d1), .second, .val (.double d2), .second, .val (.double d3), .second, .unset, .unset, .unset, .unset, .unset] [(.double d3), (.int (3 : Int32)), (.ref b132), (.ref b132)])) rfl rfl (hb hby at_227)
    have V140 : Arv Z h140 b132 kA132 .double (4 : Int32) [(.double d0), (.double d1), (.double d2), (.double d3)] (.double 0) := Arv.set Ar140 qr140 S140 M140 Hs140 U140 rfl W140 3 rfl (Nat.le_of_ble_eq_true rfl)
    have c140 : Steps p.tables e below S0 (T140.setTop (mkF m 228 #[.val (.int i0), .val (.int i1), .val (.int (4 : Int32)), .val (.int f), .val (.int v0), .val (.int v1), .val (.int v2), .val (.int v3), .val (.double d0), .second, .val (.double d1), .second, .val (.double d2), .second, .val (.double d3), .second, .unset, .unset, .unset, .unset, .unset] [(.ref b132)])) := by
      refine c139.trans ?_
      show Steps p.tables e below (T138.setTop (mkF m 227 #[.val (.int i0), .val (.int i1), .val (.int (4 : Int32)), .val (.int f), .val (.int v0), .val (.int v1), .val (.int v2), .val (.int v3), .val (.double d0), .second, .val (.double d1), .second, .val (.double d2), .second, .val (.double d3), .second, .unset, .unset, .unset, .unset, .unset] [(.double d3), (.int (3 : Int32)), (.ref b132), (.ref b132)])) _
      refine st140 _ ?_
      exact Steps.refl _
    have Ns3 := Fr.snoc X140 Ns2 gb132
    have Zh := Nat.le_trans Zh (Nat.le_of_eq (own_wsz W140).symm)
    have hk := Nat.le_trans hk (Nat.le_of_eq (own_wsz W140).symm)
    have c141 : Steps p.tables e below S0 (T140.setTop (mkF m 231 #[.val (.int i0), .val (.int i1), .val (.int (4 : Int32)), .val (.int f), .val (.int v0), .val (.int v1), .val (.int v2), .val (.int v3), .val (.double d0), .second, .val (.double d1), .second, .val (.double d2), .second, .val (.double d3), .second, .val (.ref b132), .unset, .unset, .unset, .unset] [(.int (4 : Int32))])) := by
      refine c140.trans ?_
      show Steps p.tables e below (T140.setTop (mkF m 228 #[.val (.int i0), .val (.int i1), .val (.int (4 : Int32)), .val (.int f), .val (.int v0), .val (.int v1), .val (.int v2), .val (.int v3), .val (.double d0), .second, .val (.double d1), .second, .val (.double d2), .second, .val (.double d3), .second, .unset, .unset, .unset, .unset, .unset] [(.ref b132)])) _
      refine XS.astore X140.here hx rfl (hb hby at_228) rfl rfl (l' := #[.val (.int i0), .val (.int i1), .val (.int (4 : Int32)), .val (.int f), .val (.int v0), .val (.int v1), .val (.int v2), .val (.int v3), .val (.double d0), .second, .val (.double d1), .second, .val (.double d2), .second, .val (.double d3), .second, .val (.ref b132), .unset, .unset, .unset, .unset]) rfl ?_
      show Steps p.tables e below (T140.setTop (mkF m 230 #[.val (.int i0), .val (.int i1), .val (.int (4 : Int32)), .val (.int f), .val (.int v0), .val (.int v1), .val (.int v2), .val (.int v3), .val (.double d0), .second, .val (.double d1), .second, .val (.double d2), .second, .val (.double d3), .second, .val (.ref b132), .unset, .unset, .unset, .unset] [])) _
      refine XS.iconst X140.here hx rfl (hb hby at_230) ?_
      exact Steps.refl _
    obtain ⟨T142, h142, kA142, X142, e142, E142, A142, st142⟩ := newP X140 hx hZ (hw _ (List.mem_of_getElem? (i := 6) rfl)) e140 (g := (mkF m 231 #[.val (.int i0), .val (.int i1), .val (.int (4 : Int32)), .val (.int f), .val (.int v0), .val (.int v1), .val (.int v2), .val (.int v3), .val (.double d0), .second, .val (.double d1), .second, .val (.double d2), .second, .val (.double d3), .second, .val (.ref b132), .unset, .unset, .unset, .unset] [(.int (4 : Int32))])) rfl (hb hby at_231) rfl (by decide : ¬ ((4 : Int32) < (0 : Int32))) (cap := 4) (by decide) (by decide) (by decide) (by decide)
    obtain ⟨b142, g142⟩ : ∃ z, z = h140.size := ⟨_, rfl⟩
    rw [← g142] at A142 st142
    have c142 : Steps p.tables e below S0 (T142.setTop (mkF m 233 #[.val (.int i0), .val (.int i1), .val (.int (4 : Int32)), .val (.int f), .val (.int v0), .val (.int v1), .val (.int v2), .val (.int v3), .val (.double d0), .second, .val (.double d1), .second, .val (.double d2), .second, .val (.double d3), .second, .val (.ref b132), .unset, .unset, .unset, .unset] [(.ref b142)])) := by
      refine c141.trans ?_
      show Steps p.tables e below (T140.setTop (mkF m 231 #[.val (.int i0), .val (.int i1), .val (.int (4 : Int32)), .val (.int f), .val (.int v0), .val (.int v1), .val (.int v2), .val (.int v3), .val (.double d0), .second, .val (.double d1), .second, .val (.double d2), .second, .val (.double d3), .second, .val (.ref b132), .unset, .unset, .unset, .unset] [(.int (4 : Int32))])) _
      refine st142 _ ?_
      exact Steps.refl _
    have V142 := Arv.new A142 (by decide)
    have gb142 : n0 ≤ b142 := Nat.le_trans Zh (Nat.le_of_eq g142.symm)
    have Zh := Nat.le_trans Zh E142.1
    have hk := Nat.le_trans hk E142.1
    have c143 : Steps p.tables e below S0 (T142.setTop (mkF m 236 #[.val (.int i0), .val (.int i1), .val (.int (4 : Int32)), .val (.int f), .val (.int v0), .val (.int v1), .val (.int v2), .val (.int v3), .val (.double d0), .second, .val (.double d1), .second, .val (.double d2), .second, .val (.double d3), .second, .val (.ref b132), .unset, .unset, .unset, .unset] [(.int (0 : Int32)), (.int (0 : Int32)), (.ref b142), (.ref b142)])) := by
      refine c142.trans ?_
      show Steps p.tables e below (T142.setTop (mkF m 233 #[.val (.int i0), .val (.int i1), .val (.int (4 : Int32)), .val (.int f), .val (.int v0), .val (.int v1), .val (.int v2), .val (.int v3), .val (.double d0), .second, .val (.double d1), .second, .val (.double d2), .second, .val (.double d3), .second, .val (.ref b132), .unset, .unset, .unset, .unset] [(.ref b142)])) _
      refine XS.dup X142.here hx rfl (hb hby at_233) rfl rfl ?_
      show Steps p.tables e below (T142.setTop (mkF m 234 #[.val (.int i0), .val (.int i1), .val (.int (4 : Int32)), .val (.int f), .val (.int v0), .val (.int v1), .val (.int v2), .val (.int v3), .val (.double d0), .second, .val (.double d1), .second, .val (.double d2), .second, .val (.double d3), .second, .val (.ref b132), .unset, .unset, .unset, .unset] [(.ref b142), (.ref b142)])) _
      refine XS.iconst X142.here hx rfl (hb hby at_234) ?_
      show Steps p.tables e below (T142.setTop (mkF m 235 #[.val (.int i0), .val (.int i1), .val (.int (4 : Int32)), .val (.int f), .val (.int v0), .val (.int v1), .val (.int v2), .val (.int v3), .val (.double d0), .second, .val (.double d1), .second, .val (.double d2), .second, .val (.double d3), .second, .val (.ref b132), .unset, .unset, .unset, .unset] [(.int (0 : Int32)), (.ref b142), (.ref b142)])) _
      refine XS.iconst X142.here hx rfl (hb hby at_235) ?_
      exact Steps.refl _
    have Vp144 : Arv Z _ b142 kA142 .int (4 : Int32) [(.int 0)] (.int 0) := V142.pad (pad_rep [] (.int 0) 1)
    obtain ⟨cl144, Ar144, qr144, S144, M144, Hs144, U144⟩ := Vp144
    obtain ⟨T144, h144, X144, e144, W144, st144⟩ := stI X142 hx hZ e142 Ar144 (j := (0 : Int32)) (inb_of S144 ⟨(by decide), (by decide)⟩) (g := (mkF m 236 #[.val (.int i0), .val (.int i1), .val (.int (4 : Int32)), .val (.int f), .val (.int v0), .val (.int v1), .val (.int v2), .val (.int v3), .val (.double d0), .second, .val (.double d1), .second, .val (.double d2), .second, .val (.double d3), .second, .val (.ref b132), .unset, .unset, .unset, .unset] [(.int (0 : Int32)), (.int (0 : Int32)), (.ref b142), (.ref b142)])) rfl rfl (hb hby at_236)
    have V144 : Arv Z h144 b142 kA142 .int (4 : Int32) [(.int (0 : Int32))] (.int 0) := Arv.set Ar144 qr144 S144 M144 Hs144 U144 rfl W144 0 rfl (Nat.le_of_ble_eq_true rfl)
    have c144 : Steps p.tables e below S0 (T144.setTop (mkF m 237 #[.val (.int i0), .val (.int i1), .val (.int (4 : Int32)), .val (.int f), .val (.int v0), .val (.int v1), .val (.int v2), .val (.int v3), .val (.double d0), .second, .val (.double d1), .second, .val (.double d2), .second, .val (.double d3), .second, .val (.ref b132), .unset, .unset, .unset, .unset] [(.ref b142)])) := by
      refine c143.trans ?_
      show Steps p.tables e below (T142.setTop (mkF m 236 #[.val (.int i0), .val (.int i1), .val (.int (4 : Int32)), .val (.int f), .val (.int v0), .val (.int v1), .val (.int v2), .val (.int v3), .val (.double d0), .second, .val (.double d1), .second, .val (.double d2), .second, .val (.double d3), .second, .val (.ref b132), .unset, .unset, .unset, .unset] [(.int (0 : Int32)), (.int (0 : Int32)), (.ref b142), (.ref b142)])) _
      refine st144 _ ?_
      exact Steps.refl _
    have Nd0 := Fr.snoc X144 Ns3 gb142
    have Zh := Nat.le_trans Zh (Nat.le_of_eq (own_wsz W144).symm)
    have hk := Nat.le_trans hk (Nat.le_of_eq (own_wsz W144).symm)
    have c145 : Steps p.tables e below S0 (T144.setTop (mkF m 240 #[.val (.int i0), .val (.int i1), .val (.int (4 : Int32)), .val (.int f), .val (.int v0), .val (.int v1), .val (.int v2), .val (.int v3), .val (.double d0), .second, .val (.double d1), .second, .val (.double d2), .second, .val (.double d3), .second, .val (.ref b132), .unset, .unset, .unset, .unset] [(.int (1 : Int32)), (.int (1 : Int32)), (.ref b142), (.ref b142)])) := by
      refine c144.trans ?_
      show Steps p.tables e below (T144.setTop (mkF m 237 #[.val (.int i0), .val (.int i1), .val (.int (4 : Int32)), .val (.int f), .val (.int v0), .val (.int v1), .val (.int v2), .val (.int v3), .val (.double d0), .second, .val (.double d1), .second, .val (.double d2), .second, .val (.double d3), .second, .val (.ref b132), .unset, .unset, .unset, .unset] [(.ref b142)])) _
      refine XS.dup X144.here hx rfl (hb hby at_237) rfl rfl ?_
      show Steps p.tables e below (T144.setTop (mkF m 238 #[.val (.int i0), .val (.int i1), .val (.int (4 : Int32)), .val (.int f), .val (.int v0), .val (.int v1), .val (.int v2), .val (.int v3), .val (.double d0), .second, .val (.double d1), .second, .val (.double d2), .second, .val (.double d3), .second, .val (.ref b132), .unset, .unset, .unset, .unset] [(.ref b142), (.ref b142)])) _
      refine XS.iconst X144.here hx rfl (hb hby at_238) ?_
      show Steps p.tables e below (T144.setTop (mkF m 239 #[.val (.int i0), .val (.int i1), .val (.int (4 : Int32)), .val (.int f), .val (.int v0), .val (.int v1), .val (.int v2), .val (.int v3), .val (.double d0), .second, .val (.double d1), .second, .val (.double d2), .second, .val (.double d3), .second, .val (.ref b132), .unset, .unset, .unset, .unset] [(.int (1 : Int32)), (.ref b142), (.ref b142)])) _
      refine XS.iconst X144.here hx rfl (hb hby at_239) ?_
      exact Steps.refl _
    have Vp146 : Arv Z _ b142 kA142 .int (4 : Int32) [(.int (0 : Int32)), (.int 0)] (.int 0) := V144.pad (pad_rep [(.int (0 : Int32))] (.int 0) 1)
    obtain ⟨cl146, Ar146, qr146, S146, M146, Hs146, U146⟩ := Vp146
    obtain ⟨T146, h146, X146, e146, W146, st146⟩ := stI X144 hx hZ e144 Ar146 (j := (1 : Int32)) (inb_of S146 ⟨(by decide), (by decide)⟩) (g := (mkF m 240 #[.val (.int i0), .val (.int i1), .val (.int (4 : Int32)), .val (.int f), .val (.int v0), .val (.int v1), .val (.int v2), .val (.int v3), .val (.double d0), .second, .val (.double d1), .second, .val (.double d2), .second, .val (.double d3), .second, .val (.ref b132), .unset, .unset, .unset, .unset] [(.int (1 : Int32)), (.int (1 : Int32)), (.ref b142), (.ref b142)])) rfl rfl (hb hby at_240)
    have V146 : Arv Z h146 b142 kA142 .int (4 : Int32) [(.int (0 : Int32)), (.int (1 : Int32))] (.int 0) := Arv.set Ar146 qr146 S146 M146 Hs146 U146 rfl W146 1 rfl (Nat.le_of_ble_eq_true rfl)
    have c146 : Steps p.tables e below S0 (T146.setTop (mkF m 241 #[.val (.int i0), .val (.int i1), .val (.int (4 : Int32)), .val (.int f), .val (.int v0), .val (.int v1), .val (.int v2), .val (.int v3), .val (.double d0), .second, .val (.double d1), .second, .val (.double d2), .second, .val (.double d3), .second, .val (.ref b132), .unset, .unset, .unset, .unset] [(.ref b142)])) := by
      refine c145.trans ?_
      show Steps p.tables e below (T144.setTop (mkF m 240 #[.val (.int i0), .val (.int i1), .val (.int (4 : Int32)), .val (.int f), .val (.int v0), .val (.int v1), .val (.int v2), .val (.int v3), .val (.double d0), .second, .val (.double d1), .second, .val (.double d2), .second, .val (.double d3), .second, .val (.ref b132), .unset, .unset, .unset, .unset] [(.int (1 : Int32)), (.int (1 : Int32)), (.ref b142), (.ref b142)])) _
      refine st146 _ ?_
      exact Steps.refl _
    have Nd1 := Fr.snoc X146 Nd0 gb142
    have Zh := Nat.le_trans Zh (Nat.le_of_eq (own_wsz W146).symm)
    have hk := Nat.le_trans hk (Nat.le_of_eq (own_wsz W146).symm)
    have c147 : Steps p.tables e below S0 (T146.setTop (mkF m 244 #[.val (.int i0), .val (.int i1), .val (.int (4 : Int32)), .val (.int f), .val (.int v0), .val (.int v1), .val (.int v2), .val (.int v3), .val (.double d0), .second, .val (.double d1), .second, .val (.double d2), .second, .val (.double d3), .second, .val (.ref b132), .unset, .unset, .unset, .unset] [(.int (2 : Int32)), (.int (2 : Int32)), (.ref b142), (.ref b142)])) := by
      refine c146.trans ?_
      show Steps p.tables e below (T146.setTop (mkF m 241 #[.val (.int i0), .val (.int i1), .val (.int (4 : Int32)), .val (.int f), .val (.int v0), .val (.int v1), .val (.int v2), .val (.int v3), .val (.double d0), .second, .val (.double d1), .second, .val (.double d2), .second, .val (.double d3), .second, .val (.ref b132), .unset, .unset, .unset, .unset] [(.ref b142)])) _
      refine XS.dup X146.here hx rfl (hb hby at_241) rfl rfl ?_
      show Steps p.tables e below (T146.setTop (mkF m 242 #[.val (.int i0), .val (.int i1), .val (.int (4 : Int32)), .val (.int f), .val (.int v0), .val (.int v1), .val (.int v2), .val (.int v3), .val (.double d0), .second, .val (.double d1), .second, .val (.double d2), .second, .val (.double d3), .second, .val (.ref b132), .unset, .unset, .unset, .unset] [(.ref b142), (.ref b142)])) _
      refine XS.iconst X146.here hx rfl (hb hby at_242) ?_
      show Steps p.tables e below (T146.setTop (mkF m 243 #[.val (.int i0), .val (.int i1), .val (.int (4 : Int32)), .val (.int f), .val (.int v0), .val (.int v1), .val (.int v2), .val (.int v3), .val (.double d0), .second, .val (.double d1), .second, .val (.double d2), .second, .val (.double d3), .second, .val (.ref b132), .unset, .unset, .unset, .unset] [(.int (2 : Int32)), (.ref b142), (.ref b142)])) _
      refine XS.iconst X146.here hx rfl (hb hby at_243) ?_
      exact Steps.refl _
    have Vp148 : Arv Z _ b142 kA142 .int (4 : Int32) [(.int (0 : Int32)), (.int (1 : Int32)), (.int 0)] (.int 0) := V146.pad (pad_rep [(.int (0 : Int32)), (.int (1 : Int32))] (.int 0) 1)
    obtain ⟨cl148, Ar148, qr148, S148, M148, Hs148, U148⟩ := Vp148
    obtain ⟨T148, h148, X148, e148, W148, st148⟩ := stI X146 hx hZ e146 Ar148 (j := (2 : Int32)) (inb_of S148 ⟨(by decide), (by decide)⟩) (g := (mkF m 244 #[.val (.int i0), .val (.int i1), .val (.int (4 : Int32)), .val (.int f), .val (.int v0), .val (.int v1), .val (.int v2), .val (.int v3), .val (.double d0), .second, .val (.double d1), .second, .val (.double d2), .second, .val (.double d3), .second, .val (.ref b132), .unset, .unset, .unset, .unset] [(.int (2 : Int32)), (.int (2 : Int32)), (.ref b142), (.ref b142)])) rfl rfl (hb hby at_244)
    have V148 : Arv Z h148 b142 kA142 .int (4 : Int32) [(.int (0 : Int32)), (.int (1 : Int32)), (.int (2 : Int32))] (.int 0) := Arv.set Ar148 qr148 S148 M148 Hs148 U148 rfl W148 2 rfl (Nat.le_of_ble_eq_true rfl)
    have c148 : Steps p.tables e below S0 (T148.setTop (mkF m 245 #[.val (.int i0), .val (.int i1), .val (.int (4 : Int32)), .val (.int f), .val (.int v0), .val (.int v1), .val (.int v2), .val (.int v3), .val (.double d0), .second, .val (.double d1), .second, .val (.double d2), .second, .val (.double d3), .second, .val (.ref b132), .unset, .unset, .unset, .unset] [(.ref b142)])) := by
      refine c147.trans ?_
      show Steps p.tables e below (T146.setTop (mkF m 244 #[.val (.int i0), .val (.int i1), .val (.int (4 : Int32)), .val (.int f), .val (.int v0), .val (.int v1), .val (.int v2), .val (.int v3), .val (.double d0), .second, .val (.double d1), .second, .val (.double d2), .second, .val (.double d3), .second, .val (.ref b132), .unset, .unset, .unset, .unset] [(.int (2 : Int32)), (.int (2 : Int32)), (.ref b142), (.ref b142)])) _
      refine st148 _ ?_
      exact Steps.refl _
    have Nd2 := Fr.snoc X148 Nd1 gb142
    have Zh := Nat.le_trans Zh (Nat.le_of_eq (own_wsz W148).symm)
    have hk := Nat.le_trans hk (Nat.le_of_eq (own_wsz W148).symm)
    have c149 : Steps p.tables e below S0 (T148.setTop (mkF m 248 #[.val (.int i0), .val (.int i1), .val (.int (4 : Int32)), .val (.int f), .val (.int v0), .val (.int v1), .val (.int v2), .val (.int v3), .val (.double d0), .second, .val (.double d1), .second, .val (.double d2), .second, .val (.double d3), .second, .val (.ref b132), .unset, .unset, .unset, .unset] [(.int (3 : Int32)), (.int (3 : Int32)), (.ref b142), (.ref b142)])) := by
      refine c148.trans ?_
      show Steps p.tables e below (T148.setTop (mkF m 245 #[.val (.int i0), .val (.int i1), .val (.int (4 : Int32)), .val (.int f), .val (.int v0), .val (.int v1), .val (.int v2), .val (.int v3), .val (.double d0), .second, .val (.double d1), .second, .val (.double d2), .second, .val (.double d3), .second, .val (.ref b132), .unset, .unset, .unset, .unset] [(.ref b142)])) _
      refine XS.dup X148.here hx rfl (hb hby at_245) rfl rfl ?_
      show Steps p.tables e below (T148.setTop (mkF m 246 #[.val (.int i0), .val (.int i1), .val (.int (4 : Int32)), .val (.int f), .val (.int v0), .val (.int v1), .val (.int v2), .val (.int v3), .val (.double d0), .second, .val (.double d1), .second, .val (.double d2), .second, .val (.double d3), .second, .val (.ref b132), .unset, .unset, .unset, .unset] [(.ref b142), (.ref b142)])) _
      refine XS.iconst X148.here hx rfl (hb hby at_246) ?_
      show Steps p.tables e below (T148.setTop (mkF m 247 #[.val (.int i0), .val (.int i1), .val (.int (4 : Int32)), .val (.int f), .val (.int v0), .val (.int v1), .val (.int v2), .val (.int v3), .val (.double d0), .second, .val (.double d1), .second, .val (.double d2), .second, .val (.double d3), .second, .val (.ref b132), .unset, .unset, .unset, .unset] [(.int (3 : Int32)), (.ref b142), (.ref b142)])) _
      refine XS.iconst X148.here hx rfl (hb hby at_247) ?_
      exact Steps.refl _
    have Vp150 : Arv Z _ b142 kA142 .int (4 : Int32) [(.int (0 : Int32)), (.int (1 : Int32)), (.int (2 : Int32)), (.int 0)] (.int 0) := V148.pad (pad_rep [(.int (0 : Int32)), (.int (1 : Int32)), (.int (2 : Int32))] (.int 0) 1)
    obtain ⟨cl150, Ar150, qr150, S150, M150, Hs150, U150⟩ := Vp150
    obtain ⟨T150, h150, X150, e150, W150, st150⟩ := stI X148 hx hZ e148 Ar150 (j := (3 : Int32)) (inb_of S150 ⟨(by decide), (by decide)⟩) (g := (mkF m 248 #[.val (.int i0), .val (.int i1), .val (.int (4 : Int32)), .val (.int f), .val (.int v0), .val (.int v1), .val (.int v2), .val (.int v3), .val (.double d0), .second, .val (.double d1), .second, .val (.double d2), .second, .val (.double d3), .second, .val (.ref b132), .unset, .unset, .unset, .unset] [(.int (3 : Int32)), (.int (3 : Int32)), (.ref b142), (.ref b142)])) rfl rfl (hb hby at_248)
    have V150 : Arv Z h150 b142 kA142 .int (4 : Int32) [(.int (0 : Int32)), (.int (1 : Int32)), (.int (2 : Int32)), (.int (3 : Int32))] (.int 0) := Arv.set Ar150 qr150 S150 M150 Hs150 U150 rfl W150 3 rfl (Nat.le_of_ble_eq_true rfl)
    have c150 : Steps p.tables e below S0 (T150.setTop (mkF m 249 #[.val (.int i0), .val (.int i1), .val (.int (4 : Int32)), .val (.int f), .val (.int v0), .val (.int v1), .val (.int v2), .val (.int v3), .val (.double d0), .second, .val (.double d1), .second, .val (.double d2), .second, .val (.double d3), .second, .val (.ref b132), .unset, .unset, .unset, .unset] [(.ref b142)])) := by
      refine c149.trans ?_
      show Steps p.tables e below (T148.setTop (mkF m 248 #[.val (.int i0), .val (.int i1), .val (.int (4 : Int32)), .val (.int f), .val (.int v0), .val (.int v1), .val (.int v2), .val (.int v3), .val (.double d0), .second, .val (.double d1), .second, .val (.double d2), .second, .val (.double d3), .second, .val (.ref b132), .unset, .unset, .unset, .unset] [(.int (3 : Int32)), (.int (3 : Int32)), (.ref b142), (.ref b142)])) _
      refine st150 _ ?_
      exact Steps.refl _
    have Nd3 := Fr.snoc X150 Nd2 gb142
    have Zh := Nat.le_trans Zh (Nat.le_of_eq (own_wsz W150).symm)
    have hk := Nat.le_trans hk (Nat.le_of_eq (own_wsz W150).symm)
    have c151 : Steps p.tables e below S0 (T150.setTop (mkF m 251 #[.val (.int i0), .val (.int i1), .val (.int (4 : Int32)), .val (.int f), .val (.int v0), .val (.int v1), .val (.int v2), .val (.int v3), .val (.double d0), .second, .val (.double d1), .second, .val (.double d2), .second, .val (.double d3), .second, .val (.ref b132), .val (.ref b142), .unset, .unset, .unset] [])) := by
      refine c150.trans ?_
      show Steps p.tables e below (T150.setTop (mkF m 249 #[.val (.int i0), .val (.int i1), .val (.int (4 : Int32)), .val (.int f), .val (.int v0), .val (.int v1), .val (.int v2), .val (.int v3), .val (.double d0), .second, .val (.double d1), .second, .val (.double d2), .second, .val (.double d3), .second, .val (.ref b132), .unset, .unset, .unset, .unset] [(.ref b142)])) _
      refine XS.astore X150.here hx rfl (hb hby at_249) rfl rfl (l' := #[.val (.int i0), .val (.int i1), .val (.int (4 : Int32)), .val (.int f), .val (.int v0), .val (.int v1), .val (.int v2), .val (.int v3), .val (.double d0), .second, .val (.double d1), .second, .val (.double d2), .second, .val (.double d3), .second, .val (.ref b132), .val (.ref b142), .unset, .unset, .unset]) rfl ?_
      exact Steps.refl _
    have c152 : Steps p.tables e below S0 (T150.setTop (mkF m 252 #[.val (.int i0), .val (.int i1), .val (.int (4 : Int32)), .val (.int f), .val (.int v0), .val (.int v1), .val (.int v2), .val (.int v3), .val (.double d0), .second, .val (.double d1), .second, .val (.double d2), .second, .val (.double d3), .second, .val (.ref b132), .val (.ref b142), .unset, .unset, .unset] [(.int (4 : Int32))])) := by
      refine c151.trans ?_
      show Steps p.tables e below (T150.setTop (mkF m 251 #[.val (.int i0), .val (.int i1), .val (.int (4 : Int32)), .val (.int f), .val (.int v0), .val (.int v1), .val (.int v2), .val (.int v3), .val (.double d0), .second, .val (.double d1), .second, .val (.double d2), .second, .val (.double d3), .second, .val (.ref b132), .val (.ref b142), .unset, .unset, .unset] [])) _
      refine XS.iconst X150.here hx rfl (hb hby at_251) ?_
      exact Steps.refl _
    obtain ⟨T153, h153, kA153, X153, e153, E153, A153, st153⟩ := newP X150 hx hZ (hw _ (List.mem_of_getElem? (i := 6) rfl)) e150 (g := (mkF m 252 #[.val (.int i0), .val (.int i1), .val (.int (4 : Int32)), .val (.int f), .val (.int v0), .val (.int v1), .val (.int v2), .val (.int v3), .val (.double d0), .second, .val (.double d1), .second, .val (.double d2), .second, .val (.double d3), .second, .val (.ref b132), .val (.ref b142), .unset, .unset, .unset] [(.int (4 : Int32))])) rfl (hb hby at_252) rfl (by decide : ¬ ((4 : Int32) < (0 : Int32))) (cap := 4) (by decide) (by decide) (by decide) (by decide)
    obtain ⟨b153, g153⟩ : ∃ z, z = h150.size := ⟨_, rfl⟩
    rw [← g153] at A153 st153
    have c153 : Steps p.tables e below S0 (T153.setTop (mkF m 254 #[.val (.int i0), .val (.int i1), .val (.int (4 : Int32)), .val (.int f), .val (.int v0), .val (.int v1), .val (.int v2), .val (.int v3), .val (.double d0), .second, .val (.double d1), .second, .val (.double d2), .second, .val (.double d3), .second, .val (.ref b132), .val (.ref b142), .unset, .unset, .unset] [(.ref b153)])) := by
      refine c152.trans ?_
      show Steps p.tables e below (T150.setTop (mkF m 252 #[.val (.int i0), .val (.int i1), .val (.int (4 : Int32)), .val (.int f), .val (.int v0), .val (.int v1), .val (.int v2), .val (.int v3), .val (.double d0), .second, .val (.double d1), .second, .val (.double d2), .second, .val (.double d3), .second, .val (.ref b132), .val (.ref b142), .unset, .unset, .unset] [(.int (4 : Int32))])) _
      refine st153 _ ?_
      exact Steps.refl _
    have V153 := Arv.new A153 (by decide)
    have gb153 : n0 ≤ b153 := Nat.le_trans Zh (Nat.le_of_eq g153.symm)
    have Zh := Nat.le_trans Zh E153.1
    have hk := Nat.le_trans hk E153.1
    have c154 : Steps p.tables e below S0 (T153.setTop (mkF m 258 #[.val (.int i0), .val (.int i1), .val (.int (4 : Int32)), .val (.int f), .val (.int v0), .val (.int v1), .val (.int v2), .val (.int v3), .val (.double d0), .second, .val (.double d1), .second, .val (.double d2), .second, .val (.double d3), .second, .val (.ref b132), .val (.ref b142), .unset, .unset, .unset] [(.int v0), (.int (0 : Int32)), (.ref b153), (.ref b153)])) := by
      refine c153.trans ?_
      show Steps p.tables e below (T153.setTop (mkF m 254 #[.val (.int i0), .val (.int i1), .val (.int (4 : Int32)), .val (.int f), .val (.int v0), .val (.int v1), .val (.int v2), .val (.int v3), .val (.double d0), .second, .val (.double d1), .second, .val (.double d2), .second, .val (.double d3), .second, .val (.ref b132), .val (.ref b142), .unset, .unset, .unset] [(.ref b153)])) _
      refine XS.dup X153.here hx rfl (hb hby at_254) rfl rfl ?_
      show Steps p.tables e below (T153.setTop (mkF m 255 #[.val (.int i0), .val (.int i1), .val (.int (4 : Int32)), .val (.int f), .val (.int v0), .val (.int v1), .val (.int v2), .val (.int v3), .val (.double d0), .second, .val (.double d1), .second, .val (.double d2), .second, .val (.double d3), .second, .val (.ref b132), .val (.ref b142), .unset, .unset, .unset] [(.ref b153), (.ref b153)])) _
      refine XS.iconst X153.here hx rfl (hb hby at_255) ?_
      show Steps p.tables e below (T153.setTop (mkF m 256 #[.val (.int i0), .val (.int i1), .val (.int (4 : Int32)), .val (.int f), .val (.int v0), .val (.int v1), .val (.int v2), .val (.int v3), .val (.double d0), .second, .val (.double d1), .second, .val (.double d2), .second, .val (.double d3), .second, .val (.ref b132), .val (.ref b142), .unset, .unset, .unset] [(.int (0 : Int32)), (.ref b153), (.ref b153)])) _
      refine XS.iload X153.here hx rfl (hb hby at_256) rfl ?_
      exact Steps.refl _
    have Vp155 : Arv Z _ b153 kA153 .int (4 : Int32) [(.int 0)] (.int 0) := V153.pad (pad_rep [] (.int 0) 1)
    obtain ⟨cl155, Ar155, qr155, S155, M155, Hs155, U155⟩ := Vp155
    obtain ⟨T155, h155, X155, e155, W155, st155⟩ := stI X153 hx hZ e153 Ar155 (j := (0 : Int32)) (inb_of S155 ⟨(by decide), (by decide)⟩) (g := (mkF m 258 #[.val (.int i0), .val (.int i1), .val (.int (4 : Int32)), .val (.int f), .val (.int v0), .val (.int v1), .val (.int v2), .val (.int v3), .val (.double d0), .second, .val (.double d1), .second, .val (.double d2), .second, .val (.double d3), .second, .val (.ref b132), .val (.ref b142), .unset, .unset, .unset] [(.int v0), (.int (0 : Int32)), (.ref b153), (.ref b153)])) rfl rfl (hb hby at_258)
    have V155 : Arv Z h155 b153 kA153 .int (4 : Int32) [(.int v0)] (.int 0) := Arv.set Ar155 qr155 S155 M155 Hs155 U155 rfl W155 0 rfl (Nat.le_of_ble_eq_true rfl)
    have c155 : Steps p.tables e below S0 (T155.setTop (mkF m 259 #[.val (.int i0), .val (.int i1), .val (.int (4 : Int32)), .val (.int f), .val (.int v0), .val (.int v1), .val (.int v2), .val (.int v3), .val (.double d0), .second, .val (.double d1), .second, .val (.double d2), .second, .val (.double d3), .second, .val (.ref b132), .val (.ref b142), .unset, .unset, .unset] [(.ref b153)])) := by
      refine c154.trans ?_
      show Steps p.tables e below (T153.setTop (mkF m 258 #[.val (.int i0), .val (.int i1), .val (.int (4 : Int32)), .val (.int f), .val (.int v0), .val (.int v1), .val (.int v2), .val (.int v3), .val (.double d0), .second, .val (.double d1), .second, .val (.double d2), .second, .val (.double d3), .second, .val (.ref b132), .val (.ref b142), .unset, .unset, .unset] [(.int v0), (.int (0 : Int32)), (.ref b153), (.ref b153)])) _
      refine st155 _ ?_
      exact Steps.refl _
    have Nv0 := Fr.snoc X155 Nd3 gb153
    have Zh := Nat.le_trans Zh (Nat.le_of_eq (own_wsz W155).symm)
    have hk := Nat.le_trans hk (Nat.le_of_eq (own_wsz W155).symm)
    have c156 : Steps p.tables e below S0 (T155.setTop (mkF m 263 #[.val (.int i0), .val (.int i1), .val (.int (4 : Int32)), .val (.int f), .val (.int v0), .val (.int v1), .val (.int v2), .val (.int v3), .val (.double d0), .second, .val (.double d1), .second, .val (.double d2), .second, .val (.double d3), .second, .val (.ref b132), .val (.ref b142), .unset, .unset, .unset] [(.int v1), (.int (1 : Int32)), (.ref b153), (.ref b153)])) := by
      refine c155.trans ?_
      show Steps p.tables e below (T155.setTop (mkF m 259 #[.val (.int i0), .val (.int i1), .val (.int (4 : Int32)), .val (.int f), .val (.int v0), .val (.int v1), .val (.int v2), .val (.int v3), .val (.double d0), .second, .val (.double d1), .second, .val (.double d2), .second, .val (.double d3), .second, .val (.ref b132), .val (.ref b142), .unset, .unset, .unset] [(.ref b153)])) _
      refine XS.dup X155.here hx rfl (hb hby at_259) rfl rfl ?_
      show Steps p.tables e below (T155.setTop (mkF m 260 #[.val (.int i0), .val (.int i1), .val (.int (4 : Int32)), .val (.int f), .val (.int v0), .val (.int v1), .val (.int v2), .val (.int v3), .val (.double d0), .second, .val (.double d1), .second, .val (.double d2), .second, .val (.double d3), .second, .val (.ref b132), .val (.ref b142), .unset, .unset, .unset] [(.ref b153), (.ref b153)])) _
      refine XS.iconst X155.here hx rfl (hb hby at_260) ?_
      show Steps p.tables e below (T155.setTop (mkF m 261 #[.val (.int i0), .val (.int i1), .val (.int (4 : Int32)), .val (.int f), .val (.int v0), .val (.int v1), .val (.int v2), .val (.int v3), .val (.double d0), .second, .val (.double d1), .second, .val (.double d2), .second, .val (.double d3), .second, .val (.ref b132), .val (.ref b142), .unset, .unset, .unset] [(.int (1 : Int32)), (.ref b153), (.ref b153)])) _
      refine XS.iload X155.here hx rfl (hb hby at_261) rfl ?_
      exact Steps.refl _
    have Vp157 : Arv Z _ b153 kA153 .int (4 : Int32) [(.int v0), (.int 0)] (.int 0) := V155.pad (pad_rep [(.int v0)] (.int 0) 1)
    obtain ⟨cl157, Ar157, qr157, S157, M157, Hs157, U157⟩ := Vp157
    obtain ⟨T157, h157, X157, e157, W157, st157⟩ := stI X155 hx hZ e155 Ar157 (j := (1 : Int32)) (inb_of S157 ⟨(by decide), (by decide)⟩) (g := (mkF m 263 #[.val (.int i0), .val (.int i1), .val (.int (4 : Int32)), .val (.int f), .val (.int v0), .val (.int v1), .val (.int v2), .val (.int v3), .val (.double d0), .second, .val (.double d1), .second, .val (.double d2), .second, .val (.double d3), .second, .val (.ref b132), .val (.ref b142), .unset, .unset, .unset] [(.int v1), (.int (1 : Int32)), (.ref b153), (.ref b153)])) rfl rfl (hb hby at_263)
    have V157 : Arv Z h157 b153 kA153 .int (4 : Int32) [(.int v0), (.int v1)] (.int 0) := Arv.set Ar157 qr157 S157 M157 Hs157 U157 rfl W157 1 rfl (Nat.le_of_ble_eq_true rfl)
    have c157 : Steps p.tables e below S0 (T157.setTop (mkF m 264 #[.val (.int i0), .val (.int i1), .val (.int (4 : Int32)), .val (.int f), .val (.int v0), .val (.int v1), .val (.int v2), .val (.int v3), .val (.double d0), .second, .val (.double d1), .second, .val (.double d2), .second, .val (.double d3), .second, .val (.ref b132), .val (.ref b142), .unset, .unset, .unset] [(.ref b153)])) := by
      refine c156.trans ?_
      show Steps p.tables e below (T155.setTop (mkF m 263 #[.val (.int i0), .val (.int i1), .val (.int (4 : Int32)), .val (.int f), .val (.int v0), .val (.int v1), .val (.int v2), .val (.int v3), .val (.double d0), .second, .val (.double d1), .second, .val (.double d2), .second, .val (.double d3), .second, .val (.ref b132), .val (.ref b142), .unset, .unset, .unset] [(.int v1), (.int (1 : Int32)), (.ref b153), (.ref b153)])) _
      refine st157 _ ?_
      exact Steps.refl _
    have Nv1 := Fr.snoc X157 Nv0 gb153
    have Zh := Nat.le_trans Zh (Nat.le_of_eq (own_wsz W157).symm)
    have hk := Nat.le_trans hk (Nat.le_of_eq (own_wsz W157).symm)
    have c158 : Steps p.tables e below S0 (T157.setTop (mkF m 268 #[.val (.int i0), .val (.int i1), .val (.int (4 : Int32)), .val (.int f), .val (.int v0), .val (.int v1), .val (.int v2), .val (.int v3), .val (.double d0), .second, .val (.double d1), .second, .val (.double d2), .second, .val (.double d3), .second, .val (.ref b132), .val (.ref b142), .unset, .unset, .unset] [(.int v2), (.int (2 : Int32)), (.ref b153), (.ref b153)])) := by
      refine c157.trans ?_
      show Steps p.tables e below (T157.setTop (mkF m 264 #[.val (.int i0), .val (.int i1), .val (.int (4 : Int32)), .val (.int f), .val (.int v0), .val (.int v1), .val (.int v2), .val (.int v3), .val (.double d0), .second, .val (.double d1), .second, .val (.double d2), .second, .val (.double d3), .second, .val (.ref b132), .val (.ref b142), .unset, .unset, .unset] [(.ref b153)])) _
      refine XS.dup X157.here hx rfl (hb hby at_264) rfl rfl ?_
      show Steps p.tables e below (T157.setTop (mkF m 265 #[.val (.int i0), .val (.int i1), .val (.int (4 : Int32)), .val (.int f), .val (.int v0), .val (.int v1), .val (.int v2), .val (.int v3), .val (.double d0), .second, .val (.double d1), .second, .val (.double d2), .second, .val (.double d3), .second, .val (.ref b132), .val (.ref b142), .unset, .unset, .unset] [(.ref b153), (.ref b153)])) _
      refine XS.iconst X157.here hx rfl (hb hby at_265) ?_
      show Steps p.tables e below (T157.setTop (mkF m 266 #[.val (.int i0), .val (.int i1), .val (.int (4 : Int32)), .val (.int f), .val (.int v0), .val (.int v1), .val (.int v2), .val (.int v3), .val (.double d0), .second, .val (.double d1), .second, .val (.double d2), .second, .val (.double d3), .second, .val (.ref b132), .val (.ref b142), .unset, .unset, .unset] [(.int (2 : Int32)), (.ref b153), (.ref b153)])) _
      refine XS.iload X157.here hx rfl (hb hby at_266) rfl ?_
      exact Steps.refl _
    have Vp159 : Arv Z _ b153 kA153 .int (4 : Int32) [(.int v0), (.int v1), (.int 0)] (.int 0) := V157.pad (pad_rep [(.int v0), (.int v1)] (.int 0) 1)
    obtain ⟨cl159, Ar159, qr159, S159, M159, Hs159, U159⟩ := Vp159
    obtain ⟨T159, h159, X159, e159, W159, st159⟩ := stI X157 hx hZ e157 Ar159 (j := (2 : Int32)) (inb_of S159 ⟨(by decide), (by decide)⟩) (g := (mkF m 268 #[.val (.int i0), .val (.int i1), .val (.int (4 : Int32)), .val (.int f), .val (.int v0), .val (.int v1), .val (.int v2), .val (.int v3), .val (.double d0), .second, .val (.double d1), .second, .val (.double d2), .second, .val (.double d3), .second, .val (.ref b132), .val (.ref b142), .unset, .unset, .unset] [(.int v2), (.int (2 : Int32)), (.ref b153), (.ref b153)])) rfl rfl (hb hby at_268)
    have V159 : Arv Z h159 b153 kA153 .int (4 : Int32) [(.int v0), (.int v1), (.int v2)] (.int 0) := Arv.set Ar159 qr159 S159 M159 Hs159 U159 rfl W159 2 rfl (Nat.le_of_ble_eq_true rfl)
    have c159 : Steps p.tables e below S0 (T159.setTop (mkF m 269 #[.val (.int i0), .val (.int i1), .val (.int (4 : Int32)), .val (.int f), .val (.int v0), .val (.int v1), .val (.int v2), .val (.int v3), .val (.double d0), .second, .val (.double d1), .second, .val (.double d2), .second, .val (.double d3), .second, .val (.ref b132), .val (.ref b142), .unset, .unset, .unset] [(.ref b153)])) := by
      refine c158.trans ?_
      show Steps p.tables e below (T157.setTop (mkF m 268 #[.val (.int i0), .val (.int i1), .val (.int (4 : Int32)), .val (.int f), .val (.int v0), .val (.int v1), .val (.int v2), .val (.int v3), .val (.double d0), .second, .val (.double d1), .second, .val (.double d2), .second, .val (.double d3), .second, .val (.ref b132), .val (.ref b142), .unset, .unset, .unset] [(.int v2), (.int (2 : Int32)), (.ref b153), (.ref b153)])) _
      refine st159 _ ?_
      exact Steps.refl _
    have Nv2 := Fr.snoc X159 Nv1 gb153
    have Zh := Nat.le_trans Zh (Nat.le_of_eq (own_wsz W159).symm)
    have hk := Nat.le_trans hk (Nat.le_of_eq (own_wsz W159).symm)
    have c160 : Steps p.tables e below S0 (T159.setTop (mkF m 273 #[.val (.int i0), .val (.int i1), .val (.int (4 : Int32)), .val (.int f), .val (.int v0), .val (.int v1), .val (.int v2), .val (.int v3), .val (.double d0), .second, .val (.double d1), .second, .val (.double d2), .second, .val (.double d3), .second, .val (.ref b132), .val (.ref b142), .unset, .unset, .unset] [(.int v3), (.int (3 : Int32)), (.ref b153), (.ref b153)])) := by
      refine c159.trans ?_
      show Steps p.tables e below (T159.setTop (mkF m 269 #[.val (.int i0), .val (.int i1), .val (.int (4 : Int32)), .val (.int f), .val (.int v0), .val (.int v1), .val (.int v2), .val (.int v3), .val (.double d0), .second, .val (.double d1), .second, .val (.double d2), .second, .val (.double d3), .second, .val (.ref b132), .val (.ref b142), .unset, .unset, .unset] [(.ref b153)])) _
      refine XS.dup X159.here hx rfl (hb hby at_269) rfl rfl ?_
      show Steps p.tables e below (T159.setTop (mkF m 270 #[.val (.int i0), .val (.int i1), .val (.int (4 : Int32)), .val (.int f), .val (.int v0), .val (.int v1), .val (.int v2), .val (.int v3), .val (.double d0), .second, .val (.double d1), .second, .val (.double d2), .second, .val (.double d3), .second, .val (.ref b132), .val (.ref b142), .unset, .unset, .unset] [(.ref b153), (.ref b153)])) _
      refine XS.iconst X159.here hx rfl (hb hby at_270) ?_
      show Steps p.tables e below (T159.setTop (mkF m 271 #[.val (.int i0), .val (.int i1), .val (.int (4 : Int32)), .val (.int f), .val (.int v0), .val (.int v1), .val (.int v2), .val (.int v3), .val (.double d0), .second, .val (.double d1), .second, .val (.double d2), .second, .val (.double d3), .second, .val (.ref b132), .val (.ref b142), .unset, .unset, .unset] [(.int (3 : Int32)), (.ref b153), (.ref b153)])) _
      refine XS.iload X159.here hx rfl (hb hby at_271) rfl ?_
      exact Steps.refl _
    have Vp161 : Arv Z _ b153 kA153 .int (4 : Int32) [(.int v0), (.int v1), (.int v2), (.int 0)] (.int 0) := V159.pad (pad_rep [(.int v0), (.int v1), (.int v2)] (.int 0) 1)
    obtain ⟨cl161, Ar161, qr161, S161, M161, Hs161, U161⟩ := Vp161
    obtain ⟨T161, h161, X161, e161, W161, st161⟩ := stI X159 hx hZ e159 Ar161 (j := (3 : Int32)) (inb_of S161 ⟨(by decide), (by decide)⟩) (g := (mkF m 273 #[.val (.int i0), .val (.int i1), .val (.int (4 : Int32)), .val (.int f), .val (.int v0), .val (.int v1), .val (.int v2), .val (.int v3), .val (.double d0), .second, .val (.double d1), .second, .val (.double d2), .second, .val (.double d3), .second, .val (.ref b132), .val (.ref b142), .unset, .unset, .unset] [(.int v3), (.int (3 : Int32)), (.ref b153), (.ref b153)])) rfl rfl (hb hby at_273)
    have V161 : Arv Z h161 b153 kA153 .int (4 : Int32) [(.int v0), (.int v1), (.int v2), (.int v3)] (.int 0) := Arv.set Ar161 qr161 S161 M161 Hs161 U161 rfl W161 3 rfl (Nat.le_of_ble_eq_true rfl)
    have c161 : Steps p.tables e below S0 (T161.setTop (mkF m 274 #[.val (.int i0), .val (.int i1), .val (.int (4 : Int32)), .val (.int f), .val (.int v0), .val (.int v1), .val (.int v2), .val (.int v3), .val (.double d0), .second, .val (.double d1), .second, .val (.double d2), .second, .val (.double d3), .second, .val (.ref b132), .val (.ref b142), .unset, .unset, .unset] [(.ref b153)])) := by
      refine c160.trans ?_
      show Steps p.tables e below (T159.setTop (mkF m 273 #[.val (.int i0), .val (.int i1), .val (.int (4 : Int32)), .val (.int f), .val (.int v0), .val (.int v1), .val (.int v2), .val (.int v3), .val (.double d0), .second, .val (.double d1), .second, .val (.double d2), .second, .val (.double d3), .second, .val (.ref b132), .val (.ref b142), .unset, .unset, .unset] [(.int v3), (.int (3 : Int32)), (.ref b153), (.ref b153)])) _
      refine st161 _ ?_
      exact Steps.refl _
    have Nv3 := Fr.snoc X161 Nv2 gb153
    have Zh := Nat.le_trans Zh (Nat.le_of_eq (own_wsz W161).symm)
    have hk := Nat.le_trans hk (Nat.le_of_eq (own_wsz W161).symm)
    have Vs := ((((((((((V140.ext E142).other W144 (Nat.ne_of_lt (Nat.lt_of_lt_of_le V140.lt (Nat.le_of_eq g142.symm)))).other W146 (Nat.ne_of_lt (Nat.lt_of_lt_of_le V140.lt (Nat.le_of_eq g142.symm)))).other W148 (Nat.ne_of_lt (Nat.lt_of_lt_of_le V140.lt (Nat.le_of_eq g142.symm)))).other W150 (Nat.ne_of_lt (Nat.lt_of_lt_of_le V140.lt (Nat.le_of_eq g142.symm)))).ext E153).other W155 (Nat.ne_of_lt (Nat.lt_of_lt_of_le (((((V140.ext E142).other W144 (Nat.ne_of_lt (Nat.lt_of_lt_of_le V140.lt (Nat.le_of_eq g142.symm)))).other W146 (Nat.ne_of_lt (Nat.lt_of_lt_of_le V140.lt (Nat.le_of_eq g142.symm)))).other W148 (Nat.ne_of_lt (Nat.lt_of_lt_of_le V140.lt (Nat.le_of_eq g142.symm)))).other W150 (Nat.ne_of_lt (Nat.lt_of_lt_of_le V140.lt (Nat.le_of_eq g142.symm)))).lt (Nat.le_of_eq g153.symm)))).other W157 (Nat.ne_of_lt (Nat.lt_of_lt_of_le (((((V140.ext E142).other W144 (Nat.ne_of_lt (Nat.lt_of_lt_of_le V140.lt (Nat.le_of_eq g142.symm)))).other W146 (Nat.ne_of_lt (Nat.lt_of_lt_of_le V140.lt (Nat.le_of_eq g142.symm)))).other W148 (Nat.ne_of_lt (Nat.lt_of_lt_of_le V140.lt (Nat.le_of_eq g142.symm)))).other W150 (Nat.ne_of_lt (Nat.lt_of_lt_of_le V140.lt (Nat.le_of_eq g142.symm)))).lt (Nat.le_of_eq g153.symm)))).other W159 (Nat.ne_of_lt (Nat.lt_of_lt_of_le (((((V140.ext E142).other W144 (Nat.ne_of_lt (Nat.lt_of_lt_of_le V140.lt (Nat.le_of_eq g142.symm)))).other W146 (Nat.ne_of_lt (Nat.lt_of_lt_of_le V140.lt (Nat.le_of_eq g142.symm)))).other W148 (Nat.ne_of_lt (Nat.lt_of_lt_of_le V140.lt (Nat.le_of_eq g142.symm)))).other W150 (Nat.ne_of_lt (Nat.lt_of_lt_of_le V140.lt (Nat.le_of_eq g142.symm)))).lt (Nat.le_of_eq g153.symm)))).other W161 (Nat.ne_of_lt (Nat.lt_of_lt_of_le (((((V140.ext E142).other W144 (Nat.ne_of_lt (Nat.lt_of_lt_of_le V140.lt (Nat.le_of_eq g142.symm)))).other W146 (Nat.ne_of_lt (Nat.lt_of_lt_of_le V140.lt (Nat.le_of_eq g142.symm)))).other W148 (Nat.ne_of_lt (Nat.lt_of_lt_of_le V140.lt (Nat.le_of_eq g142.symm)))).other W150 (Nat.ne_of_lt (Nat.lt_of_lt_of_le V140.lt (Nat.le_of_eq g142.symm)))).lt (Nat.le_of_eq g153.symm))))
    have Vd := (((((V150.ext E153).other W155 (Nat.ne_of_lt (Nat.lt_of_lt_of_le V150.lt (Nat.le_of_eq g153.symm)))).other W157 (Nat.ne_of_lt (Nat.lt_of_lt_of_le V150.lt (Nat.le_of_eq g153.symm)))).other W159 (Nat.ne_of_lt (Nat.lt_of_lt_of_le V150.lt (Nat.le_of_eq g153.symm)))).other W161 (Nat.ne_of_lt (Nat.lt_of_lt_of_le V150.lt (Nat.le_of_eq g153.symm))))
    obtain ⟨clv, Arv_, -, Sv, -, Hv, -⟩ := V161
    have hVv := own_hV (v0 := v0) (v1 := v1) (v2 := v2) (v3 := v3) Sv Hv
    generalize hVV : own_V v0 v1 v2 v3 = VV at hVv
    have c162 : Steps p.tables e below S0 (T161.setTop (mkF m 279 #[.val (.int i0), .val (.int i1), .val (.int (4 : Int32)), .val (.int f), .val (.int v0), .val (.int v1), .val (.int v2), .val (.int v3), .val (.double d0), .second, .val (.double d1), .second, .val (.double d2), .second, .val (.double d3), .second, .val (.ref b132), .val (.ref b142), .val (.ref b153), .val (.int (4 : Int32)), .unset] [])) := by
      refine c161.trans ?_
      show Steps p.tables e below (T161.setTop (mkF m 274 #[.val (.int i0), .val (.int i1), .val (.int (4 : Int32)), .val (.int f), .val (.int v0), .val (.int v1), .val (.int v2), .val (.int v3), .val (.double d0), .second, .val (.double d1), .second, .val (.double d2), .second, .val (.double d3), .second, .val (.ref b132), .val (.ref b142), .unset, .unset, .unset] [(.ref b153)])) _
      refine XS.astore X161.here hx rfl (hb hby at_274) rfl rfl (l' := #[.val (.int i0), .val (.int i1), .val (.int (4 : Int32)), .val (.int f), .val (.int v0), .val (.int v1), .val (.int v2), .val (.int v3), .val (.double d0), .second, .val (.double d1), .second, .val (.double d2), .second, .val (.double d3), .second, .val (.ref b132), .val (.ref b142), .val (.ref b153), .unset, .unset]) rfl ?_
      show Steps p.tables e below (T161.setTop (mkF m 276 #[.val (.int i0), .val (.int i1), .val (.int (4 : Int32)), .val (.int f), .val (.int v0), .val (.int v1), .val (.int v2), .val (.int v3), .val (.double d0), .second, .val (.double d1), .second, .val (.double d2), .second, .val (.double d3), .second, .val (.ref b132), .val (.ref b142), .val (.ref b153), .unset, .unset] [])) _
      refine XS.iloadN X161.here hx rfl (hb hby at_276) rfl ?_
      show Steps p.tables e below (T161.setTop (mkF m 277 #[.val (.int i0), .val (.int i1), .val (.int (4 : Int32)), .val (.int f), .val (.int v0), .val (.int v1), .val (.int v2), .val (.int v3), .val (.double d0), .second, .val (.double d1), .second, .val (.double d2), .second, .val (.double d3), .second, .val (.ref b132), .val (.ref b142), .val (.ref b153), .unset, .unset] [(.int (4 : Int32))])) _
      refine XS.istore X161.here hx rfl (hb hby at_277) rfl (l' := #[.val (.int i0), .val (.int i1), .val (.int (4 : Int32)), .val (.int f), .val (.int v0), .val (.int v1), .val (.int v2), .val (.int v3), .val (.double d0), .second, .val (.double d1), .second, .val (.double d2), .second, .val (.double d3), .second, .val (.ref b132), .val (.ref b142), .val (.ref b153), .val (.int (4 : Int32)), .unset]) rfl ?_
      exact Steps.refl _
    have c163 : Steps p.tables e below S0 (T161.setTop (mkF m 283 #[.val (.int i0), .val (.int i1), .val (.int (4 : Int32)), .val (.int f), .val (.int v0), .val (.int v1), .val (.int v2), .val (.int v3), .val (.double d0), .second, .val (.double d1), .second, .val (.double d2), .second, .val (.double d3), .second, .val (.ref b132), .val (.ref b142), .val (.ref b153), .val (.int (4 : Int32)), .unset] [(.int (4 : Int32)), (.int (f + (3 : Int32)))])) := by
      refine c162.trans ?_
      show Steps p.tables e below (T161.setTop (mkF m 279 #[.val (.int i0), .val (.int i1), .val (.int (4 : Int32)), .val (.int f), .val (.int v0), .val (.int v1), .val (.int v2), .val (.int v3), .val (.double d0), .second, .val (.double d1), .second, .val (.double d2), .second, .val (.double d3), .second, .val (.ref b132), .val (.ref b142), .val (.ref b153), .val (.int (4 : Int32)), .unset] [])) _
      refine XS.iloadN X161.here hx rfl (hb hby at_279) rfl ?_
      show Steps p.tables e below (T161.setTop (mkF m 280 #[.val (.int i0), .val (.int i1), .val (.int (4 : Int32)), .val (.int f), .val (.int v0), .val (.int v1), .val (.int v2), .val (.int v3), .val (.double d0), .second, .val (.double d1), .second, .val (.double d2), .second, .val (.double d3), .second, .val (.ref b132), .val (.ref b142), .val (.ref b153), .val (.int (4 : Int32)), .unset] [(.int f)])) _
      refine XS.iconst X161.here hx rfl (hb hby at_280) ?_
      show Steps p.tables e below (T161.setTop (mkF m 281 #[.val (.int i0), .val (.int i1), .val (.int (4 : Int32)), .val (.int f), .val (.int v0), .val (.int v1), .val (.int v2), .val (.int v3), .val (.double d0), .second, .val (.double d1), .second, .val (.double d2), .second, .val (.double d3), .second, .val (.ref b132), .val (.ref b142), .val (.ref b153), .val (.int (4 : Int32)), .unset] [(.int (3 : Int32)), (.int f)])) _
      refine XS.iadd X161.here hx rfl (hb hby at_281) rfl ?_
      show Steps p.tables e below (T161.setTop (mkF m 282 #[.val (.int i0), .val (.int i1), .val (.int (4 : Int32)), .val (.int f), .val (.int v0), .val (.int v1), .val (.int v2), .val (.int v3), .val (.double d0), .second, .val (.double d1), .second, .val (.double d2), .second, .val (.double d3), .second, .val (.ref b132), .val (.ref b142), .val (.ref b153), .val (.int (4 : Int32)), .unset] [(.int (f + (3 : Int32)))])) _
      refine XS.iloadN X161.here hx rfl (hb hby at_282) rfl ?_
      exact Steps.refl _
    have c164 : Steps p.tables e below S0 (T161.setTop (mkF m 304 #[.val (.int i0), .val (.int i1), .val (.int (4 : Int32)), .val (.int f), .val (.int v0), .val (.int v1), .val (.int v2), .val (.int v3), .val (.double d0), .second, .val (.double d1), .second, .val (.double d2), .second, .val (.double d3), .second, .val (.ref b132), .val (.ref b142), .val (.ref b153), .val (.int (if (f + (3 : Int32)) < (4 : Int32) then (if VV (f + (3 : Int32)) = VV f then (4 : Int32) else (f + (3 : Int32))) else (4 : Int32))), .unset] [])) := by
      refine c163.trans ?_
      by_cases h1 : (f + (3 : Int32)) < (4 : Int32)
      · obtain ⟨hq0, hq4⟩ := own_place (k := 3) (n := 4) hf0 hfN (by decide) h1
        rw [if_pos h1]
        by_cases h2 : VV (f + (3 : Int32)) = VV f
        · rw [if_pos h2]
          show Steps p.tables e below (T161.setTop (mkF m 283 #[.val (.int i0), .val (.int i1), .val (.int (4 : Int32)), .val (.int f), .val (.int v0), .val (.int v1), .val (.int v2), .val (.int v3), .val (.double d0), .second, .val (.double d1), .second, .val (.double d2), .second, .val (.double d3), .second, .val (.ref b132), .val (.ref b142), .val (.ref b153), .val (.int (4 : Int32)), .unset] [(.int (4 : Int32)), (.int (f + (3 : Int32)))])) _
          refine XS.icmpNo X161.here hx rfl (hb hby at_283) rfl (tlt h1).2.1 ?_
          show Steps p.tables e below (T161.setTop (mkF m 286 #[.val (.int i0), .val (.int i1), .val (.int (4 : Int32)), .val (.int f), .val (.int v0), .val (.int v1), .val (.int v2), .val (.int v3), .val (.double d0), .second, .val (.double d1), .second, .val (.double d2), .second, .val (.double d3), .second, .val (.ref b132), .val (.ref b142), .val (.ref b153), .val (.int (4 : Int32)), .unset] [])) _
          refine XS.aload X161.here hx rfl (hb hby at_286) rfl rfl ?_
          show Steps p.tables e below (T161.setTop (mkF m 288 #[.val (.int i0), .val (.int i1), .val (.int (4 : Int32)), .val (.int f), .val (.int v0), .val (.int v1), .val (.int v2), .val (.int v3), .val (.double d0), .second, .val (.double d1), .second, .val (.double d2), .second, .val (.double d3), .second, .val (.ref b132), .val (.ref b142), .val (.ref b153), .val (.int (4 : Int32)), .unset] [(.ref b153)])) _
          refine XS.iloadN X161.here hx rfl (hb hby at_288) rfl ?_
          show Steps p.tables e below (T161.setTop (mkF m 289 #[.val (.int i0), .val (.int i1), .val (.int (4 : Int32)), .val (.int f), .val (.int v0), .val (.int v1), .val (.int v2), .val (.int v3), .val (.double d0), .second, .val (.double d1), .second, .val (.double d2), .second, .val (.double d3), .second, .val (.ref b132), .val (.ref b142), .val (.ref b153), .val (.int (4 : Int32)), .unset] [(.int f), (.ref b153)])) _
          refine XS.iconst X161.here hx rfl (hb hby at_289) ?_
          show Steps p.tables e below (T161.setTop (mkF m 290 #[.val (.int i0), .val (.int i1), .val (.int (4 : Int32)), .val (.int f), .val (.int v0), .val (.int v1), .val (.int v2), .val (.int v3), .val (.double d0), .second, .val (.double d1), .second, .val (.double d2), .second, .val (.double d3), .second, .val (.ref b132), .val (.ref b142), .val (.ref b153), .val (.int (4 : Int32)), .unset] [(.int (3 : Int32)), (.int f), (.ref b153)])) _
          refine XS.iadd X161.here hx rfl (hb hby at_290) rfl ?_
          show Steps p.tables e below (T161.setTop (mkF m 291 #[.val (.int i0), .val (.int i1), .val (.int (4 : Int32)), .val (.int f), .val (.int v0), .val (.int v1), .val (.int v2), .val (.int v3), .val (.double d0), .second, .val (.double d1), .second, .val (.double d2), .second, .val (.double d3), .second, .val (.ref b132), .val (.ref b142), .val (.ref b153), .val (.int (4 : Int32)), .unset] [(.int (f + (3 : Int32))), (.ref b153)])) _
          refine X161.iaload hx (j := (f + (3 : Int32))) (v := .int (VV (f + (3 : Int32)))) (by rw [e161]; exact Arv_.1) (State.isArrayOf_alike hZ.alike Arv_.2.1) Arv_.2.2 (inb_of Sv ⟨hq0, hq4⟩) (hVv _ hq0 hq4) (g := (mkF m 291 #[.val (.int i0), .val (.int i1), .val (.int (4 : Int32)), .val (.int f), .val (.int v0), .val (.int v1), .val (.int v2), .val (.int v3), .val (.double d0), .second, .val (.double d1), .second, .val (.double d2), .second, .val (.double d3), .second, .val (.ref b132), .val (.ref b142), .val (.ref b153), .val (.int (4 : Int32)), .unset] [(.int (f + (3 : Int32))), (.ref b153)])) rfl rfl (hb hby at_291) _ ?_
          show Steps p.tables e below (T161.setTop (mkF m 292 #[.val (.int i0), .val (.int i1), .val (.int (4 : Int32)), .val (.int f), .val (.int v0), .val (.int v1), .val (.int v2), .val (.int v3), .val (.double d0), .second, .val (.double d1), .second, .val (.double d2), .second, .val (.double d3), .second, .val (.ref b132), .val (.ref b142), .val (.ref b153), .val (.int (4 : Int32)), .unset] [(.int (VV (f + (3 : Int32))))])) _
          refine XS.aload X161.here hx rfl (hb hby at_292) rfl rfl ?_
          show Steps p.tables e below (T161.setTop (mkF m 294 #[.val (.int i0), .val (.int i1), .val (.int (4 : Int32)), .val (.int f), .val (.int v0), .val (.int v1), .val (.int v2), .val (.int v3), .val (.double d0), .second, .val (.double d1), .second, .val (.double d2), .second, .val (.double d3), .second, .val (.ref b132), .val (.ref b142), .val (.ref b153), .val (.int (4 : Int32)), .unset] [(.ref b153), (.int (VV (f + (3 : Int32))))])) _
          refine XS.iloadN X161.here hx rfl (hb hby at_294) rfl ?_
          show Steps p.tables e below (T161.setTop (mkF m 295 #[.val (.int i0), .val (.int i1), .val (.int (4 : Int32)), .val (.int f), .val (.int v0), .val (.int v1), .val (.int v2), .val (.int v3), .val (.double d0), .second, .val (.double d1), .second, .val (.double d2), .second, .val (.double d3), .second, .val (.ref b132), .val (.ref b142), .val (.ref b153), .val (.int (4 : Int32)), .unset] [(.int f), (.ref b153), (.int (VV (f + (3 : Int32))))])) _
          refine X161.iaload hx (j := f) (v := .int (VV f)) (by rw [e161]; exact Arv_.1) (State.isArrayOf_alike hZ.alike Arv_.2.1) Arv_.2.2 (inb_of Sv ⟨hf0, hf4⟩) (hVv _ hf0 hf4) (g := (mkF m 295 #[.val (.int i0), .val (.int i1), .val (.int (4 : Int32)), .val (.int f), .val (.int v0), .val (.int v1), .val (.int v2), .val (.int v3), .val (.double d0), .second, .val (.double d1), .second, .val (.double d2), .second, .val (.double d3), .second, .val (.ref b132), .val (.ref b142), .val (.ref b153), .val (.int (4 : Int32)), .unset] [(.int f), (.ref b153), (.int (VV (f + (3 : Int32))))])) rfl rfl (hb hby at_295) _ ?_
          show Steps p.tables e below (T161.setTop (mkF m 296 #[.val (.int i0), .val (.int i1), .val (.int (4 : Int32)), .val (.int f), .val (.int v0), .val (.int v1), .val (.int v2), .val (.int v3), .val (.double d0), .second, .val (.double d1), .second, .val (.double d2), .second, .val (.double d3), .second, .val (.ref b132), .val (.ref b142), .val (.ref b153), .val (.int (4 : Int32)), .unset] [(.int (VV f)), (.int (VV (f + (3 : Int32))))])) _
          refine XS.icmpYes X161.here hx rfl (pc0 := 296) (pc' := 304) rfl (hb hby at_296) rfl (teq h2).1 (by decide) (by decide) ?_
          exact Steps.refl _
        · rw [if_neg h2]
          show Steps p.tables e below (T161.setTop (mkF m 283 #[.val (.int i0), .val (.int i1), .val (.int (4 : Int32)), .val (.int f), .val (.int v0), .val (.int v1), .val (.int v2), .val (.int v3), .val (.double d0), .second, .val (.double d1), .second, .val (.double d2), .second, .val (.double d3), .second, .val (.ref b132), .val (.ref b142), .val (.ref b153), .val (.int (4 : Int32)), .unset] [(.int (4 : Int32)), (.int (f + (3 : Int32)))])) _
          refine XS.icmpNo X161.here hx rfl (hb hby at_283) rfl (tlt h1).2.1 ?_
          show Steps p.tables e below (T161.setTop (mkF m 286 #[.val (.int i0), .val (.int i1), .val (.int (4 : Int32)), .val (.int f), .val (.int v0), .val (.int v1), .val (.int v2), .val (.int v3), .val (.double d0), .second, .val (.double d1), .second, .val (.double d2), .second, .val (.double d3), .second, .val (.ref b132), .val (.ref b142), .val (.ref b153), .val (.int (4 : Int32)), .unset] [])) _
          refine XS.aload X161.here hx rfl (hb hby at_286) rfl rfl ?_
          show Steps p.tables e below (T161.setTop (mkF m 288 #[.val (.int i0), .val (.int i1), .val (.int (4 : Int32)), .val (.int f), .val (.int v0), .val (.int v1), .val (.int v2), .val (.int v3), .val (.double d0), .second, .val (.double d1), .second, .val (.double d2), .second, .val (.double d3), .second, .val (.ref b132), .val (.ref b142), .val (.ref b153), .val (.int (4 : Int32)), .unset] [(.ref b153)])) _
          refine XS.iloadN X161.here hx rfl (hb hby at_288) rfl ?_
          show Steps p.tables e below (T161.setTop (mkF m 289 #[.val (.int i0), .val (.int i1), .val (.int (4 : Int32)), .val (.int f), .val (.int v0), .val (.int v1), .val (.int v2), .val (.int v3), .val (.double d0), .second, .val (.double d1), .second, .val (.double d2), .second, .val (.double d3), .second, .val (.ref b132), .val (.ref b142), .val (.ref b153), .val (.int (4 : Int32)), .unset] [(.int f), (.ref b153)])) _
          refine XS.iconst X161.here hx rfl (hb hby at_289) ?_
          show Steps p.tables e below (T161.setTop (mkF m 290 #[.val (.int i0), .val (.int i1), .val (.int (4 : Int32)), .val (.int f), .val (.int v0), .val (.int v1), .val (.int v2), .val (.int v3), .val (.double d0), .second, .val (.double d1), .second, .val (.double d2), .second, .val (.double d3), .second, .val (.ref b132), .val (.ref b142), .val (.ref b153), .val (.int (4 : Int32)), .unset] [(.int (3 : Int32)), (.int f), (.ref b153)])) _
          refine XS.iadd X161.here hx rfl (hb hby at_290) rfl ?_
          show Steps p.tables e below (T161.setTop (mkF m 291 #[.val (.int i0), .val (.int i1), .val (.int (4 : Int32)), .val (.int f), .val (.int v0), .val (.int v1), .val (.int v2), .val (.int v3), .val (.double d0), .second, .val (.double d1), .second, .val (.double d2), .second, .val (.double d3), .second, .val (.ref b132), .val (.ref b142), .val (.ref b153), .val (.int (4 : Int32)), .unset] [(.int (f + (3 : Int32))), (.ref b153)])) _
          refine X161.iaload hx (j := (f + (3 : Int32))) (v := .int (VV (f + (3 : Int32)))) (by rw [e161]; exact Arv_.1) (State.isArrayOf_alike hZ.alike Arv_.2.1) Arv_.2.2 (inb_of Sv ⟨hq0, hq4⟩) (hVv _ hq0 hq4) (g := (mkF m 291 #[.val (.int i0), .val (.int i1), .val (.int (4 : Int32)), .val (.int f), .val (.int v0), .val (.int v1), .val (.int v2), .val (.int v3), .val (.double d0), .second, .val (.double d1), .second, .val (.double d2), .second, .val (.double d3), .second, .val (.ref b132), .val (.ref b142), .val (.ref b153), .val (.int (4 : Int32)), .unset] [(.int (f + (3 : Int32))), (.ref b153)])) rfl rfl (hb hby at_291) _ ?_
          show Steps p.tables e below (T161.setTop (mkF m 292 #[.val (.int i0), .val (.int i1), .val (.int (4 : Int32)), .val (.int f), .val (.int v0), .val (.int v1), .val (.int v2), .val (.int v3), .val (.double d0), .second, .val (.double d1), .second, .val (.double d2), .second, .val (.double d3), .second, .val (.ref b132), .val (.ref b142), .val (.ref b153), .val (.int (4 : Int32)), .unset] [(.int (VV (f + (3 : Int32))))])) _
          refine XS.aload X161.here hx rfl (hb hby at_292) rfl rfl ?_
          show Steps p.tables e below (T161.setTop (mkF m 294 #[.val (.int i0), .val (.int i1), .val (.int (4 : Int32)), .val (.int f), .val (.int v0), .val (.int v1), .val (.int v2), .val (.int v3), .val (.double d0), .second, .val (.double d1), .second, .val (.double d2), .second, .val (.double d3), .second, .val (.ref b132), .val (.ref b142), .val (.ref b153), .val (.int (4 : Int32)), .unset] [(.ref b153), (.int (VV (f + (3 : Int32))))])) _
          refine XS.iloadN X161.here hx rfl (hb hby at_294) rfl ?_
          show Steps p.tables e below (T161.setTop (mkF m 295 #[.val (.int i0), .val (.int i1), .val (.int (4 : Int32)), .val (.int f), .val (.int v0), .val (.int v1), .val (.int v2), .val (.int v3), .val (.double d0), .second, .val (.double d1), .second, .val (.double d2), .second, .val (.double d3), .second, .val (.ref b132), .val (.ref b142), .val (.ref b153), .val (.int (4 : Int32)), .unset] [(.int f), (.ref b153), (.int (VV (f + (3 : Int32))))])) _
          refine X161.iaload hx (j := f) (v := .int (VV f)) (by rw [e161]; exact Arv_.1) (State.isArrayOf_alike hZ.alike Arv_.2.1) Arv_.2.2 (inb_of Sv ⟨hf0, hf4⟩) (hVv _ hf0 hf4) (g := (mkF m 295 #[.val (.int i0), .val (.int i1), .val (.int (4 : Int32)), .val (.int f), .val (.int v0), .val (.int v1), .val (.int v2), .val (.int v3), .val (.double d0), .second, .val (.double d1), .second, .val (.double d2), .second, .val (.double d3), .second, .val (.ref b132), .val (.ref b142), .val (.ref b153), .val (.int (4 : Int32)), .unset] [(.int f), (.ref b153), (.int (VV (f + (3 : Int32))))])) rfl rfl (hb hby at_295) _ ?_
          show Steps p.tables e below (T161.setTop (mkF m 296 #[.val (.int i0), .val (.int i1), .val (.int (4 : Int32)), .val (.int f), .val (.int v0), .val (.int v1), .val (.int v2), .val (.int v3), .val (.double d0), .second, .val (.double d1), .second, .val (.double d2), .second, .val (.double d3), .second, .val (.ref b132), .val (.ref b142), .val (.ref b153), .val (.int (4 : Int32)), .unset] [(.int (VV f)), (.int (VV (f + (3 : Int32))))])) _
          refine XS.icmpNo X161.here hx rfl (hb hby at_296) rfl (feq h2).1 ?_
          show Steps p.tables e below (T161.setTop (mkF m 299 #[.val (.int i0), .val (.int i1), .val (.int (4 : Int32)), .val (.int f), .val (.int v0), .val (.int v1), .val (.int v2), .val (.int v3), .val (.double d0), .second, .val (.double d1), .second, .val (.double d2), .second, .val (.double d3), .second, .val (.ref b132), .val (.ref b142), .val (.ref b153), .val (.int (4 : Int32)), .unset] [])) _
          refine XS.iloadN X161.here hx rfl (hb hby at_299) rfl ?_
          show Steps p.tables e below (T161.setTop (mkF m 300 #[.val (.int i0), .val (.int i1), .val (.int (4 : Int32)), .val (.int f), .val (.int v0), .val (.int v1), .val (.int v2), .val (.int v3), .val (.double d0), .second, .val (.double d1), .second, .val (.double d2), .second, .val (.double d3), .second, .val (.ref b132), .val (.ref b142), .val (.ref b153), .val (.int (4 : Int32)), .unset] [(.int f)])) _
          refine XS.iconst X161.here hx rfl (hb hby at_300) ?_
          show Steps p.tables e below (T161.setTop (mkF m 301 #[.val (.int i0), .val (.int i1), .val (.int (4 : Int32)), .val (.int f), .val (.int v0), .val (.int v1), .val (.int v2), .val (.int v3), .val (.double d0), .second, .val (.double d1), .second, .val (.double d2), .second, .val (.double d3), .second, .val (.ref b132), .val (.ref b142), .val (.ref b153), .val (.int (4 : Int32)), .unset] [(.int (3 : Int32)), (.int f)])) _
          refine XS.iadd X161.here hx rfl (hb hby at_301) rfl ?_
          show Steps p.tables e below (T161.setTop (mkF m 302 #[.val (.int i0), .val (.int i1), .val (.int (4 : Int32)), .val (.int f), .val (.int v0), .val (.int v1), .val (.int v2), .val (.int v3), .val (.double d0), .second, .val (.double d1), .second, .val (.double d2), .second, .val (.double d3), .second, .val (.ref b132), .val (.ref b142), .val (.ref b153), .val (.int (4 : Int32)), .unset] [(.int (f + (3 : Int32)))])) _
          refine XS.istore X161.here hx rfl (hb hby at_302) rfl (l' := #[.val (.int i0), .val (.int i1), .val (.int (4 : Int32)), .val (.int f), .val (.int v0), .val (.int v1), .val (.int v2), .val (.int v3), .val (.double d0), .second, .val (.double d1), .second, .val (.double d2), .second, .val (.double d3), .second, .val (.ref b132), .val (.ref b142), .val (.ref b153), .val (.int (f + (3 : Int32))), .unset]) rfl ?_
          exact Steps.refl _
      · rw [if_neg h1]
        show Steps p.tables e below (T161.setTop (mkF m 283 #[.val (.int i0), .val (.int i1), .val (.int (4 : Int32)), .val (.int f), .val (.int v0), .val (.int v1), .val (.int v2), .val (.int v3), .val (.double d0), .second, .val (.double d1), .second, .val (.double d2), .second, .val (.double d3), .second, .val (.ref b132), .val (.ref b142), .val (.ref b153), .val (.int (4 : Int32)), .unset] [(.int (4 : Int32)), (.int (f + (3 : Int32)))])) _
        refine XS.icmpYes X161.here hx rfl (pc0 := 283) (pc' := 304) rfl (hb hby at_283) rfl (flt h1).2.1 (by decide) (by decide) ?_
        exact Steps.refl _
    generalize hx3 : (if (f + (3 : Int32)) < (4 : Int32) then (if VV (f + (3 : Int32)) = VV f then (4 : Int32) else (f + (3 : Int32))) else (4 : Int32)) = x3 at c164
    have c165 : Steps p.tables e below S0 (T161.setTop (mkF m 308 #[.val (.int i0), .val (.int i1), .val (.int (4 : Int32)), .val (.int f), .val (.int v0), .val (.int v1), .val (.int v2), .val (.int v3), .val (.double d0), .second, .val (.double d1), .second, .val (.double d2), .second, .val (.double d3), .second, .val (.ref b132), .val (.ref b142), .val (.ref b153), .val (.int x3), .unset] [(.int (4 : Int32)), (.int (f + (2 : Int32)))])) := by
      refine c164.trans ?_
      show Steps p.tables e below (T161.setTop (mkF m 304 #[.val (.int i0), .val (.int i1), .val (.int (4 : Int32)), .val (.int f), .val (.int v0), .val (.int v1), .val (.int v2), .val (.int v3), .val (.double d0), .second, .val (.double d1), .second, .val (.double d2), .second, .val (.double d3), .second, .val (.ref b132), .val (.ref b142), .val (.ref b153), .val (.int x3), .unset] [])) _
      refine XS.iloadN X161.here hx rfl (hb hby at_304) rfl ?_
      show Steps p.tables e below (T161.setTop (mkF m 305 #[.val (.int i0), .val (.int i1), .val (.int (4 : Int32)), .val (.int f), .val (.int v0), .val (.int v1), .val (.int v2), .val (.int v3), .val (.double d0), .second, .val (.double d1), .second, .val (.double d2), .second, .val (.double d3), .second, .val (.ref b132), .val (.ref b142), .val (.ref b153), .val (.int x3), .unset] [(.int f)])) _
      refine XS.iconst X161.here hx rfl (hb hby at_305) ?_
      show Steps p.tables e below (T161.setTop (mkF m 306 #[.val (.int i0), .val (.int i1), .val (.int (4 : Int32)), .val (.int f), .val (.int v0), .val (.int v1), .val (.int v2), .val (.int v3), .val (.double d0), .second, .val (.double d1), .second, .val (.double d2), .second, .val (.double d3), .second, .val (.ref b132), .val (.ref b142), .val (.ref b153), .val (.int x3), .unset] [(.int (2 : Int32)), (.int f)])) _
      refine XS.iadd X161.here hx rfl (hb hby at_306) rfl ?_
      show Steps p.tables e below (T161.setTop (mkF m 307 #[.val (.int i0), .val (.int i1), .val (.int (4 : Int32)), .val (.int f), .val (.int v0), .val (.int v1), .val (.int v2), .val (.int v3), .val (.double d0), .second, .val (.double d1), .second, .val (.double d2), .second, .val (.double d3), .second, .val (.ref b132), .val (.ref b142), .val (.ref b153), .val (.int x3), .unset] [(.int (f + (2 : Int32)))])) _
      refine XS.iloadN X161.here hx rfl (hb hby at_307) rfl ?_
      exact Steps.refl _
    have c166 : Steps p.tables e below S0 (T161.setTop (mkF m 329 #[.val (.int i0), .val (.int i1), .val (.int (4 : Int32)), .val (.int f), .val (.int v0), .val (.int v1), .val (.int v2), .val (.int v3), .val (.double d0), .second, .val (.double d1), .second, .val (.double d2), .second, .val (.double d3), .second, .val (.ref b132), .val (.ref b142), .val (.ref b153), .val (.int (if (f + (2 : Int32)) < (4 : Int32) then (if VV (f + (2 : Int32)) = VV f then x3 else (f + (2 : Int32))) else x3)), .unset] [])) := by
      refine c165.trans ?_
      by_cases h1 : (f + (2 : Int32)) < (4 : Int32)
      · obtain ⟨hq0, hq4⟩ := own_place (k := 2) (n := 4) hf0 hfN (by decide) h1
        rw [if_pos h1]
        by_cases h2 : VV (f + (2 : Int32)) = VV f
        · rw [if_pos h2]
          show Steps p.tables e below (T161.setTop (mkF m 308 #[.val (.int i0), .val (.int i1), .val (.int (4 : Int32)), .val (.int f), .val (.int v0), .val (.int v1), .val (.int v2), .val (.int v3), .val (.double d0), .second, .val (.double d1), .second, .val (.double d2), .second, .val (.double d3), .second, .val (.ref b132), .val (.ref b142), .val (.ref b153), .val (.int x3), .unset] [(.int (4 : Int32)), (.int (f + (2 : Int32)))])) _
          refine XS.icmpNo X161.here hx rfl (hb hby at_308) rfl (tlt h1).2.1 ?_
          show Steps p.tables e below (T161.setTop (mkF m 311 #[.val (.int i0), .val (.int i1), .val (.int (4 : Int32)), .val (.int f), .val (.int v0), .val (.int v1), .val (.int v2), .val (.int v3), .val (.double d0), .second, .val (.double d1), .second, .val (.double d2), .second, .val (.double d3), .second, .val (.ref b132), .val (.ref b142), .val (.ref b153), .val (.int x3), .unset] [])) _
          refine XS.aload X161.here hx rfl (hb hby at_311) rfl rfl ?_
          show Steps p.tables e below (T161.setTop (mkF m 313 #[.val (.int i0), .val (.int i1), .val (.int (4 : Int32)), .val (.int f), .val (.int v0), .val (.int v1), .val (.int v2), .val (.int v3), .val (.double d0), .second, .val (.double d1), .second, .val (.double d2), .second, .val (.double d3), .second, .val (.ref b132), .val (.ref b142), .val (.ref b153), .val (.int x3), .unset] [(.ref b153)])) _
          refine XS.iloadN X161.here hx rfl (hb hby at_313) rfl ?_
          show Steps p.tables e below (T161.setTop (mkF m 314 #[.val (.int i0), .val (.int i1), .val (.int (4 : Int32)), .val (.int f), .val (.int v0), .val (.int v1), .val (.int v2), .val (.int v3), .val (.double d0), .second, .val (.double d1), .second, .val (.double d2), .second, .val (.double d3), .second, .val (.ref b132), .val (.ref b142), .val (.ref b153), .val (.int x3), .unset] [(.int f), (.ref b153)])) _
          refine XS.iconst X161.here hx rfl (hb hby at_314) ?_
          show Steps p.tables e below (T161.setTop (mkF m 315 #[.val (.int i0), .val (.int i1), .val (.int (4 : Int32)), .val (.int f), .val (.int v0), .val (.int v1), .val (.int v2), .val (.int v3), .val (.double d0), .second, .val (.double d1), .second, .val (.double d2), .second, .val (.double d3), .second, .val (.ref b132), .val (.ref b142), .val (.ref b153), .val (.int x3), .unset] [(.int (2 : Int32)), (.int f), (.ref b153)])) _
          refine XS.iadd X161.here hx rfl (hb hby at_315) rfl ?_
          show Steps p.tables e below (T161.setTop (mkF m 316 #[.val (.int i0), .val (.int i1), .val (.int (4 : Int32)), .val (.int f), .val (.int v0), .val (.int v1), .val (.int v2), .val (.int v3), .val (.double d0), .second, .val (.double d1), .second, .val (.double d2), .second, .val (.double d3), .second, .val (.ref b132), .val (.ref b142), .val (.ref b153), .val (.int x3), .unset] [(.int (f + (2 : Int32))), (.ref b153)])) _
          refine X161.iaload hx (j := (f + (2 : Int32))) (v := .int (VV (f + (2 : Int32)))) (by rw [e161]; exact Arv_.1) (State.isArrayOf_alike hZ.alike Arv_.2.1) Arv_.2.2 (inb_of Sv ⟨hq0, hq4⟩) (hVv _ hq0 hq4) (g := (mkF m 316 #[.val (.int i0), .val (.int i1), .val (.int (4 : Int32)), .val (.int f), .val (.int v0), .val (.int v1), .val (.int v2), .val (.int v3), .val (.double d0), .second, .val (.double d1), .second, .val (.double d2), .second, .val (.double d3), .second, .val (.ref b132), .val (.ref b142), .val (.ref b153), .val (.int x3), .unset] [(.int (f + (2 : Int32))), (.ref b153)])) rfl rfl (hb hby at_316) _ ?_
          show Steps p.tables e below (T161.setTop (mkF m 317 #[.val (.int i0), .val (.int i1), .val (.int (4 : Int32)), .val (.int f), .val (.int v0), .val (.int v1), .val (.int v2), .val (.int v3), .val (.double d0), .second, .val (.double d1), .second, .val (.double d2), .second, .val (.double d3), .second, .val (.ref b132), .val (.ref b142), .val (.ref b153), .val (.int x3), .unset] [(.int (VV (f + (2 : Int32))))])) _
          refine XS.aload X161.here hx rfl (hb hby at_317) rfl rfl ?_
          show Steps p.tables e below (T161.setTop (mkF m 319 #[.val (.int i0), .val (.int i1), .val (.int (4 : Int32)), .val (.int f), .val (.int v0), .val (.int v1), .val (.int v2), .val (.int v3), .val (.double d0), .second, .val (.double d1), .second, .val (.double d2), .second, .val (.double d3), .second, .val (.ref b132), .val (.ref b142), .val (.ref b153), .val (.int x3), .unset] [(.ref b153), (.int (VV (f + (2 : Int32))))])) _
          refine XS.iloadN X161.here hx rfl (hb hby at_319) rfl ?_
          show Steps p.tables e below (T161.setTop (mkF m 320 #[.val (.int i0), .val (.int i1), .val (.int (4 : Int32)), .val (.int f), .val (.int v0), .val (.int v1), .val (.int v2), .val (.int v3), .val (.double d0), .second, .val (.double d1), .second, .val (.double d2), .second, .val (.double d3), .second, .val (.ref b132), .val (.ref b142), .val (.ref b153), .val (.int x3), .unset] [(.int f), (.ref b153), (.int (VV (f + (2 : Int32))))])) _
          refine X161.iaload hx (j := f) (v := .int (VV f)) (by rw [e161]; exact Arv_.1) (State.isArrayOf_alike hZ.alike Arv_.2.1) Arv_.2.2 (inb_of Sv ⟨hf0, hf4⟩) (hVv _ hf0 hf4) (g := (mkF m 320 #[.val (.int i0), .val (.int i1), .val (.int (4 : Int32)), .val (.int f), .val (.int v0), .val (.int v1), .val (.int v2), .val (.int v3), .val (.double d0), .second, .val (.double d1), .second, .val (.double d2), .second, .val (.double d3), .second, .val (.ref b132), .val (.ref b142), .val (.ref b153), .val (.int x3), .unset] [(.int f), (.ref b153), (.int (VV (f + (2 : Int32))))])) rfl rfl (hb hby at_320) _ ?_
          show Steps p.tables e below (T161.setTop (mkF m 321 #[.val (.int i0), .val (.int i1), .val (.int (4 : Int32)), .val (.int f), .val (.int v0), .val (.int v1), .val (.int v2), .val (.int v3), .val (.double d0), .second, .val (.double d1), .second, .val (.double d2), .second, .val (.double d3), .second, .val (.ref b132), .val (.ref b142), .val (.ref b153), .val (.int x3), .unset] [(.int (VV f)), (.int (VV (f + (2 : Int32))))])) _
          refine XS.icmpYes X161.here hx rfl (pc0 := 321) (pc' := 329) rfl (hb hby at_321) rfl (teq h2).1 (by decide) (by decide) ?_
          exact Steps.refl _
        · rw [if_neg h2]
          show Steps p.tables e below (T161.setTop (mkF m 308 #[.val (.int i0), .val (.int i1), .val (.int (4 : Int32)), .val (.int f), .val (.int v0), .val (.int v1), .val (.int v2), .val (.int v3), .val (.double d0), .second, .val (.double d1), .second, .val (.double d2), .second, .val (.double d3), .second, .val (.ref b132), .val (.ref b142), .val (.ref b153), .val (.int x3), .unset] [(.int (4 : Int32)), (.int (f + (2 : Int32)))])) _
          refine XS.icmpNo X161.here hx rfl (hb hby at_308) rfl (tlt h1).2.1 ?_
          show Steps p.tables e below (T161.setTop (mkF m 311 #[.val (.int i0), .val (.int i1), .val (.int (4 : Int32)), .val (.int f), .val (.int v0), .val (.int v1), .val (.int v2), .val (.int v3), .val (.double d0), .second, .val (.double d1), .second, .val (.double d2), .second, .val (.double d3), .second, .val (.ref b132), .val (.ref b142), .val (.ref b153), .val (.int x3), .unset] [])) _
          refine XS.aload X161.here hx rfl (hb hby at_311) rfl rfl ?_
          show Steps p.tables e below (T161.setTop (mkF m 313 #[.val (.int i0), .val (.int i1), .val (.int (4 : Int32)), .val (.int f), .val (.int v0), .val (.int v1), .val (.int v2), .val (.int v3), .val (.double d0), .second, .val (.double d1), .second, .val (.double d2), .second, .val (.double d3), .second, .val (.ref b132), .val (.ref b142), .val (.ref b153), .val (.int x3), .unset] [(.ref b153)])) _
          refine XS.iloadN X161.here hx rfl (hb hby at_313) rfl ?_
          show Steps p.tables e below (T161.setTop (mkF m 314 #[.val (.int i0), .val (.int i1), .val (.int (4 : Int32)), .val (.int f), .val (.int v0), .val (.int v1), .val (.int v2), .val (.int v3), .val (.double d0), .second, .val (.double d1), .second, .val (.double d2), .second, .val (.double d3), .second, .val (.ref b132), .val (.ref b142), .val (.ref b153), .val (.int x3), .unset] [(.int f), (.ref b153)])) _
          refine XS.iconst X161.here hx rfl (hb hby at_314) ?_
          show Steps p.tables e below (T161.setTop (mkF m 315 #[.val (.int i0), .val (.int i1), .val (.int (4 : Int32)), .val (.int f), .val (.int v0), .val (.int v1), .val (.int v2), .val (.int v3), .val (.double d0), .second, .val (.double d1), .second, .val (.double d2), .second, .val (.double d3), .second, .val (.ref b132), .val (.ref b142), .val (.ref b153), .val (.int x3), .unset] [(.int (2 : Int32)), (.int f), (.ref b153)])) _
          refine XS.iadd X161.here hx rfl (hb hby at_315) rfl ?_
          show Steps p.tables e below (T161.setTop (mkF m 316 #[.val (.int i0), .val (.int i1), .val (.int (4 : Int32)), .val (.int f), .val (.int v0), .val (.int v1), .val (.int v2), .val (.int v3), .val (.double d0), .second, .val (.double d1), .second, .val (.double d2), .second, .val (.double d3), .second, .val (.ref b132), .val (.ref b142), .val (.ref b153), .val (.int x3), .unset] [(.int (f + (2 : Int32))), (.ref b153)])) _
          refine X161.iaload hx (j := (f + (2 : Int32))) (v := .int (VV (f + (2 : Int32)))) (by rw [e161]; exact Arv_.1) (State.isArrayOf_alike hZ.alike Arv_.2.1) Arv_.2.2 (inb_of Sv ⟨hq0, hq4⟩) (hVv _ hq0 hq4) (g := (mkF m 316 #[.val (.int i0), .val (.int i1), .val (.int (4 : Int32)), .val (.int f), .val (.int v0), .val (.int v1), .val (.int v2), .val (.int v3), .val (.double d0), .second, .val (.double d1), .second, .val (.double d2), .second, .val (.double d3), .second, .val (.ref b132), .val (.ref b142), .val (.ref b153), .val (.int x3), .unset] [(.int (f + (2 : Int32))), (.ref b153)])) rfl rfl (hb hby at_316) _ ?_
          show Steps p.tables e below (T161.setTop (mkF m 317 #[.val (.int i0), .val (.int i1), .val (.int (4 : Int32)), .val (.int f), .val (.int v0), .val (.int v1), .val (.int v2), .val (.int v3), .val (.double d0), .second, .val (.double d1), .second, .val (.double d2), .second, .val (.double d3), .second, .val (.ref b132), .val (.ref b142), .val (.ref b153), .val (.int x3), .unset] [(.int (VV (f + (2 : Int32))))])) _
          refine XS.aload X161.here hx rfl (hb hby at_317) rfl rfl ?_
          show Steps p.tables e below (T161.setTop (mkF m 319 #[.val (.int i0), .val (.int i1), .val (.int (4 : Int32)), .val (.int f), .val (.int v0), .val (.int v1), .val (.int v2), .val (.int v3), .val (.double d0), .second, .val (.double d1), .second, .val (.double d2), .second, .val (.double d3), .second, .val (.ref b132), .val (.ref b142), .val (.ref b153), .val (.int x3), .unset] [(.ref b153), (.int (VV (f + (2 : Int32))))])) _
          refine XS.iloadN X161.here hx rfl (hb hby at_319) rfl ?_
          show Steps p.tables e below (T161.setTop (mkF m 320 #[.val (.int i0), .val (.int i1), .val (.int (4 : Int32)), .val (.int f), .val (.int v0), .val (.int v1), .val (.int v2), .val (.int v3), .val (.double d0), .second, .val (.double d1), .second, .val (.double d2), .second, .val (.double d3), .second, .val (.ref b132), .val (.ref b142), .val (.ref b153), .val (.int x3), .unset] [(.int f), (.ref b153), (.int (VV (f + (2 : Int32))))])) _
          refine X161.iaload hx (j := f) (v := .int (VV f)) (by rw [e161]; exact Arv_.1) (State.isArrayOf_alike hZ.alike Arv_.2.1) Arv_.2.2 (inb_of Sv ⟨hf0, hf4⟩) (hVv _ hf0 hf4) (g := (mkF m 320 #[.val (.int i0), .val (.int i1), .val (.int (4 : Int32)), .val (.int f), .val (.int v0), .val (.int v1), .val (.int v2), .val (.int v3), .val (.double d0), .second, .val (.double d1), .second, .val (.double d2), .second, .val (.double d3), .second, .val (.ref b132), .val (.ref b142), .val (.ref b153), .val (.int x3), .unset] [(.int f), (.ref b153), (.int (VV (f + (2 : Int32))))])) rfl rfl (hb hby at_320) _ ?_
          show Steps p.tables e below (T161.setTop (mkF m 321 #[.val (.int i0), .val (.int i1), .val (.int (4 : Int32)), .val (.int f), .val (.int v0), .val (.int v1), .val (.int v2), .val (.int v3), .val (.double d0), .second, .val (.double d1), .second, .val (.double d2), .second, .val (.double d3), .second, .val (.ref b132), .val (.ref b142), .val (.ref b153), .val (.int x3), .unset] [(.int (VV f)), (.int (VV (f + (2 : Int32))))])) _
          refine XS.icmpNo X161.here hx rfl (hb hby at_321) rfl (feq h2).1 ?_
          show Steps p.tables e below (T161.setTop (mkF m 324 #[.val (.int i0), .val (.int i1), .val (.int (4 : Int32)), .val (.int f), .val (.int v0), .val (.int v1), .val (.int v2), .val (.int v3), .val (.double d0), .second, .val (.double d1), .second, .val (.double d2), .second, .val (.double d3), .second, .val (.ref b132), .val (.ref b142), .val (.ref b153), .val (.int x3), .unset] [])) _
          refine XS.iloadN X161.here hx rfl (hb hby at_324) rfl ?_
          show Steps p.tables e below (T161.setTop (mkF m 325 #[.val (.int i0), .val (.int i1), .val (.int (4 : Int32)), .val (.int f), .val (.int v0), .val (.int v1), .val (.int v2), .val (.int v3), .val (.double d0), .second, .val (.double d1), .second, .val (.double d2), .second, .val (.double d3), .second, .val (.ref b132), .val (.ref b142), .val (.ref b153), .val (.int x3), .unset] [(.int f)])) _
          refine XS.iconst X161.here hx rfl (hb hby at_325) ?_
          show Steps p.tables e below (T161.setTop (mkF m 326 #[.val (.int i0), .val (.int i1), .val (.int (4 : Int32)), .val (.int f), .val (.int v0), .val (.int v1), .val (.int v2), .val (.int v3), .val (.double d0), .second, .val (.double d1), .second, .val (.double d2), .second, .val (.double d3), .second, .val (.ref b132), .val (.ref b142), .val (.ref b153), .val (.int x3), .unset] [(.int (2 : Int32)), (.int f)])) _
          refine XS.iadd X161.here hx rfl (hb hby at_326) rfl ?_
          show Steps p.tables e below (T161.setTop (mkF m 327 #[.val (.int i0), .val (.int i1), .val (.int (4 : Int32)), .val (.int f), .val (.int v0), .val (.int v1), .val (.int v2), .val (.int v3), .val (.double d0), .second, .val (.double d1), .second, .val (.double d2), .second, .val (.double d3), .second, .val (.ref b132), .val (.ref b142), .val (.ref b153), .val (.int x3), .unset] [(.int (f + (2 : Int32)))])) _
          refine XS.istore X161.here hx rfl (hb hby at_327) rfl (l' := #[.val (.int i0), .val (.int i1), .val (.int (4 : Int32)), .val (.int f), .val (.int v0), .val (.int v1), .val (.int v2), .val (.int v3), .val (.double d0), .second, .val (.double d1), .second, .val (.double d2), .second, .val (.double d3), .second, .val (.ref b132), .val (.ref b142), .val (.ref b153), .val (.int (f + (2 : Int32))), .unset]) rfl ?_
          exact Steps.refl _
      · rw [if_neg h1]
        show Steps p.tables e below (T161.setTop (mkF m 308 #[.val (.int i0), .val (.int i1), .val (.int (4 : Int32)), .val (.int f), .val (.int v0), .val (.int v1), .val (.int v2), .val (.int v3), .val (.double d0), .second, .val (.double d1), .second, .val (.double d2), .second, .val (.double d3), .second, .val (.ref b132), .val (.ref b142), .val (.ref b153), .val (.int x3), .unset] [(.int (4 : Int32)), (.int (f + (2 : Int32)))])) _
        refine XS.icmpYes X161.here hx rfl (pc0 := 308) (pc' := 329) rfl (hb hby at_308) rfl (flt h1).2.1 (by decide) (by decide) ?_
        exact Steps.refl _
    generalize hx2 : (if (f + (2 : Int32)) < (4 : Int32) then (if VV (f + (2 : Int32)) = VV f then x3 else (f + (2 : Int32))) else x3) = x2 at c166
    have c167 : Steps p.tables e below S0 (T161.setTop (mkF m 333 #[.val (.int i0), .val (.int i1), .val (.int (4 : Int32)), .val (.int f), .val (.int v0), .val (.int v1), .val (.int v2), .val (.int v3), .val (.double d0), .second, .val (.double d1), .second, .val (.double d2), .second, .val (.double d3), .second, .val (.ref b132), .val (.ref b142), .val (.ref b153), .val (.int x2), .unset] [(.int (4 : Int32)), (.int (f + (1 : Int32)))])) := by
      refine c166.trans ?_
      show Steps p.tables e below (T161.setTop (mkF m 329 #[.val (.int i0), .val (.int i1), .val (.int (4 : Int32)), .val (.int f), .val (.int v0), .val (.int v1), .val (.int v2), .val (.int v3), .val (.double d0), .second, .val (.double d1), .second, .val (.double d2), .second, .val (.double d3), .second, .val (.ref b132), .val (.ref b142), .val (.ref b153), .val (.int x2), .unset] [])) _
      refine XS.iloadN X161.here hx rfl (hb hby at_329) rfl ?_
      show Steps p.tables e below (T161.setTop (mkF m 330 #[.val (.int i0), .val (.int i1), .val (.int (4 : Int32)), .val (.int f), .val (.int v0), .val (.int v1), .val (.int v2), .val (.int v3), .val (.double d0), .second, .val (.double d1), .second, .val (.double d2), .second, .val (.double d3), .second, .val (.ref b132), .val (.ref b142), .val (.ref b153), .val (.int x2), .unset] [(.int f)])) _
      refine XS.iconst X161.here hx rfl (hb hby at_330) ?_
      show Steps p.tables e below (T161.setTop (mkF m 331 #[.val (.int i0), .val (.int i1), .val (.int (4 : Int32)), .val (.int f), .val (.int v0), .val (.int v1), .val (.int v2), .val (.int v3), .val (.double d0), .second, .val (.double d1), .second, .val (.double d2), .second, .val (.double d3), .second, .val (.ref b132), .val (.ref b142), .val (.ref b153), .val (.int x2), .unset] [(.int (1 : Int32)), (.int f)])) _
      refine XS.iadd X161.here hx rfl (hb hby at_331) rfl ?_
      show Steps p.tables e below (T161.setTop (mkF m 332 #[.val (.int i0), .val (.int i1), .val (.int (4 : Int32)), .val (.int f), .val (.int v0), .val (.int v1), .val (.int v2), .val (.int v3), .val (.double d0), .second, .val (.double d1), .second, .val (.double d2), .second, .val (.double d3), .second, .val (.ref b132), .val (.ref b142), .val (.ref b153), .val (.int x2), .unset] [(.int (f + (1 : Int32)))])) _
      refine XS.iloadN X161.here hx rfl (hb hby at_332) rfl ?_
      exact Steps.refl _
    have c168 : Steps p.tables e below S0 (T161.setTop (mkF m 354 #[.val (.int i0), .val (.int i1), .val (.int (4 : Int32)), .val (.int f), .val (.int v0), .val (.int v1), .val (.int v2), .val (.int v3), .val (.double d0), .second, .val (.double d1), .second, .val (.double d2), .second, .val (.double d3), .second, .val (.ref b132), .val (.ref b142), .val (.ref b153), .val (.int (if (f + (1 : Int32)) < (4 : Int32) then (if VV (f + (1 : Int32)) = VV f then x2 else (f + (1 : Int32))) else x2)), .unset] [])) := by
      refine c167.trans ?_
      by_cases h1 : (f + (1 : Int32)) < (4 : Int32)
      · obtain ⟨hq0, hq4⟩ := own_place (k := 1) (n := 4) hf0 hfN (by decide) h1
        rw [if_pos h1]
        by_cases h2 : VV (f + (1 : Int32)) = VV f
        · rw [if_pos h2]
          show Steps p.tables e below (T161.setTop (mkF m 333 #[.val (.int i0), .val (.int i1), .val (.int (4 : Int32)), .val (.int f), .val (.int v0), .val (.int v1), .val (.int v2), .val (.int v3), .val (.double d0), .second, .val (.double d1), .second, .val (.double d2), .second, .val (.double d3), .second, .val (.ref b132), .val (.ref b142), .val (.ref b153), .val (.int x2), .unset] [(.int (4 : Int32)), (.int (f + (1 : Int32)))])) _
          refine XS.icmpNo X161.here hx rfl (hb hby at_333) rfl (tlt h1).2.1 ?_
          show Steps p.tables e below (T161.setTop (mkF m 336 #[.val (.int i0), .val (.int i1), .val (.int (4 : Int32)), .val (.int f), .val (.int v0), .val (.int v1), .val (.int v2), .val (.int v3), .val (.double d0), .second, .val (.double d1), .second, .val (.double d2), .second, .val (.double d3), .second, .val (.ref b132), .val (.ref b142), .val (.ref b153), .val (.int x2), .unset] [])) _
          refine XS.aload X161.here hx rfl (hb hby at_336) rfl rfl ?_
          show Steps p.tables e below (T161.setTop (mkF m 338 #[.val (.int i0), .val (.int i1), .val (.int (4 : Int32)), .val (.int f), .val (.int v0), .val (.int v1), .val (.int v2), .val (.int v3), .val (.double d0), .second, .val (.double d1), .second, .val (.double d2), .second, .val (.double d3), .second, .val (.ref b132), .val (.ref b142), .val (.ref b153), .val (.int x2), .unset] [(.ref b153)])) _
          refine XS.iloadN X161.here hx rfl (hb hby at_338) rfl ?_
          show Steps p.tables e below (T161.setTop (mkF m 339 #[.val (.int i0), .val (.int i1), .val (.int (4 : Int32)), .val (.int f), .val (.int v0), .val (.int v1), .val (.int v2), .val (.int v3), .val (.double d0), .second, .val (.double d1), .second, .val (.double d2), .second, .val (.double d3), .second, .val (.ref b132), .val (.ref b142), .val (.ref b153), .val (.int x2), .unset] [(.int f), (.ref b153)])) _
          refine XS.iconst X161.here hx rfl (hb hby at_339) ?_
          show Steps p.tables e below (T161.setTop (mkF m 340 #[.val (.int i0), .val (.int i1), .val (.int (4 : Int32)), .val (.int f), .val (.int v0), .val (.int v1), .val (.int v2), .val (.int v3), .val (.double d0), .second, .val (.double d1), .second, .val (.double d2), .second, .val (.double d3), .second, .val (.ref b132), .val (.ref b142), .val (.ref b153), .val (.int x2), .unset] [(.int (1 : Int32)), (.int f), (.ref b153)])) _
          refine XS.iadd X161.here hx rfl (hb hby at_340) rfl ?_
          show Steps p.tables e below (T161.setTop (mkF m 341 #[.val (.int i0), .val (.int i1), .val (.int (4 : Int32)), .val (.int f), .val (.int v0), .val (.int v1), .val (.int v2), .val (.int v3), .val (.double d0), .second, .val (.double d1), .second, .val (.double d2), .second, .val (.double d3), .second, .val (.ref b132), .val (.ref b142), .val (.ref b153), .val (.int x2), .unset] [(.int (f + (1 : Int32))), (.ref b153)])) _
          refine X161.iaload hx (j := (f + (1 : Int32))) (v := .int (VV (f + (1 : Int32)))) (by rw [e161]; exact Arv_.1) (State.isArrayOf_alike hZ.alike Arv_.2.1) Arv_.2.2 (inb_of Sv ⟨hq0, hq4⟩) (hVv _ hq0 hq4) (g := (mkF m 341 #[.val (.int i0), .val (.int i1), .val (.int (4 : Int32)), .val (.int f), .val (.int v0), .val (.int v1), .val (.int v2), .val (.int v3), .val (.double d0), .second, .val (.double d1), .second, .val (.double d2), .second, .val (.double d3), .second, .val (.ref b132), .val (.ref b142), .val (.ref b153), .val (.int x2), .unset] [(.int (f + (1 : Int32))), (.ref b153)])) rfl rfl (hb hby at_341) _ ?_
          show Steps p.tables e below (T161.setTop (mkF m 342 #[.val (.int i0), .val (.int i1), .val (.int (4 : Int32)), .val (.int f), .val (.int v0), .val (.int v1), .val (.int v2), .val (.int v3), .val (.double d0), .second, .val (.double d1), .second, .val (.double d2), .second, .val (.double d3), .second, .val (.ref b132), .val (.ref b142), .val (.ref b153), .val (.int x2), .unset] [(.int (VV (f + (1 : Int32))))])) _
          refine XS.aload X161.here hx rfl (hb hby at_342) rfl rfl ?_
          show Steps p.tables e below (T161.setTop (mkF m 344 #[.val (.int i0), .val (.int i1), .val (.int (4 : Int32)), .val (.int f), .val (.int v0), .val (.int v1), .val (.int v2), .val (.int v3), .val (.double d0), .second, .val (.double d1), .second, .val (.double d2), .second, .val (.double d3), .second, .val (.ref b132), .val (.ref b142), .val (.ref b153), .val (.int x2), .unset] [(.ref b153), (.int (VV (f + (1 : Int32))))])) _
          refine XS.iloadN X161.here hx rfl (hb hby at_344) rfl ?_
          show Steps p.tables e below (T161.setTop (mkF m 345 #[.val (.int i0), .val (.int i1), .val (.int (4 : Int32)), .val (.int f), .val (.int v0), .val (.int v1), .val (.int v2), .val (.int v3), .val (.double d0), .second, .val (.double d1), .second, .val (.double d2), .second, .val (.double d3), .second, .val (.ref b132), .val (.ref b142), .val (.ref b153), .val (.int x2), .unset] [(.int f), (.ref b153), (.int (VV (f + (1 : Int32))))])) _
          refine X161.iaload hx (j := f) (v := .int (VV f)) (by rw [e161]; exact Arv_.1) (State.isArrayOf_alike hZ.alike Arv_.2.1) Arv_.2.2 (inb_of Sv ⟨hf0, hf4⟩) (hVv _ hf0 hf4) (g := (mkF m 345 #[.val (.int i0), .val (.int i1), .val (.int (4 : Int32)), .val (.int f), .val (.int v0), .val (.int v1), .val (.int v2), .val (.int v3), .val (.double d0), .second, .val (.double d1), .second, .val (.double d2), .second, .val (.double d3), .second, .val (.ref b132), .val (.ref b142), .val (.ref b153), .val (.int x2), .unset] [(.int f), (.ref b153), (.int (VV (f + (1 : Int32))))])) rfl rfl (hb hby at_345) _ ?_
          show Steps p.tables e below (T161.setTop (mkF m 346 #[.val (.int i0), .val (.int i1), .val (.int (4 : Int32)), .val (.int f), .val (.int v0), .val (.int v1), .val (.int v2), .val (.int v3), .val (.double d0), .second, .val (.double d1), .second, .val (.double d2), .second, .val (.double d3), .second, .val (.ref b132), .val (.ref b142), .val (.ref b153), .val (.int x2), .unset] [(.int (VV f)), (.int (VV (f + (1 : Int32))))])) _
          refine XS.icmpYes X161.here hx rfl (pc0 := 346) (pc' := 354) rfl (hb hby at_346) rfl (teq h2).1 (by decide) (by decide) ?_
          exact Steps.refl _
        · rw [if_neg h2]
          show Steps p.tables e below (T161.setTop (mkF m 333 #[.val (.int i0), .val (.int i1), .val (.int (4 : Int32)), .val (.int f), .val (.int v0), .val (.int v1), .val (.int v2), .val (.int v3), .val (.double d0), .second, .val (.double d1), .second, .val (.double d2), .second, .val (.double d3), .second, .val (.ref b132), .val (.ref b142), .val (.ref b153), .val (.int x2), .unset] [(.int (4 : Int32)), (.int (f + (1 : Int32)))])) _
          refine XS.icmpNo X161.here hx rfl (hb hby at_333) rfl (tlt h1).2.1 ?_
          show Steps p.tables e below (T161.setTop (mkF m 336 #[.val (.int i0), .val (.int i1), .val (.int (4 : Int32)), .val (.int f), .val (.int v0), .val (.int v1), .val (.int v2), .val (.int v3), .val (.double d0), .second, .val (.double d1), .second, .val (.double d2), .second, .val (.double d3), .second, .val (.ref b132), .val (.ref b142), .val (.ref b153), .val (.int x2), .unset] [])) _
          refine XS.aload X161.here hx rfl (hb hby at_336) rfl rfl ?_
          show Steps p.tables e below (T161.setTop (mkF m 338 #[.val (.int i0), .val (.int i1), .val (.int (4 : Int32)), .val (.int f), .val (.int v0), .val (.int v1), .val (.int v2), .val (.int v3), .val (.double d0), .second, .val (.double d1), .second, .val (.double d2), .second, .val (.double d3), .second, .val (.ref b132), .val (.ref b142), .val (.ref b153), .val (.int x2), .unset] [(.ref b153)])) _
          refine XS.iloadN X161.here hx rfl (hb hby at_338) rfl ?_
          show Steps p.tables e below (T161.setTop (mkF m 339 #[.val (.int i0), .val (.int i1), .val (.int (4 : Int32)), .val (.int f), .val (.int v0), .val (.int v1), .val (.int v2), .val (.int v3), .val (.double d0), .second, .val (.double d1), .second, .val (.double d2), .second, .val (.double d3), .second, .val (.ref b132), .val (.ref b142), .val (.ref b153), .val (.int x2), .unset] [(.int f), (.ref b153)])) _
          refine XS.iconst X161.here hx rfl (hb hby at_339) ?_
          show Steps p.tables e below (T161.setTop (mkF m 340 #[.val (.int i0), .val (.int i1), .val (.int (4 : Int32)), .val (.int f), .val (.int v0), .val (.int v1), .val (.int v2), .val (.int v3), .val (.double d0), .second, .val (.double d1), .second, .val (.double d2), .second, .val (.double d3), .second, .val (.ref b132), .val (.ref b142), .val (.ref b153), .val (.int x2), .unset] [(.int (1 : Int32)), (.int f), (.ref b153)])) _
          refine XS.iadd X161.here hx rfl (hb hby at_340) rfl ?_
          show Steps p.tables e below (T161.setTop (mkF m 341 #[.val (.int i0), .val (.int i1), .val (.int (4 : Int32)), .val (.int f), .val (.int v0), .val (.int v1), .val (.int v2), .val (.int v3), .val (.double d0), .second, .val (.double d1), .second, .val (.double d2), .second, .val (.double d3), .second, .val (.ref b132), .val (.ref b142), .val (.ref b153), .val (.int x2), .unset] [(.int (f + (1 : Int32))), (.ref b153)])) _
          refine X161.iaload hx (j := (f + (1 : Int32))) (v := .int (VV (f + (1 : Int32)))) (by rw [e161]; exact Arv_.1) (State.isArrayOf_alike hZ.alike Arv_.2.1) Arv_.2.2 (inb_of Sv ⟨hq0, hq4⟩) (hVv _ hq0 hq4) (g := (mkF m 341 #[.val (.int i0), .val (.int i1), .val (.int (4 : Int32)), .val (.int f), .val (.int v0), .val (.int v1), .val (.int v2), .val (.int v3), .val (.double d0), .second, .val (.double d1), .second, .val (.double d2), .second, .val (.double d3), .second, .val (.ref b132), .val (.ref b142), .val (.ref b153), .val (.int x2), .unset] [(.int (f + (1 : Int32))), (.ref b153)])) rfl rfl (hb hby at_341) _ ?_
          show Steps p.tables e below (T161.setTop (mkF m 342 #[.val (.int i0), .val (.int i1), .val (.int (4 : Int32)), .val (.int f), .val (.int v0), .val (.int v1), .val (.int v2), .val (.int v3), .val (.double d0), .second, .val (.double d1), .second, .val (.double d2), .second, .val (.double d3), .second, .val (.ref b132), .val (.ref b142), .val (.ref b153), .val (.int x2), .unset] [(.int (VV (f + (1 : Int32))))])) _
          refine XS.aload X161.here hx rfl (hb hby at_342) rfl rfl ?_
          show Steps p.tables e below (T161.setTop (mkF m 344 #[.val (.int i0), .val (.int i1), .val (.int (4 : Int32)), .val (.int f), .val (.int v0), .val (.int v1), .val (.int v2), .val (.int v3), .val (.double d0), .second, .val (.double d1), .second, .val (.double d2), .second, .val (.double d3), .second, .val (.ref b132), .val (.ref b142), .val (.ref b153), .val (.int x2), .unset] [(.ref b153), (.int (VV (f + (1 : Int32))))])) _
          refine XS.iloadN X161.here hx rfl (hb hby at_344) rfl ?_
          show Steps p.tables e below (T161.setTop (mkF m 345 #[.val (.int i0), .val (.int i1), .val (.int (4 : Int32)), .val (.int f), .val (.int v0), .val (.int v1), .val (.int v2), .val (.int v3), .val (.double d0), .second, .val (.double d1), .second, .val (.double d2), .second, .val (.double d3), .second, .val (.ref b132), .val (.ref b142), .val (.ref b153), .val (.int x2), .unset] [(.int f), (.ref b153), (.int (VV (f + (1 : Int32))))])) _
          refine X161.iaload hx (j := f) (v := .int (VV f)) (by rw [e161]; exact Arv_.1) (State.isArrayOf_alike hZ.alike Arv_.2.1) Arv_.2.2 (inb_of Sv ⟨hf0, hf4⟩) (hVv _ hf0 hf4) (g := (mkF m 345 #[.val (.int i0), .val (.int i1), .val (.int (4 : Int32)), .val (.int f), .val (.int v0), .val (.int v1), .val (.int v2), .val (.int v3), .val (.double d0), .second, .val (.double d1), .second, .val (.double d2), .second, .val (.double d3), .second, .val (.ref b132), .val (.ref b142), .val (.ref b153), .val (.int x2), .unset] [(.int f), (.ref b153), (.int (VV (f + (1 : Int32))))])) rfl rfl (hb hby at_345) _ ?_
          show Steps p.tables e below (T161.setTop (mkF m 346 #[.val (.int i0), .val (.int i1), .val (.int (4 : Int32)), .val (.int f), .val (.int v0), .val (.int v1), .val (.int v2), .val (.int v3), .val (.double d0), .second, .val (.double d1), .second, .val (.double d2), .second, .val (.double d3), .second, .val (.ref b132), .val (.ref b142), .val (.ref b153), .val (.int x2), .unset] [(.int (VV f)), (.int (VV (f + (1 : Int32))))])) _
          refine XS.icmpNo X161.here hx rfl (hb hby at_346) rfl (feq h2).1 ?_
          show Steps p.tables e below (T161.setTop (mkF m 349 #[.val (.int i0), .val (.int i1), .val (.int (4 : Int32)), .val (.int f), .val (.int v0), .val (.int v1), .val (.int v2), .val (.int v3), .val (.double d0), .second, .val (.double d1), .second, .val (.double d2), .second, .val (.double d3), .second, .val (.ref b132), .val (.ref b142), .val (.ref b153), .val (.int x2), .unset] [])) _
          refine XS.iloadN X161.here hx rfl (hb hby at_349) rfl ?_
          show Steps p.tables e below (T161.setTop (mkF m 350 #[.val (.int i0), .val (.int i1), .val (.int (4 : Int32)), .val (.int f), .val (.int v0), .val (.int v1), .val (.int v2), .val (.int v3), .val (.double d0), .second, .val (.double d1), .second, .val (.double d2), .second, .val (.double d3), .second, .val (.ref b132), .val (.ref b142), .val (.ref b153), .val (.int x2), .unset] [(.int f)])) _
          refine XS.iconst X161.here hx rfl (hb hby at_350) ?_
          show Steps p.tables e below (T161.setTop (mkF m 351 #[.val (.int i0), .val (.int i1), .val (.int (4 : Int32)), .val (.int f), .val (.int v0), .val (.int v1), .val (.int v2), .val (.int v3), .val (.double d0), .second, .val (.double d1), .second, .val (.double d2), .second, .val (.double d3), .second, .val (.ref b132), .val (.ref b142), .val (.ref b153), .val (.int x2), .unset] [(.int (1 : Int32)), (.int f)])) _
          refine XS.iadd X161.here hx rfl (hb hby at_351) rfl ?_
          show Steps p.tables e below (T161.setTop (mkF m 352 #[.val (.int i0), .val (.int i1), .val (.int (4 : Int32)), .val (.int f), .val (.int v0), .val (.int v1), .val (.int v2), .val (.int v3), .val (.double d0), .second, .val (.double d1), .second, .val (.double d2), .second, .val (.double d3), .second, .val (.ref b132), .val (.ref b142), .val (.ref b153), .val (.int x2), .unset] [(.int (f + (1 : Int32)))])) _
          refine XS.istore X161.here hx rfl (hb hby at_352) rfl (l' := #[.val (.int i0), .val (.int i1), .val (.int (4 : Int32)), .val (.int f), .val (.int v0), .val (.int v1), .val (.int v2), .val (.int v3), .val (.double d0), .second, .val (.double d1), .second, .val (.double d2), .second, .val (.double d3), .second, .val (.ref b132), .val (.ref b142), .val (.ref b153), .val (.int (f + (1 : Int32))), .unset]) rfl ?_
          exact Steps.refl _
      · rw [if_neg h1]
        show Steps p.tables e below (T161.setTop (mkF m 333 #[.val (.int i0), .val (.int i1), .val (.int (4 : Int32)), .val (.int f), .val (.int v0), .val (.int v1), .val (.int v2), .val (.int v3), .val (.double d0), .second, .val (.double d1), .second, .val (.double d2), .second, .val (.double d3), .second, .val (.ref b132), .val (.ref b142), .val (.ref b153), .val (.int x2), .unset] [(.int (4 : Int32)), (.int (f + (1 : Int32)))])) _
        refine XS.icmpYes X161.here hx rfl (pc0 := 333) (pc' := 354) rfl (hb hby at_333) rfl (flt h1).2.1 (by decide) (by decide) ?_
        exact Steps.refl _
    generalize hx1 : (if (f + (1 : Int32)) < (4 : Int32) then (if VV (f + (1 : Int32)) = VV f then x2 else (f + (1 : Int32))) else x2) = x1 at c168
    obtain ⟨T169, h169, X169, e169, E169, A169, D169, -, st169⟩ := newO X161 hx hZ hown (hw _ (List.mem_of_getElem? (i := 7) rfl)) (hw _ (List.mem_of_getElem? (i := 8) rfl)) (hw _ (List.mem_of_getElem? (i := 9) rfl)) e161 (g := (mkF m 354 #[.val (.int i0), .val (.int i1), .val (.int (4 : Int32)), .val (.int f), .val (.int v0), .val (.int v1), .val (.int v2), .val (.int v3), .val (.double d0), .second, .val (.double d1), .second, .val (.double d2), .second, .val (.double d3), .second, .val (.ref b132), .val (.ref b142), .val (.ref b153), .val (.int x1), .unset] [])) rfl (hb hby at_354) (by decide) (by decide)
    obtain ⟨b169, g169⟩ : ∃ z, z = h161.size := ⟨_, rfl⟩
    rw [← g169] at A169 D169 st169
    have c169 : Steps p.tables e below S0 (T169.setTop (mkF m 357 #[.val (.int i0), .val (.int i1), .val (.int (4 : Int32)), .val (.int f), .val (.int v0), .val (.int v1), .val (.int v2), .val (.int v3), .val (.double d0), .second, .val (.double d1), .second, .val (.double d2), .second, .val (.double d3), .second, .val (.ref b132), .val (.ref b142), .val (.ref b153), .val (.int x1), .unset] [(.ref b169)])) := by
      refine c168.trans ?_
      show Steps p.tables e below (T161.setTop (mkF m 354 #[.val (.int i0), .val (.int i1), .val (.int (4 : Int32)), .val (.int f), .val (.int v0), .val (.int v1), .val (.int v2), .val (.int v3), .val (.double d0), .second, .val (.double d1), .second, .val (.double d2), .second, .val (.double d3), .second, .val (.ref b132), .val (.ref b142), .val (.ref b153), .val (.int x1), .unset] [])) _
      refine st169 _ ?_
      exact Steps.refl _
    have go : n0 ≤ b169 := Nat.le_trans Zh (Nat.le_of_eq g169.symm)
    have Zh := Nat.le_trans Zh E169.1
    have hk := Nat.le_trans hk E169.1
    have Fquery : Fld Z h169 b169 "com/example/canvass/canvass/core/Ranking" "query" "Ljava/lang/String;" .null := D169 (Or.inr (hw _ (List.mem_of_getElem? (i := 25) rfl))) (ty := (.object "java/lang/String")) (by decide)
    have Fdocuments : Fld Z h169 b169 "com/example/canvass/canvass/core/Ranking" "documents" "[I" .null := D169 (Or.inr (hw _ (List.mem_of_getElem? (i := 27) rfl))) (ty := (.array .int)) (by decide)
    have Fscores : Fld Z h169 b169 "com/example/canvass/canvass/core/Ranking" "scores" "[D" .null := D169 (Or.inr (hw _ (List.mem_of_getElem? (i := 29) rfl))) (ty := (.array .double)) (by decide)
    have c170 : Steps p.tables e below S0 (T169.setTop (mkF m 358 #[.val (.int i0), .val (.int i1), .val (.int (4 : Int32)), .val (.int f), .val (.int v0), .val (.int v1), .val (.int v2), .val (.int v3), .val (.double d0), .second, .val (.double d1), .second, .val (.double d2), .second, .val (.double d3), .second, .val (.ref b132), .val (.ref b142), .val (.ref b153), .val (.int x1), .unset] [(.ref b169), (.ref b169)])) := by
      refine c169.trans ?_
      show Steps p.tables e below (T169.setTop (mkF m 357 #[.val (.int i0), .val (.int i1), .val (.int (4 : Int32)), .val (.int f), .val (.int v0), .val (.int v1), .val (.int v2), .val (.int v3), .val (.double d0), .second, .val (.double d1), .second, .val (.double d2), .second, .val (.double d3), .second, .val (.ref b132), .val (.ref b142), .val (.ref b153), .val (.int x1), .unset] [(.ref b169)])) _
      refine XS.dup X169.here hx rfl (hb hby at_357) rfl rfl ?_
      exact Steps.refl _
    obtain ⟨q171, T171, h171, k171, X171, e171, E171, hS, hk, hZ, hown, st171⟩ := ldcS X169 hx hZ hown (hw _ (List.mem_of_getElem? (i := 10) rfl)) (own_wS hw) e169 hS hk (g := (mkF m 358 #[.val (.int i0), .val (.int i1), .val (.int (4 : Int32)), .val (.int f), .val (.int v0), .val (.int v1), .val (.int v2), .val (.int v3), .val (.double d0), .second, .val (.double d1), .second, .val (.double d2), .second, .val (.double d3), .second, .val (.ref b132), .val (.ref b142), .val (.ref b153), .val (.int x1), .unset] [(.ref b169), (.ref b169)])) rfl (hb hby at_358) (n := 4) (by decide) (by decide) (by decide) (by decide)
    have c171 : Steps p.tables e below S0 (T171.setTop (mkF m 360 #[.val (.int i0), .val (.int i1), .val (.int (4 : Int32)), .val (.int f), .val (.int v0), .val (.int v1), .val (.int v2), .val (.int v3), .val (.double d0), .second, .val (.double d1), .second, .val (.double d2), .second, .val (.double d3), .second, .val (.ref b132), .val (.ref b142), .val (.ref b153), .val (.int x1), .unset] [(.ref q171), (.ref b169), (.ref b169)])) := by
      refine c170.trans ?_
      show Steps p.tables e below (T169.setTop (mkF m 358 #[.val (.int i0), .val (.int i1), .val (.int (4 : Int32)), .val (.int f), .val (.int v0), .val (.int v1), .val (.int v2), .val (.int v3), .val (.double d0), .second, .val (.double d1), .second, .val (.double d2), .second, .val (.double d3), .second, .val (.ref b132), .val (.ref b142), .val (.ref b153), .val (.int x1), .unset] [(.ref b169), (.ref b169)])) _
      refine st171 _ ?_
      exact Steps.refl _
    have Zh := Nat.le_trans Zh E171.1
    obtain ⟨cls_, Ars, -, Ss, Ms, Hs, -⟩ := (Vs.ext E169).ext E171
    obtain ⟨cld, Ard, -, Sd, Md, -, -⟩ := (Vd.ext E169).ext E171
    have hDs := own_hD4 (d0 := d0) (d1 := d1) (d2 := d2) (d3 := d3) Ss Hs
    generalize hDD : own_D d0 d1 d2 d3 = D at hDs
    have c172 : Steps p.tables e below S0 (T171.setTop (mkF m 364 #[.val (.int i0), .val (.int i1), .val (.int (4 : Int32)), .val (.int f), .val (.int v0), .val (.int v1), .val (.int v2), .val (.int v3), .val (.double d0), .second, .val (.double d1), .second, .val (.double d2), .second, .val (.double d3), .second, .val (.ref b132), .val (.ref b142), .val (.ref b153), .val (.int x1), .unset] [(.ref b132), (.ref b142), (.ref q171), (.ref b169), (.ref b169)])) := by
      refine c171.trans ?_
      show Steps p.tables e below (T171.setTop (mkF m 360 #[.val (.int i0), .val (.int i1), .val (.int (4 : Int32)), .val (.int f), .val (.int v0), .val (.int v1), .val (.int v2), .val (.int v3), .val (.double d0), .second, .val (.double d1), .second, .val (.double d2), .second, .val (.double d3), .second, .val (.ref b132), .val (.ref b142), .val (.ref b153), .val (.int x1), .unset] [(.ref q171), (.ref b169), (.ref b169)])) _
      refine XS.aload X171.here hx rfl (hb hby at_360) rfl rfl ?_
      show Steps p.tables e below (T171.setTop (mkF m 362 #[.val (.int i0), .val (.int i1), .val (.int (4 : Int32)), .val (.int f), .val (.int v0), .val (.int v1), .val (.int v2), .val (.int v3), .val (.double d0), .second, .val (.double d1), .second, .val (.double d2), .second, .val (.double d3), .second, .val (.ref b132), .val (.ref b142), .val (.ref b153), .val (.int x1), .unset] [(.ref b142), (.ref q171), (.ref b169), (.ref b169)])) _
      refine XS.aload X171.here hx rfl (hb hby at_362) rfl rfl ?_
      exact Steps.refl _
    obtain ⟨_, _, ⟨T173, L173, k173, n173⟩, -, X173, ⟨Lc173, hQ173, l173, y173, z173⟩, st173⟩ := X171.specialBack hx (y := (⟨"com/example/canvass/canvass/core/Ranking", "<init>", "(Ljava/lang/String;[I[D)V"⟩ : MethodName)) rfl hown (mvT hZ (hw _ (List.mem_of_getElem? (i := 18) rfl))) (mvT hZ (hw _ (List.mem_of_getElem? (i := 19) rfl))) (mvT hZ (hw _ (List.mem_of_getElem? (i := 20) rfl))) (by decide) (backOf (W := 1) (rm19 l Z a0 hw [] b169 q171 b142 b132 cld cls_ (4 : Int32) h171 n0 Zh Ard Sd Ars Ss (by decide) (A169.ext E171) (Fquery.ext E171) (Fdocuments.ext E171) (Fscores.ext E171) go) hZ (hw _ (List.mem_of_getElem? (i := 20) rfl)) (hw _ (List.mem_of_getElem? (i := 9) rfl)) (by decide) (by decide)) (g := (mkF m 364 #[.val (.int i0), .val (.int i1), .val (.int (4 : Int32)), .val (.int f), .val (.int v0), .val (.int v1), .val (.int v2), .val (.int v3), .val (.double d0), .second, .val (.double d1), .second, .val (.double d2), .second, .val (.double d3), .second, .val (.ref b132), .val (.ref b142), .val (.ref b153), .val (.int x1), .unset] [(.ref b132), (.ref b142), (.ref q171), (.ref b169), (.ref b169)])) rfl (by rw [hml]; rfl) (Steps.refl _) (a := b169) (argsL := [(.ref q171), (.ref b142), (.ref b132)]) (rest := [(.ref b169)]) (lenOf pd2 rfl) rfl (by show 2 * 0 + _ ≤ _; exact Nat.le_of_eq rfl) (hb hby at_364) (fun _ _ => ⟨rfl, e171, (by decide : 6 + 0 ≤ _), (by decide : 23 + 0 ≤ _)⟩)
    dsimp only [Pt.U, Pt.locs, Pt.cells, Pt.slots] at X173 l173 y173 z173 st173 hQ173
    subst l173 y173 z173
    obtain ⟨rfl, Ni, Ki, Ei, Fi⟩ := hQ173
    have c173 : Steps p.tables e below S0 (T173.setTop (mkF m 367 #[.val (.int i0), .val (.int i1), .val (.int (4 : Int32)), .val (.int f), .val (.int v0), .val (.int v1), .val (.int v2), .val (.int v3), .val (.double d0), .second, .val (.double d1), .second, .val (.double d2), .second, .val (.double d3), .second, .val (.ref b132), .val (.ref b142), .val (.ref b153), .val (.int x1), .unset] [(.ref b169)])) := by
      refine c172.trans ?_
      show Steps p.tables e below (T171.setTop (mkF m 364 #[.val (.int i0), .val (.int i1), .val (.int (4 : Int32)), .val (.int f), .val (.int v0), .val (.int v1), .val (.int v2), .val (.int v3), .val (.double d0), .second, .val (.double d1), .second, .val (.double d2), .second, .val (.double d3), .second, .val (.ref b132), .val (.ref b142), .val (.ref b153), .val (.int x1), .unset] [(.ref b132), (.ref b142), (.ref q171), (.ref b169), (.ref b169)])) _
      refine st173.trans ?_
      exact Steps.refl _
    have Zh := Nat.le_trans Zh Ki.1
    have hk := Nat.le_trans hk Ki.1
    have Arz : Arr Z T173.heap b132 cls_ .double := ⟨Ki.2.1 _ _ Ars.1 (fun q => Nat.ne_of_lt (Nat.lt_of_lt_of_le Vs.lt (Nat.le_of_eq g169.symm)) (List.mem_singleton.mp q)), Ars.2⟩
    have c174 : Steps p.tables e below S0 (T173.setTop (mkF m 372 #[.val (.int i0), .val (.int i1), .val (.int (4 : Int32)), .val (.int f), .val (.int v0), .val (.int v1), .val (.int v2), .val (.int v3), .val (.double d0), .second, .val (.double d1), .second, .val (.double d2), .second, .val (.double d3), .second, .val (.ref b132), .val (.ref b142), .val (.ref b153), .val (.int x1), .val (.ref b169)] [(.int f), (.ref b169)])) := by
      refine c173.trans ?_
      show Steps p.tables e below (T173.setTop (mkF m 367 #[.val (.int i0), .val (.int i1), .val (.int (4 : Int32)), .val (.int f), .val (.int v0), .val (.int v1), .val (.int v2), .val (.int v3), .val (.double d0), .second, .val (.double d1), .second, .val (.double d2), .second, .val (.double d3), .second, .val (.ref b132), .val (.ref b142), .val (.ref b153), .val (.int x1), .unset] [(.ref b169)])) _
      refine XS.astore X173.here hx rfl (hb hby at_367) rfl rfl (l' := #[.val (.int i0), .val (.int i1), .val (.int (4 : Int32)), .val (.int f), .val (.int v0), .val (.int v1), .val (.int v2), .val (.int v3), .val (.double d0), .second, .val (.double d1), .second, .val (.double d2), .second, .val (.double d3), .second, .val (.ref b132), .val (.ref b142), .val (.ref b153), .val (.int x1), .val (.ref b169)]) rfl ?_
      show Steps p.tables e below (T173.setTop (mkF m 369 #[.val (.int i0), .val (.int i1), .val (.int (4 : Int32)), .val (.int f), .val (.int v0), .val (.int v1), .val (.int v2), .val (.int v3), .val (.double d0), .second, .val (.double d1), .second, .val (.double d2), .second, .val (.double d3), .second, .val (.ref b132), .val (.ref b142), .val (.ref b153), .val (.int x1), .val (.ref b169)] [])) _
      refine XS.aload X173.here hx rfl (hb hby at_369) rfl rfl ?_
      show Steps p.tables e below (T173.setTop (mkF m 371 #[.val (.int i0), .val (.int i1), .val (.int (4 : Int32)), .val (.int f), .val (.int v0), .val (.int v1), .val (.int v2), .val (.int v3), .val (.double d0), .second, .val (.double d1), .second, .val (.double d2), .second, .val (.double d3), .second, .val (.ref b132), .val (.ref b142), .val (.ref b153), .val (.int x1), .val (.ref b169)] [(.ref b169)])) _
      refine XS.iloadN X173.here hx rfl (hb hby at_371) rfl ?_
      exact Steps.refl _
    obtain ⟨cq175, kq175, q175a, q175b, q175c⟩ := isOf hZ rfl Ei
    obtain ⟨_, _, ⟨T175, L175, k175, n175⟩, -, X175, ⟨Lc175, hQ175, l175, y175, z175⟩, st175⟩ := X173.virtualBack hx (y := (⟨"com/example/canvass/canvass/core/Ranking", "endOfTie", "(I)I"⟩ : MethodName)) (z := (⟨"com/example/canvass/canvass/core/Ranking", "endOfTie", "(I)I"⟩ : MethodName)) hown (mvT hZ (hw _ (List.mem_of_getElem? (i := 30) rfl))) (mvT hZ (hw _ (List.mem_of_getElem? (i := 31) rfl))) (notFace_of_selects (args := #[]) (mvT hZ (hw _ (List.mem_of_getElem? (i := 33) rfl)))) (mvT hZ (hw _ (List.mem_of_getElem? (i := 33) rfl))) (mvT hZ (hw _ (List.mem_of_getElem? (i := 32) rfl))) (by decide) (backOf (W := 0) (rm196 l Z a0 hw [] b169 b132 cls_ D (4 : Int32) f T173.heap n0 Zh Fi Arz Ss hDs (by decide) (by decide) hf0 hfN) hZ (hw _ (List.mem_of_getElem? (i := 34) rfl)) (hw _ (List.mem_of_getElem? (i := 9) rfl)) (by decide) (by decide)) q175a q175c (g := (mkF m 372 #[.val (.int i0), .val (.int i1), .val (.int (4 : Int32)), .val (.int f), .val (.int v0), .val (.int v1), .val (.int v2), .val (.int v3), .val (.double d0), .second, .val (.double d1), .second, .val (.double d2), .second, .val (.double d3), .second, .val (.ref b132), .val (.ref b142), .val (.ref b153), .val (.int x1), .val (.ref b169)] [(.int f), (.ref b169)])) rfl (by rw [hml]; rfl) (Steps.refl _) (argsL := [(.int f)]) (rest := []) (lenOf pd3 rfl) rfl (by show 2 * 0 + _ ≤ _; exact Nat.le_of_eq rfl) (hb hby at_372) (fun _ _ => ⟨rfl, rfl, (by decide : 6 + 0 ≤ _), (by decide : 23 + 0 ≤ _)⟩)
    dsimp only [Pt.U, Pt.locs, Pt.cells, Pt.slots] at X175 l175 y175 z175 st175 hQ175
    subst l175 y175 z175
    obtain ⟨rfl, Nz, ez⟩ := hQ175
    have c175 : Steps p.tables e below S0 (T175.setTop (mkF m 375 #[.val (.int i0), .val (.int i1), .val (.int (4 : Int32)), .val (.int f), .val (.int v0), .val (.int v1), .val (.int v2), .val (.int v3), .val (.double d0), .second, .val (.double d1), .second, .val (.double d2), .second, .val (.double d3), .second, .val (.ref b132), .val (.ref b142), .val (.ref b153), .val (.int x1), .val (.ref b169)] [(.int (own_eot (fun k => decide (cmpValue (FP.dcmp (D k) (D f)) .l = 0)) (4 : Int32) 5 (f + 1)))])) := by
      refine c174.trans ?_
      show Steps p.tables e below (T173.setTop (mkF m 372 #[.val (.int i0), .val (.int i1), .val (.int (4 : Int32)), .val (.int f), .val (.int v0), .val (.int v1), .val (.int v2), .val (.int v3), .val (.double d0), .second, .val (.double d1), .second, .val (.double d2), .second, .val (.double d3), .second, .val (.ref b132), .val (.ref b142), .val (.ref b153), .val (.int x1), .val (.ref b169)] [(.int f), (.ref b169)])) _
      refine st175.trans ?_
      exact Steps.refl _
    have hlaw : (own_eot (fun k => decide (cmpValue (FP.dcmp (D k) (D f)) .l = 0)) (4 : Int32) 5 (f + 1)) = x1 := by
      subst hx3 hx2 hx1 hVV hDD
      exact own_law4 f hf0 hfN hd0 hd1 hd2 hd3
    have c176 : Steps p.tables e below S0 (T175.setTop (mkF m 385 #[.val (.int i0), .val (.int i1), .val (.int (4 : Int32)), .val (.int f), .val (.int v0), .val (.int v1), .val (.int v2), .val (.int v3), .val (.double d0), .second, .val (.double d1), .second, .val (.double d2), .second, .val (.double d3), .second, .val (.ref b132), .val (.ref b142), .val (.ref b153), .val (.int x1), .val (.ref b169)] [(.int (1 : Int32))])) := by
      refine c175.trans ?_
      show Steps p.tables e below (T175.setTop (mkF m 375 #[.val (.int i0), .val (.int i1), .val (.int (4 : Int32)), .val (.int f), .val (.int v0), .val (.int v1), .val (.int v2), .val (.int v3), .val (.double d0), .second, .val (.double d1), .second, .val (.double d2), .second, .val (.double d3), .second, .val (.ref b132), .val (.ref b142), .val (.ref b153), .val (.int x1), .val (.ref b169)] [(.int (own_eot (fun k => decide (cmpValue (FP.dcmp (D k) (D f)) .l = 0)) (4 : Int32) 5 (f + 1)))])) _
      refine XS.iload X175.here hx rfl (hb hby at_375) rfl ?_
      show Steps p.tables e below (T175.setTop (mkF m 377 #[.val (.int i0), .val (.int i1), .val (.int (4 : Int32)), .val (.int f), .val (.int v0), .val (.int v1), .val (.int v2), .val (.int v3), .val (.double d0), .second, .val (.double d1), .second, .val (.double d2), .second, .val (.double d3), .second, .val (.ref b132), .val (.ref b142), .val (.ref b153), .val (.int x1), .val (.ref b169)] [(.int x1), (.int (own_eot (fun k => decide (cmpValue (FP.dcmp (D k) (D f)) .l = 0)) (4 : Int32) 5 (f + 1)))])) _
      refine XS.icmpNo X175.here hx rfl (hb hby at_377) rfl (teq hlaw).2 ?_
      show Steps p.tables e below (T175.setTop (mkF m 380 #[.val (.int i0), .val (.int i1), .val (.int (4 : Int32)), .val (.int f), .val (.int v0), .val (.int v1), .val (.int v2), .val (.int v3), .val (.double d0), .second, .val (.double d1), .second, .val (.double d2), .second, .val (.double d3), .second, .val (.ref b132), .val (.ref b142), .val (.ref b153), .val (.int x1), .val (.ref b169)] [])) _
      refine XS.iconst X175.here hx rfl (hb hby at_380) ?_
      show Steps p.tables e below (T175.setTop (mkF m 381 #[.val (.int i0), .val (.int i1), .val (.int (4 : Int32)), .val (.int f), .val (.int v0), .val (.int v1), .val (.int v2), .val (.int v3), .val (.double d0), .second, .val (.double d1), .second, .val (.double d2), .second, .val (.double d3), .second, .val (.ref b132), .val (.ref b142), .val (.ref b153), .val (.int x1), .val (.ref b169)] [(.int (1 : Int32))])) _
      refine XS.goto X175.here hx rfl (pc0 := 381) (pc' := 385) rfl (hb hby at_381) (by decide) (by decide) ?_
      exact Steps.refl _
    obtain ⟨fs, hr, hrun, hended, hW⟩ := X175.leaveW hS (by rw [ez]; exact hk) (v := some (.int 1)) (fun h => by rw [Bd.returns] at h; cases h)
    refine ⟨_, _, c176.trans ?_, hrun, hended, _, _, rfl, ?_, hW.1, hW.2.1, hW.2.2.1, hW.2.2.2.mono (by decide) (by decide)⟩
    · show Steps p.tables e below (T175.setTop (mkF m 385 #[.val (.int i0), .val (.int i1), .val (.int (4 : Int32)), .val (.int f), .val (.int v0), .val (.int v1), .val (.int v2), .val (.int v3), .val (.double d0), .second, .val (.double d1), .second, .val (.double d2), .second, .val (.double d3), .second, .val (.ref b132), .val (.ref b142), .val (.ref b153), .val (.int x1), .val (.ref b169)] [(.int (1 : Int32))])) _
      exact retN X175 hx (t := .boolean) Bd.returns (by simp) (hb hby at_385) hr
    · show Q0 Z i0 i1 h0 n0 _ T175.heap _
      rw [ez]
      exact ⟨rfl, Fr.app (Fr.app Nv3 Ni) Nz⟩
set_option maxRecDepth 65536 in
set_option maxHeartbeats 40000000 in
theorem comes_1 {Post : Tables → Env → Array Value → State → Outcome → State → Prop} (hpost : ∀ tb e args s v u, (limb_1_1.after args s (.returned v) u = true ∧ limb_1_2.after args s (.returned v) u = true ∧ True) → ReturnedEndW s (.returned v) u (Jvm.fieldLocs frame_1_writes args s ++ Jvm.arrayLocs frame_1_arrays args s ++ Jvm.staticLocs frame_1_statics s) 24 1152 → Post tb e args s (.returned v) u) :
    ArmFor flags0 classFile x code maxLocals ret World_1 tables_1 room_1 Calls_1 rest_1 Pre_1 Post := by
  intro l hfl _ _ p e ha hc hk s m args below hf hA hF happ hP
  obtain ⟨hcalls, hrest, hpre⟩ := hP
  obtain ⟨-, -, -, hnamed, -, -, -, hat⟩ := (Spec.applies_iff hf).mp happ
  obtain ⟨hg, hn⟩ := and_e (Cond.before_iff.mp (show (Jvm.Cond.and given_1 narrow_1).before args s = true from hpre))
  obtain ⟨h1, g0⟩ := and_e hg
  obtain ⟨a0, g1⟩ := and_e g0
  have a1 := g1
  obtain ⟨w0, w1, rfl⟩ : ∃ w0 w1 : Value, args = #[w0, w1] := by
    have hs : args.size = 2 := by simpa [Cond.value, given_1] using h1
    obtain ⟨L⟩ := args
    match L, hs with
    | [w0, w1], _ => exact ⟨w0, w1, rfl⟩
  have hw := fun d (hd : d ∈ tables_1) => atoms_spec (ws := Jvm.Cond.code x code maxLocals ret :: tables_1) hat d (List.mem_cons_of_mem _ hd)
  have hfit : Fit s := fun {y c} hc i hi => by
    obtain ⟨ha, rfl⟩ := Array.getElem?_eq_some_iff.mp hc
    have q := List.all_eq_true.mp ((Array.all_eq_true_iff_forall_mem.mp hF) _ (Array.getElem_mem ha)) i (List.mem_range.mpr hi)
    simpa [Array.getElem?_eq_getElem hi] using q
  obtain ⟨i0, e0⟩ := is_v a0
  obtain rfl : w0 = (.int i0) := Option.some.inj e0
  obtain ⟨i1, e1⟩ := is_v a1
  obtain rfl : w1 = (.int i1) := Option.some.inj e1
  obtain ⟨n, o, h1, h2, h3, _, L, rfl, ⟨rfl, N⟩, hq⟩ := rm0 l s _ hw tables_1 i0 i1 s.heap s.heap.size (Nat.le_refl _) p e ha hc hk s m _ below hf ((Spec.applies_iff_loose hf).mp happ).1 ⟨rfl, State.Warmed39.refl s, rfl⟩ trivial
  refine ⟨n, _, h1, h2, h3, hpost _ _ _ _ _ _ ⟨Cond.after_iff.mpr rfl, Cond.after_iff.mpr (eq_i res_at (Term.int_eval (1)) rfl), trivial⟩ ⟨hq.1, hq.2.1, hq.2.2.1, (hq.2.2.2.sift fun y hy => Or.inr (N y hy)).mono (by decide) (by decide)⟩⟩
theorem main_1_1 : Claimed_1_1 := comes_1 fun _ _ _ _ _ _ h hF => ⟨h.1, hF⟩
theorem main_1_2 : Claimed_1_2 := comes_1 fun _ _ _ _ _ _ h hF => ⟨h.2.1, hF⟩
end Jvm.Pilot.@@N@@
namespace Jvm.Pilot.@@N@@
open Jvm Jvm.ClassFile Sem Op Lib Jvm.Free Jvm.Stand Jvm.Pilot.@@N@@.Jvm.D
/-! MADE BY PROGRAM (witnessworld.py) out of the Statement's table words and the real class files: 17 classes; the members and pool entries that the words name. The judged class is class 1, her method 1. -/
namespace start1
open Jvm.ClassFile
def u (s : String) : CpInfo := .utf8 (stringToUtf16 s)
/-- a pool by its gaps: so many unusable entries, then the entry; so many at the end -/
def gap : Nat → List CpInfo → List CpInfo
  | 0, r => r
  | n + 1, r => .unusable :: gap n r
def poolList (es : List (Nat × CpInfo)) (last : Nat) : List CpInfo := es.foldr (fun e r => gap e.1 (e.2 :: r)) (gap last [])
def pool (es : List (Nat × CpInfo)) (last : Nat) : Array CpInfo := ⟨poolList es last⟩
def fileOf (pool : Array CpInfo) (this : Nat) (attrs : Array Attribute := #[]) (ms : Array MethodInfo := #[]) (fl : Nat := 33) (sup : Nat := 0) (ifs : Array Nat := #[]) (fds : Array FieldInfo := #[]) : ClassFile where
  minorVersion := 0
  majorVersion := 65
  constantPool := pool
  accessFlags := fl
  thisClass := this
  superClass := sup
  interfaces := ifs
  fields := fds
  methods := ms
  attributes := attrs
def plain (name : String) (sup : Option ClassId) : Class where
  name := name
  kind := .ordinary
  loader := none
  accessFlags := 33
  super := sup
  interfaces := #[]
  cf := none
  fields := #[]
  methods := #[]
  instanceTypes := #[]
  staticTypes := #[]
  resolved := #[]
  callSites := []
  init := .initialized
  statics := none
  mirror := none

def pool0 : Array CpInfo := pool [(5, u "<init>"), (0, u "()V"), (1, .class_ 10), (1, u "java/lang/Object")] 113

def k0c0 : Code := { maxStack := 0, maxLocals := 1, code := object_method_1_code, exceptionTable := #[], attributes := #[] }
def k0m0 : Method := { name := "<init>", desc := "()V", sig := { parameters := [], returnType := none }, accessFlags := 1, code := some k0c0 }
/-- java/lang/Object -/
def k0 : Class := { plain "java/lang/Object" none with
  accessFlags := 33
  interfaces := #[]
  cf := some (fileOf pool0 8 #[] #[{ accessFlags := 1, nameIndex := 5, descriptorIndex := 6, attributes := #[] }] 33 0 #[] #[])
  fields := #[]
  methods := #[k0m0]
  instanceTypes := #[]
  staticTypes := #[]
  resolved := Array.replicate 124 none
  statics := none }

def pool1 : Array CpInfo := pool [(2, .class_ 4), (1, u "java/lang/Object"), (0, u "<init>"), (0, u "()V"), (0, .integer 2147483647), (0, .methodref 9 10), (0, .class_ 11), (0, .nameAndType 12 13), (0, u "com/example/canvass/canvass/core/RankingEndOfTiePinLaw"), (0, u "score"), (0, u "(II)D"), (0, .class_ 15), (0, u "com/example/canvass/canvass/core/Ranking"), (0, .string 17), (0, u "q"), (0, .methodref 14 19), (0, .nameAndType 5 20), (0, u "(Ljava/lang/String;[I[D)V"), (0, .methodref 14 22), (0, .nameAndType 23 24), (0, u "endOfTie"), (0, u "(I)I"), (0, .double 9223372036854775808), (3, u "law"), (0, u "(II)Z")] 7

def k1m0 : Method := { name := "<init>", desc := "()V", sig := { parameters := [], returnType := none }, accessFlags := 2, code := none }
def k1c1 : Code := { maxStack := 5, maxLocals := 21, code := code, exceptionTable := #[], attributes := #[] }
def k1m1 : Method := { name := "law", desc := "(II)Z", sig := { parameters := [.int, .int], returnType := some .boolean }, accessFlags := 9, code := some k1c1 }
def k1c2 : Code := { maxStack := 2, maxLocals := 2, code := method_3_code, exceptionTable := #[], attributes := #[] }
def k1m2 : Method := { name := "score", desc := "(II)D", sig := { parameters := [.int, .int], returnType := some .double }, accessFlags := 10, code := some k1c2 }
/-- com/example/canvass/canvass/core/RankingEndOfTiePinLaw -/
def k1 : Class := { plain "com/example/canvass/canvass/core/RankingEndOfTiePinLaw" (some 0) with
  accessFlags := 49
  interfaces := #[]
  cf := some (fileOf pool1 9 #[] #[{ accessFlags := 2, nameIndex := 5, descriptorIndex := 6, attributes := #[] }, { accessFlags := 9, nameIndex := 29, descriptorIndex := 30, attributes := #[] }, { accessFlags := 10, nameIndex := 12, descriptorIndex := 13, attributes := #[] }] 49 2 #[] #[])
  fields := #[]
  methods := #[k1m0, k1m1, k1m2]
  instanceTypes := #[]
  staticTypes := #[]
  resolved := Array.replicate 38 none
  statics := none }

def pool2 : Array CpInfo := pool [(1, .methodref 2 3), (0, .class_ 4), (0, .nameAndType 5 6), (0, u "java/lang/Object"), (0, u "<init>"), (0, u "()V"), (9, .fieldref 17 18), (0, .class_ 19), (0, .nameAndType 20 21), (0, u "com/example/canvass/canvass/core/Ranking"), (0, u "query"), (0, u "Ljava/lang/String;"), (0, .fieldref 17 23), (0, .nameAndType 24 25), (0, u "documents"), (0, u "[I"), (0, .fieldref 17 27), (0, .nameAndType 28 29), (0, u "scores"), (0, u "[D"), (0, .methodref 31 32), (0, .class_ 33), (0, .nameAndType 34 35), (0, u "com/example/canvass/canvass/core/ScoreOrder"), (0, u "endOfTie"), (0, u "([DII)I"), (0, u "(Ljava/lang/String;[I[D)V"), (11, u "(I)I")] 19

def k2c0 : Code := { maxStack := 4, maxLocals := 4, code := prog_19_method_1_code, exceptionTable := #[], attributes := #[] }
def k2m0 : Method := { name := "<init>", desc := "(Ljava/lang/String;[I[D)V", sig := { parameters := [(.object "java/lang/String"), (.array .int), (.array .double)], returnType := none }, accessFlags := 1, code := some k2c0 }
def k2c1 : Code := { maxStack := 3, maxLocals := 2, code := prog_19_method_6_code, exceptionTable := #[], attributes := #[] }
def k2m1 : Method := { name := "endOfTie", desc := "(I)I", sig := { parameters := [.int], returnType := some .int }, accessFlags := 0, code := some k2c1 }
/-- com/example/canvass/canvass/core/Ranking -/
def k2 : Class := { plain "com/example/canvass/canvass/core/Ranking" (some 0) with
  accessFlags := 49
  interfaces := #[]
  cf := some (fileOf pool2 17 #[] #[{ accessFlags := 1, nameIndex := 5, descriptorIndex := 36, attributes := #[] }, { accessFlags := 0, nameIndex := 34, descriptorIndex := 48, attributes := #[] }] 49 2 #[] #[{ accessFlags := 18, nameIndex := 20, descriptorIndex := 21, attributes := #[] }, { accessFlags := 18, nameIndex := 24, descriptorIndex := 25, attributes := #[] }, { accessFlags := 18, nameIndex := 28, descriptorIndex := 29, attributes := #[] }])
  fields := #[{ name := "query", type := (.object "java/lang/String"), accessFlags := 18, slot := 0, constantValue := 0 }, { name := "documents", type := (.array .int), accessFlags := 18, slot := 1, constantValue := 0 }, { name := "scores", type := (.array .double), accessFlags := 18, slot := 2, constantValue := 0 }]
  methods := #[k2m0, k2m1]
  instanceTypes := #[(.object "java/lang/String"), (.array .int), (.array .double)]
  staticTypes := #[]
  resolved := Array.replicate 68 none
  statics := none }

def pool3 : Array CpInfo := pool [(1, .class_ 2), (0, u "java/io/Serializable"), (0, .class_ 4), (0, u "java/lang/Object")] 2

/-- java/io/Serializable -/
def k3 : Class := { plain "java/io/Serializable" (some 0) with
  accessFlags := 1537
  interfaces := #[]
  cf := some (fileOf pool3 1 #[] #[] 1537 3 #[] #[])
  fields := #[]
  methods := #[]
  instanceTypes := #[]
  staticTypes := #[]
  resolved := Array.replicate 7 none
  statics := none }

def pool4 : Array CpInfo := pool [(1, .class_ 2), (0, u "java/lang/Comparable"), (0, .class_ 4), (0, u "java/lang/Object")] 7

/-- java/lang/Comparable -/
def k4 : Class := { plain "java/lang/Comparable" (some 0) with
  accessFlags := 1537
  interfaces := #[]
  cf := some (fileOf pool4 1 #[] #[] 1537 3 #[] #[])
  fields := #[]
  methods := #[]
  instanceTypes := #[]
  staticTypes := #[]
  resolved := Array.replicate 12 none
  statics := none }

def pool5 : Array CpInfo := pool [(2, .class_ 4), (1, u "java/lang/CharSequence"), (42, .class_ 48), (0, u "java/lang/CharSequence$1CodePointIterator"), (10, .class_ 60), (0, u "java/lang/CharSequence$1CharIterator"), (5, .class_ 67), (0, u "java/lang/Object")] 63

/-- java/lang/CharSequence -/
def k5 : Class := { plain "java/lang/CharSequence" (some 0) with
  accessFlags := 1537
  interfaces := #[]
  cf := some (fileOf pool5 2 #[.nestMembers #[47, 59]] #[] 1537 66 #[] #[])
  fields := #[]
  methods := #[]
  instanceTypes := #[]
  staticTypes := #[]
  resolved := Array.replicate 131 none
  statics := none }

def pool6 : Array CpInfo := pool [(1, .class_ 2), (0, u "java/lang/constant/Constable"), (0, .class_ 4), (0, u "java/lang/Object")] 6

/-- java/lang/constant/Constable -/
def k6 : Class := { plain "java/lang/constant/Constable" (some 0) with
  accessFlags := 1537
  interfaces := #[]
  cf := some (fileOf pool6 1 #[] #[] 1537 3 #[] #[])
  fields := #[]
  methods := #[]
  instanceTypes := #[]
  staticTypes := #[]
  resolved := Array.replicate 11 none
  statics := none }

def pool7 : Array CpInfo := pool [(1, .class_ 2), (0, u "java/lang/constant/ConstantDesc"), (0, .class_ 4), (0, u "java/lang/Object")] 32

/-- java/lang/constant/ConstantDesc -/
def k7 : Class := { plain "java/lang/constant/ConstantDesc" (some 0) with
  accessFlags := 1537
  interfaces := #[]
  cf := some (fileOf pool7 1 #[] #[] 1537 3 #[] #[])
  fields := #[]
  methods := #[]
  instanceTypes := #[]
  staticTypes := #[]
  resolved := Array.replicate 37 none
  statics := none }

def pool8 : Array CpInfo := pool [(2, .class_ 4), (1, u "java/lang/Object"), (0, u "<init>"), (0, u "()V"), (3, .class_ 12), (1, u "java/lang/String"), (0, u "value"), (0, u "[B"), (2, u "coder"), (0, u "B"), (2, u "hash"), (0, u "I"), (2, u "hashIsZero"), (0, u "Z"), (13, u "COMPACT_STRINGS"), (534, .class_ 576), (0, u "java/lang/CharSequence"), (22, u "CASE_INSENSITIVE_ORDER"), (0, u "Ljava/util/Comparator;"), (500, u "serialPersistentFields"), (0, u "[Ljava/io/ObjectStreamField;"), (0, .class_ 1104), (0, u "java/lang/String$CaseInsensitiveComparator"), (1, .class_ 1107), (0, u "java/io/Serializable"), (0, .class_ 1109), (0, u "java/lang/Comparable"), (0, .class_ 1111), (0, u "java/lang/constant/Constable"), (0, .class_ 1113), (0, u "java/lang/constant/ConstantDesc"), (2, u "serialVersionUID"), (0, u "J"), (3, u "REPL"), (0, u "C"), (2, u "LATIN1"), (1, u "UTF16")] 323

def k8m0 : Method := { name := "<init>", desc := "()V", sig := { parameters := [], returnType := none }, accessFlags := 1, code := none }
/-- java/lang/String -/
def k8 : Class := { plain "java/lang/String" (some 0) with
  accessFlags := 49
  interfaces := #[3, 4, 5, 6, 7]
  cf := some (fileOf pool8 10 #[.nestMembers #[1103]] #[{ accessFlags := 1, nameIndex := 5, descriptorIndex := 6, attributes := #[] }] 49 2 #[1106, 1108, 575, 1110, 1112] #[{ accessFlags := 18, nameIndex := 13, descriptorIndex := 14, attributes := #[] }, { accessFlags := 18, nameIndex := 17, descriptorIndex := 18, attributes := #[] }, { accessFlags := 2, nameIndex := 21, descriptorIndex := 22, attributes := #[] }, { accessFlags := 2, nameIndex := 25, descriptorIndex := 26, attributes := #[] }, { accessFlags := 26, nameIndex := 1116, descriptorIndex := 1117, attributes := #[] }, { accessFlags := 24, nameIndex := 40, descriptorIndex := 26, attributes := #[] }, { accessFlags := 26, nameIndex := 1101, descriptorIndex := 1102, attributes := #[] }, { accessFlags := 26, nameIndex := 1121, descriptorIndex := 1122, attributes := #[] }, { accessFlags := 25, nameIndex := 599, descriptorIndex := 600, attributes := #[] }, { accessFlags := 24, nameIndex := 1125, descriptorIndex := 18, attributes := #[] }, { accessFlags := 24, nameIndex := 1127, descriptorIndex := 18, attributes := #[] }])
  fields := #[{ name := "value", type := (.array .byte), accessFlags := 18, slot := 0, constantValue := 0 }, { name := "coder", type := .byte, accessFlags := 18, slot := 1, constantValue := 0 }, { name := "hash", type := .int, accessFlags := 2, slot := 2, constantValue := 0 }, { name := "hashIsZero", type := .boolean, accessFlags := 2, slot := 3, constantValue := 0 }, { name := "serialVersionUID", type := .long, accessFlags := 26, slot := 0, constantValue := 0 }, { name := "COMPACT_STRINGS", type := .boolean, accessFlags := 24, slot := 1, constantValue := 0 }, { name := "serialPersistentFields", type := (.array (.object "java/io/ObjectStreamField")), accessFlags := 26, slot := 2, constantValue := 0 }, { name := "REPL", type := .char, accessFlags := 26, slot := 3, constantValue := 0 }, { name := "CASE_INSENSITIVE_ORDER", type := (.object "java/util/Comparator"), accessFlags := 25, slot := 4, constantValue := 0 }, { name := "LATIN1", type := .byte, accessFlags := 24, slot := 5, constantValue := 0 }, { name := "UTF16", type := .byte, accessFlags := 24, slot := 6, constantValue := 0 }]
  methods := #[k8m0]
  instanceTypes := #[(.array .byte), .byte, .int, .boolean]
  staticTypes := #[.long, .boolean, (.array (.object "java/io/ObjectStreamField")), .char, (.object "java/util/Comparator"), .byte, .byte]
  resolved := Array.replicate 1451 none
  statics := none }

def pool9 : Array CpInfo := pool [(2, .class_ 4), (1, u "java/lang/Object"), (0, u "<init>"), (0, u "()V"), (1, .class_ 10), (1, u "com/example/canvass/canvass/core/ScoreOrder"), (9, u "([DII)I"), (1, u "endOfTie")] 2

def k9m0 : Method := { name := "<init>", desc := "()V", sig := { parameters := [], returnType := none }, accessFlags := 2, code := none }
def k9c1 : Code := { maxStack := 4, maxLocals := 4, code := prog_30_method_4_code, exceptionTable := #[], attributes := #[] }
def k9m1 : Method := { name := "endOfTie", desc := "([DII)I", sig := { parameters := [(.array .double), .int, .int], returnType := some .int }, accessFlags := 9, code := some k9c1 }
/-- com/example/canvass/canvass/core/ScoreOrder -/
def k9 : Class := { plain "com/example/canvass/canvass/core/ScoreOrder" (some 0) with
  accessFlags := 49
  interfaces := #[]
  cf := some (fileOf pool9 8 #[] #[{ accessFlags := 2, nameIndex := 5, descriptorIndex := 6, attributes := #[] }, { accessFlags := 9, nameIndex := 22, descriptorIndex := 20, attributes := #[] }] 49 2 #[] #[])
  fields := #[]
  methods := #[k9m0, k9m1]
  instanceTypes := #[]
  staticTypes := #[]
  resolved := Array.replicate 25 none
  statics := none }

def pool10 : Array CpInfo := pool [(1, u "java/lang/Cloneable"), (0, .class_ 1), (0, u "java/lang/Object"), (0, .class_ 3)] 3

/-- java/lang/Cloneable -/
def k10 : Class := { plain "java/lang/Cloneable" (some 0) with
  accessFlags := 1537
  interfaces := #[]
  cf := some (fileOf pool10 2 #[] #[] 1537 4 #[] #[])
  fields := #[]
  methods := #[]
  instanceTypes := #[]
  staticTypes := #[]
  resolved := Array.replicate 8 none
  statics := none }

/-- the primitive byte -/
def k11 : Class := { plain "byte" none with kind := .primitive 'B', accessFlags := 0x411 }
/-- [B -/
def k12 : Class := { plain "[B" (some 0) with kind := .array 11 .byte, interfaces := #[10, 3], accessFlags := 1041 }

/-- the primitive double -/
def k13 : Class := { plain "double" none with kind := .primitive 'D', accessFlags := 0x411 }
/-- [D -/
def k14 : Class := { plain "[D" (some 0) with kind := .array 13 .double, interfaces := #[10, 3], accessFlags := 1041 }

/-- the primitive int -/
def k15 : Class := { plain "int" none with kind := .primitive 'I', accessFlags := 0x411 }
/-- [I -/
def k16 : Class := { plain "[I" (some 0) with kind := .array 15 .int, interfaces := #[10, 3], accessFlags := 1041 }

def heap : Heap := #[]
def classes : Array Class := #[k0, k1, k2, k3, k4, k5, k6, k7, k8, k9, k10, k11, k12, k13, k14, k15, k16]
def interned : List (Array UInt16 × Addr) := []
def slotsUsed : Nat := 0
def theMethod : MethodId := ⟨1, 1⟩
def args0 : Array Value := #[.int 5, .int 6]
def aboutOver (below : List Frame) : State where
  vm := { classes := classes, interned := interned.toArray }
  heap := heap
  slotsUsed := slotsUsed
  threads := #[{ frames := .invoking theMethod args0 :: below }]
def below0 : List Frame := [.native { method := ⟨0, 0⟩, args := #[] }]
def about1 : State := aboutOver below0
def p0 : Program := .bare "" "" ""
def e0 : Env := launch0.env 0 0 0
theorem w_frames : about1.frames = Frame.invoking theMethod args0 :: below0 := rfl
set_option maxRecDepth 65536 in
theorem w_args : argsFit about1.vm theMethod args0 = true := by decide +kernel
set_option maxRecDepth 65536 in
theorem w_heap : heapFits about1 = true := by decide +kernel
set_option maxRecDepth 65536 in
theorem w_runnable : about1.curStatus? = some .runnable := by decide +kernel
set_option maxRecDepth 65536 in
theorem w_alone : about1.alone = true := by decide +kernel
set_option maxRecDepth 65536 in
theorem w_named : about1.methodNamed? x = some theMethod := by decide +kernel
set_option maxRecDepth 65536 in
theorem w_hears : about1.hears theMethod below0 = true := by decide +kernel
set_option maxRecDepth 65536 in
theorem w_ripe : about1.ripe theMethod args0 below0 = true := by decide +kernel
theorem w_running : about1.status = .running := rfl
set_option maxRecDepth 65536 in
theorem w_room : about1.hasRoom e0.platform room_1 = true :=
  launch0.hasRoom_least _ room_1 (by decide +kernel) (by decide +kernel) (by decide +kernel) (by decide +kernel) (by decide +kernel) (by decide +kernel)
theorem allAtoms_all (ts : List Jvm.Cond) (a : Array Jvm.Value) (st : Jvm.State) : (allAtoms ts).before a st = ts.all (fun c => c.before a st) := by
  induction ts with
  | nil => rfl
  | cons c t ih =>
    show (Jvm.Cond.and c (allAtoms t)).before a st = _
    rw [Jvm.Cond.before_and, ih, List.all_cons]
def words1 : List Jvm.Cond := Jvm.Cond.code x code maxLocals ret :: tables_1
/-- a 'code' word, met by the world's own term for the bytes: nothing is compared byte by byte -/
theorem code_word {y : MethodName} {bytes : ByteArray} {mx : Nat} {rt : Option FieldType} {a : Array Value} {s : State} {m : MethodId} {meth : Method} {c : Code} (h1 : s.methodNamed? y = some m) (h2 : s.vm.method? m = some meth) (h3 : meth.code = some c) (h4 : c.code = bytes)
    (h5 : (c.maxLocals == mx && c.exceptionTable.isEmpty && decide (c.maxStack ≤ mostOperands) && decide (meth.sig.returnType = rt) && !meth.locks && decide (parseMethodDescriptor y.desc = some meth.sig)) = true) : (Jvm.Cond.code y bytes mx rt).before a s = true := by
  simp only [Bool.and_eq_true, beq_iff_eq, Bool.not_eq_true', decide_eq_true_eq] at h5
  obtain ⟨⟨⟨⟨⟨g1, g2⟩, g3⟩, g4⟩, g5⟩, g6⟩ := h5
  simp [Cond.before, Cond.holds, Cond.value, h1, h2, h3, h4, g1, g2, g3, g4, g5, g6]
def isCode : Jvm.Cond → Bool
  | .code _ _ _ _ => true
  | _ => false
theorem all_split {L : List Jvm.Cond} {P : Jvm.Cond → Bool} (h1 : L.all (fun c => isCode c || P c) = true) (h2 : ∀ c ∈ L.filter isCode, P c = true) : L.all P = true := by
  refine List.all_eq_true.mpr fun c hc => ?_
  have h := List.all_eq_true.mp h1 c hc
  rcases Bool.eq_false_or_eq_true (isCode c) with hi | hi
  · exact h2 c (List.mem_filter.mpr ⟨hc, hi⟩)
  · simpa [hi] using h
set_option maxRecDepth 65536 in
theorem w_c0 : (Jvm.Cond.code x code maxLocals ret).before args0 about1 = true := code_word (m := ⟨1, 1⟩) (meth := k1m1) (c := k1c1) (by decide +kernel) rfl rfl rfl (by decide +kernel)
set_option maxRecDepth 65536 in
theorem w_c1 : (Jvm.Cond.code ({ cls := "com/example/canvass/canvass/core/RankingEndOfTiePinLaw", name := "score", desc := "(II)D" } : Jvm.MethodName) method_3_code (2 : Nat) (Option.some Jvm.ClassFile.FieldType.double)).before args0 about1 = true := code_word (m := ⟨1, 2⟩) (meth := k1m2) (c := k1c2) (by decide +kernel) rfl rfl rfl (by decide +kernel)
set_option maxRecDepth 65536 in
theorem w_c2 : (Jvm.Cond.code ({ cls := "com/example/canvass/canvass/core/Ranking", name := "<init>", desc := "(Ljava/lang/String;[I[D)V" } : Jvm.MethodName) prog_19_method_1_code (4 : Nat) (Option.none : Option Jvm.ClassFile.FieldType)).before args0 about1 = true := code_word (m := ⟨2, 0⟩) (meth := k2m0) (c := k2c0) (by decide +kernel) rfl rfl rfl (by decide +kernel)
set_option maxRecDepth 65536 in
theorem w_c3 : (Jvm.Cond.code ({ cls := "java/lang/Object", name := "<init>", desc := "()V" } : Jvm.MethodName) object_method_1_code (1 : Nat) (Option.none : Option Jvm.ClassFile.FieldType)).before args0 about1 = true := code_word (m := ⟨0, 0⟩) (meth := k0m0) (c := k0c0) (by decide +kernel) rfl rfl rfl (by decide +kernel)
set_option maxRecDepth 65536 in
theorem w_c4 : (Jvm.Cond.code ({ cls := "com/example/canvass/canvass/core/Ranking", name := "endOfTie", desc := "(I)I" } : Jvm.MethodName) prog_19_method_6_code (2 : Nat) (Option.some Jvm.ClassFile.FieldType.int)).before args0 about1 = true := code_word (m := ⟨2, 1⟩) (meth := k2m1) (c := k2c1) (by decide +kernel) rfl rfl rfl (by decide +kernel)
set_option maxRecDepth 65536 in
theorem w_c5 : (Jvm.Cond.code ({ cls := "com/example/canvass/canvass/core/ScoreOrder", name := "endOfTie", desc := "([DII)I" } : Jvm.MethodName) prog_30_method_4_code (4 : Nat) (Option.some Jvm.ClassFile.FieldType.int)).before args0 about1 = true := code_word (m := ⟨9, 1⟩) (meth := k9m1) (c := k9c1) (by decide +kernel) rfl rfl rfl (by decide +kernel)
def codes1 : List Jvm.Cond := [Jvm.Cond.code x code maxLocals ret, Jvm.Cond.code ({ cls := "com/example/canvass/canvass/core/RankingEndOfTiePinLaw", name := "score", desc := "(II)D" } : Jvm.MethodName) method_3_code (2 : Nat) (Option.some Jvm.ClassFile.FieldType.double), Jvm.Cond.code ({ cls := "com/example/canvass/canvass/core/Ranking", name := "<init>", desc := "(Ljava/lang/String;[I[D)V" } : Jvm.MethodName) prog_19_method_1_code (4 : Nat) (Option.none : Option Jvm.ClassFile.FieldType), Jvm.Cond.code ({ cls := "java/lang/Object", name := "<init>", desc := "()V" } : Jvm.MethodName) object_method_1_code (1 : Nat) (Option.none : Option Jvm.ClassFile.FieldType), Jvm.Cond.code ({ cls := "com/example/canvass/canvass/core/Ranking", name := "endOfTie", desc := "(I)I" } : Jvm.MethodName) prog_19_method_6_code (2 : Nat) (Option.some Jvm.ClassFile.FieldType.int), Jvm.Cond.code ({ cls := "com/example/canvass/canvass/core/ScoreOrder", name := "endOfTie", desc := "([DII)I" } : Jvm.MethodName) prog_30_method_4_code (4 : Nat) (Option.some Jvm.ClassFile.FieldType.int)]
set_option maxRecDepth 65536 in
theorem codes_eq : words1.filter isCode = codes1 := rfl
theorem w_codes : ∀ c ∈ words1.filter isCode, c.before args0 about1 = true := by
  rw [codes_eq]
  intro c hc
  simp only [codes1, List.mem_cons, List.not_mem_nil, or_false] at hc
  rcases hc with rfl | rfl | rfl | rfl | rfl | rfl
  · exact w_c0
  · exact w_c1
  · exact w_c2
  · exact w_c3
  · exact w_c4
  · exact w_c5
set_option maxRecDepth 65536 in
theorem w_t1 : (words1.take 24).all (fun c => isCode c || c.before args0 about1) = true := by decide +kernel
set_option maxRecDepth 65536 in
theorem w_t2 : (words1.drop 24).all (fun c => isCode c || c.before args0 about1) = true := by decide +kernel
theorem w_tables : (allAtoms (Jvm.Cond.code x code maxLocals ret :: tables_1)).before args0 about1 = true := by
  rw [allAtoms_all]
  show words1.all (fun c => c.before args0 about1) = true
  refine all_split ?_ w_codes
  rw [← List.take_append_drop 24 words1, List.all_append, w_t1, w_t2]
  rfl
set_option maxRecDepth 65536 in
theorem w_case : (Jvm.Cond.and given_1 narrow_1).before args0 about1 = true := by decide +kernel
theorem w_applies : (headSpec (Jvm.Cond.code x code maxLocals ret :: tables_1) room_1).applies x e0.platform about1 = true :=
  (Spec.applies_iff w_frames).mpr ⟨w_running, w_runnable, w_alone, w_named, w_hears, w_ripe, w_room, w_tables⟩
theorem atStart : AtStart classFile x code maxLocals ret World_1 tables_1 room_1 Calls_1 rest_1 Pre_1 launch0 p0 e0 about1 theMethod args0 below0 :=
  ⟨lists_1, trivial, launch0.admits_env _ _ _, launch0.least_env, fairChoices_fair.cas, fairChoices_fair.clock, w_frames, w_args, w_heap, w_applies, trivial, trivial, w_case⟩
end start1
theorem witness_1 : WitnessClaimed_1 := ⟨start1.p0, start1.e0, start1.about1, start1.theMethod, start1.args0, start1.below0, start1.atStart⟩
end Jvm.Pilot.@@N@@
