import JvmDerived
import JvmDerived.Pilot.@@N@@Statement
import JvmDerived.Pilot.@@N@@Code
set_option linter.unusedVariables false
set_option linter.unusedSimpArgs false
@@BLOCK:NumsL.lean.txt@@
namespace Jvm.RoadKit
open Sem ClassFile Op Lib Jvm.Stand Jvm.Free Jvm.LawKit
section New
variable {p : Program} {l : Launch} {e : Env} {R : Room} {s : State} {m : MethodId} {args : Array Value} {below : List Frame} {meth : Method} {c : Code} {T : State} {locs : List Loc} {cells slots : Nat}
theorem retI (X : Stand p l e R s m args below meth c T locs cells slots) (hx : p.tables.exec = Jvm.exec) {pc : Nat} {Ls : Array Slot} {z : Int32} {rest : List Value} (hret : meth.sig.returnType = some .int) (hd : decode c.code pc = .ok (.ireturn, 1)) {fs : List Frame}
    (hl : ∀ (f : JFrame) (acts : List Action), f.method = m → f.locked = none → f.entered = [] → (doReturn e (T.setTop f) acts (some (.int z))).1 = T.setFrames fs) : Steps p.tables e below (T.setTop (mkF m pc Ls (.int z :: rest))) (T.setFrames fs) := by
  have hm' : T.vm.method? m = some meth := X.method'
  have hn : narrow .int (.int z) = .int z := rfl
  show Steps p.tables e below (T.setTop { method := m, pc := pc, locals := Ls, stack := _ :: rest, locked := none }) _
  jvm_step X.here [X.here.top, hx, hd, hm', hret, hn]
  first | (intro acts; rw [hl _ acts rfl rfl rfl]) | rw [hl _ _ rfl rfl rfl]
  exact Steps.refl _
theorem retD (X : Stand p l e R s m args below meth c T locs cells slots) (hx : p.tables.exec = Jvm.exec) {pc : Nat} {Ls : Array Slot} {z : UInt64} {rest : List Value} (hret : meth.sig.returnType = some .double) (hd : decode c.code pc = .ok (.dreturn, 1)) {fs : List Frame}
    (hl : ∀ (f : JFrame) (acts : List Action), f.method = m → f.locked = none → f.entered = [] → (doReturn e (T.setTop f) acts (some (.double z))).1 = T.setFrames fs) : Steps p.tables e below (T.setTop (mkF m pc Ls (.double z :: rest))) (T.setFrames fs) := by
  have hm' : T.vm.method? m = some meth := X.method'
  show Steps p.tables e below (T.setTop { method := m, pc := pc, locals := Ls, stack := _ :: rest, locked := none }) _
  jvm_step X.here [X.here.top, hx, hd, hm', hret, narrow]
  first | (intro acts; rw [hl _ acts rfl rfl rfl]) | (refine ⟨meth, hm', ⟨_, hret, rfl⟩, fun acts => ?_⟩; rw [hl _ acts rfl rfl rfl])
  exact Steps.refl _
theorem retA (X : Stand p l e R s m args below meth c T locs cells slots) (hx : p.tables.exec = Jvm.exec) {pc : Nat} {Ls : Array Slot} {v : Value} {rest : List Value} {t : FieldType} (hret : meth.sig.returnType = some t) (ht : t.isReference = true) (hv : v.isRef = true) (hd : decode c.code pc = .ok (.areturn, 1)) {fs : List Frame}
    (hl : ∀ (f : JFrame) (acts : List Action), f.method = m → f.locked = none → f.entered = [] → (doReturn e (T.setTop f) acts (some v)).1 = T.setFrames fs) : Steps p.tables e below (T.setTop (mkF m pc Ls (v :: rest))) (T.setFrames fs) := by
  have hm' : T.vm.method? m = some meth := X.method'
  show Steps p.tables e below (T.setTop { method := m, pc := pc, locals := Ls, stack := _ :: rest, locked := none }) _
  jvm_step X.here [X.here.top, hx, hd, hm', hret, hv, ht]
  first | (intro acts; rw [hl _ acts rfl rfl rfl]) | (refine ⟨meth, hm', ⟨_, hret, rfl⟩, fun acts => ?_⟩; rw [hl _ acts rfl rfl rfl])
  exact Steps.refl _
theorem own_ref {v : Value} (h : v.isRef = true) : v = .null ∨ ∃ b, v = .ref b := by
  cases v <;> simp [Value.isRef] at h <;> simp
theorem own_narrow {v : Value} {C : String} (h : v.isRef = true) : narrow (.object C) v = v := by
  rcases own_ref h with rfl | ⟨b, rfl⟩ <;> rfl
theorem own_fits {v : Value} {C : String} (h : v.isRef = true) : fits (.object C) v = true := by
  rcases own_ref h with rfl | ⟨b, rfl⟩ <;> rfl
end New
end Jvm.RoadKit
namespace Jvm.Pilot.@@N@@
open Jvm Jvm.ClassFile Sem Op Lib Jvm.Free Jvm.Stand Jvm.LawKit Jvm.RoadKit Bundle Jvm.Pilot.@@N@@.Jvm.D
theorem d3_0 : decode method_3_code 0 = .ok (.lload_n 0, 1) := by decide +kernel
theorem d3_1 : decode method_3_code 1 = .ok (.lconst 0, 1) := by decide +kernel
theorem d3_2 : decode method_3_code 2 = .ok (.lcmp, 1) := by decide +kernel
theorem d3_3 : decode method_3_code 3 = .ok (.ifCond .ne 11, 3) := by decide +kernel
theorem d3_6 : decode method_3_code 6 = .ok (.iload_n 2, 1) := by decide +kernel
theorem d3_7 : decode method_3_code 7 = .ok (.ifCond .eq 7, 3) := by decide +kernel
theorem d3_10 : decode method_3_code 10 = .ok (.ldc2_w 24, 3) := by decide +kernel
theorem d3_13 : decode method_3_code 13 = .ok (.dreturn, 1) := by decide +kernel
theorem d3_14 : decode method_3_code 14 = .ok (.lload_n 0, 1) := by decide +kernel
theorem d3_15 : decode method_3_code 15 = .ok (.l2d, 1) := by decide +kernel
theorem d3_16 : decode method_3_code 16 = .ok (.dreturn, 1) := by decide +kernel
theorem d4_0 : decode method_4_code 0 = .ok (.iload_n 3, 1) := by decide +kernel
theorem d4_1 : decode method_4_code 1 = .ok (.iload_n 1, 1) := by decide +kernel
theorem d4_2 : decode method_4_code 2 = .ok (.if_icmp .le 22, 3) := by decide +kernel
theorem d4_5 : decode method_4_code 5 = .ok (.iload_n 3, 1) := by decide +kernel
theorem d4_6 : decode method_4_code 6 = .ok (.iload_n 2, 1) := by decide +kernel
theorem d4_7 : decode method_4_code 7 = .ok (.if_icmp .ge 17, 3) := by decide +kernel
theorem d4_10 : decode method_4_code 10 = .ok (.aload_n 0, 1) := by decide +kernel
theorem d4_11 : decode method_4_code 11 = .ok (.iload_n 3, 1) := by decide +kernel
theorem d4_12 : decode method_4_code 12 = .ok (.daload, 1) := by decide +kernel
theorem d4_13 : decode method_4_code 13 = .ok (.aload_n 0, 1) := by decide +kernel
theorem d4_14 : decode method_4_code 14 = .ok (.iload_n 1, 1) := by decide +kernel
theorem d4_15 : decode method_4_code 15 = .ok (.daload, 1) := by decide +kernel
theorem d4_16 : decode method_4_code 16 = .ok (.dcmp .l, 1) := by decide +kernel
theorem d4_17 : decode method_4_code 17 = .ok (.ifCond .eq 7, 3) := by decide +kernel
theorem d4_20 : decode method_4_code 20 = .ok (.iconst 1, 1) := by decide +kernel
theorem d4_21 : decode method_4_code 21 = .ok (.goto 4, 3) := by decide +kernel
theorem d4_24 : decode method_4_code 24 = .ok (.iconst 0, 1) := by decide +kernel
theorem d4_25 : decode method_4_code 25 = .ok (.ireturn, 1) := by decide +kernel
theorem d29_0 : decode prog_29_method_4_code 0 = .ok (.iload_n 1, 1) := by decide +kernel
theorem d29_1 : decode prog_29_method_4_code 1 = .ok (.iconst 1, 1) := by decide +kernel
theorem d29_2 : decode prog_29_method_4_code 2 = .ok (.iadd, 1) := by decide +kernel
theorem d29_3 : decode prog_29_method_4_code 3 = .ok (.istore_n 3, 1) := by decide +kernel
theorem d29_4 : decode prog_29_method_4_code 4 = .ok (.iload_n 3, 1) := by decide +kernel
theorem d29_5 : decode prog_29_method_4_code 5 = .ok (.iload_n 2, 1) := by decide +kernel
theorem d29_6 : decode prog_29_method_4_code 6 = .ok (.if_icmp .ge 19, 3) := by decide +kernel
theorem d29_9 : decode prog_29_method_4_code 9 = .ok (.aload_n 0, 1) := by decide +kernel
theorem d29_10 : decode prog_29_method_4_code 10 = .ok (.iload_n 3, 1) := by decide +kernel
theorem d29_11 : decode prog_29_method_4_code 11 = .ok (.daload, 1) := by decide +kernel
theorem d29_12 : decode prog_29_method_4_code 12 = .ok (.aload_n 0, 1) := by decide +kernel
theorem d29_13 : decode prog_29_method_4_code 13 = .ok (.iload_n 1, 1) := by decide +kernel
theorem d29_14 : decode prog_29_method_4_code 14 = .ok (.daload, 1) := by decide +kernel
theorem d29_15 : decode prog_29_method_4_code 15 = .ok (.dcmp .l, 1) := by decide +kernel
theorem d29_16 : decode prog_29_method_4_code 16 = .ok (.ifCond .ne 9, 3) := by decide +kernel
theorem d29_19 : decode prog_29_method_4_code 19 = .ok (.iinc 3 1, 3) := by decide +kernel
theorem d29_22 : decode prog_29_method_4_code 22 = .ok (.goto (-18), 3) := by decide +kernel
theorem d29_25 : decode prog_29_method_4_code 25 = .ok (.iload_n 3, 1) := by decide +kernel
theorem d29_26 : decode prog_29_method_4_code 26 = .ok (.ireturn, 1) := by decide +kernel
theorem pn0 : plainName "com/example/canvass/canvass/core/ScoreOrderEndOfTiePinLaw" = true := by first | (simp [plainName, overriddenIn]; done) | decide +kernel
theorem pn1 : plainName "com/example/canvass/canvass/core/ScoreOrder" = true := by first | (simp [plainName, overriddenIn]; done) | decide +kernel
theorem pd0 : parseMethodDescriptor "(JI)D" = some ⟨[.long, .int], some .double⟩ := by decide +kernel
theorem pd1 : parseMethodDescriptor "([DIII)Z" = some ⟨[(.array .double), .int, .int, .int], some .boolean⟩ := by decide +kernel
theorem pd2 : parseMethodDescriptor "([DII)I" = some ⟨[(.array .double), .int, .int], some .int⟩ := by decide +kernel
theorem own_wsz {h h' : Heap} {a : Addr} {j : Nat} {v : Value} (W : Wr h h' a j v) : h'.size = h.size := by
  obtain ⟨c, -, -, -, rfl⟩ := W; simp
def own_eot (B : Int32 → Bool) (t : Int32) : Nat → Int32 → Int32
  | 0, x => x
  | n + 1, x => if x < t ∧ B x = true then own_eot B t n (x + 1) else x
theorem own_nlt {t x : Int32} (h : (t.toInt - x.toInt).toNat ≤ 0) : ¬ x < t := by rw [Int32.lt_iff_toInt_lt]; omega
theorem own_lt5 {t x : Int32} (h : x < t) (ht : ¬ 5 < t) : x < 5 := by
  rw [Int32.lt_iff_toInt_lt] at *; rw [show (5 : Int32).toInt = 5 from rfl] at *; omega
theorem own_inc {x : Int32} (h0 : ¬ x < 0) (h5 : x < 5) : (x + 1).toInt = x.toInt + 1 := by
  rw [Int32.lt_iff_toInt_lt] at *; rw [show (5 : Int32).toInt = 5 from rfl] at *; rw [show (0 : Int32).toInt = 0 from rfl] at *
  exact Jvm.Kit.i32_add (by show _ ≤ _ + (1 : Int); omega) (by show _ + (1 : Int) < _; omega)
theorem own_nn {x : Int32} (h0 : ¬ x < 0) (h5 : x < 5) : ¬ x + 1 < 0 := by
  have h := own_inc h0 h5
  rw [Int32.lt_iff_toInt_lt] at *; rw [h]; rw [show (0 : Int32).toInt = 0 from rfl] at *; omega
theorem own_dec {x t : Int32} {n : Nat} (h0 : ¬ x < 0) (h5 : x < 5) (h1 : x < t) (hn : (t.toInt - x.toInt).toNat ≤ n + 1) : (t.toInt - (x + 1).toInt).toNat ≤ n := by
  rw [own_inc h0 h5]; rw [Int32.lt_iff_toInt_lt] at h1; omega
theorem own_fuel {f t : Int32} (h0 : ¬ f < 0) (h5 : f < 5) (ht : ¬ 5 < t) : (t.toInt - (f + 1).toInt).toNat ≤ 5 := by
  rw [own_inc h0 h5]; rw [Int32.lt_iff_toInt_lt] at *; rw [show (5 : Int32).toInt = 5 from rfl] at *; rw [show (0 : Int32).toInt = 0 from rfl] at *; omega
theorem own_five {f : Int32} (h0 : ¬ f < 0) (h5 : f < 5) : f = 0 ∨ f = 1 ∨ f = 2 ∨ f = 3 ∨ f = 4 := by
  rw [Int32.lt_iff_toInt_lt] at *; rw [show (5 : Int32).toInt = 5 from rfl] at *; rw [show (0 : Int32).toInt = 0 from rfl] at *
  simp only [← Int32.toInt_inj, show (0 : Int32).toInt = 0 from rfl, show (1 : Int32).toInt = 1 from rfl, show (2 : Int32).toInt = 2 from rfl, show (3 : Int32).toInt = 3 from rfl, show (4 : Int32).toInt = 4 from rfl]
  omega
theorem own_pos (i : Int32) : 0 ≤ (i &&& (2147483647 : Int32)).toInt := by
  have e1 : (i &&& 2147483647).toInt = i.toInt % 2 ^ 31 := Jvm.Kit.i32_mask i 2147483647 (k := 31) (by decide) (by decide)
  omega
theorem own_rem (x y : Int32) (hx : 0 ≤ x.toInt) (hy : 0 < y.toInt) : (x - x / y * y).toInt = x.toInt % y.toInt := by
  have h1 := Int32.toInt_lt x
  have h2 := Int32.toInt_lt y
  have hd0 : 0 ≤ x.toInt / y.toInt := Int.ediv_nonneg hx (by omega)
  have hd1 : x.toInt / y.toInt ≤ x.toInt := Int.ediv_le_self _ hx
  have hq : (x / y).toInt = x.toInt / y.toInt := by
    rw [Int32.toInt_div, Int.tdiv_eq_ediv_of_nonneg hx]
    exact Int.bmod_eq_of_le (by omega) (by omega)
  have hm : x.toInt / y.toInt * y.toInt ≤ x.toInt := Int.ediv_mul_le _ (by omega)
  have hm0 : 0 ≤ x.toInt / y.toInt * y.toInt := Int.mul_nonneg hd0 (by omega)
  have hmu : (x / y * y).toInt = x.toInt / y.toInt * y.toInt := by
    rw [Int32.toInt_mul, hq]
    exact Int.bmod_eq_of_le (by omega) (by omega)
  rw [Int32.toInt_sub, hmu, Int.bmod_eq_of_le (by omega) (by omega)]
  have := Int.emod_add_mul_ediv x.toInt y.toInt
  rw [Int.mul_comm] at this
  omega
theorem own_mod5 (i f : Int32) (hf : f = (i &&& (2147483647 : Int32)) - (i &&& (2147483647 : Int32)) / (5 : Int32) * (5 : Int32)) : ¬ f < 0 ∧ f < 5 := by
  have e : f.toInt = (i &&& (2147483647 : Int32)).toInt % 5 := by rw [hf, own_rem _ _ (own_pos i) (by decide)]; rfl
  rw [Int32.lt_iff_toInt_lt, Int32.lt_iff_toInt_lt, e]; rw [show (5 : Int32).toInt = 5 from rfl, show (0 : Int32).toInt = 0 from rfl]; omega
theorem own_5fi {f : Int32} (h0 : ¬ f < 0) (h5 : f < 5) : ((5 : Int32) - f).toInt = 5 - f.toInt := by
  rcases own_five h0 h5 with rfl | rfl | rfl | rfl | rfl <;> rfl
theorem own_5f {f : Int32} (h0 : ¬ f < 0) (h5 : f < 5) : (5 : Int32) - f ≠ 0 := by
  rcases own_five h0 h5 with rfl | rfl | rfl | rfl | rfl <;> decide
theorem own_to (i f t : Int32) (h0 : ¬ f < 0) (h5 : f < 5) (ht : t = ((f + (1 : Int32)) + ((i &&& (2147483647 : Int32)) - (i &&& (2147483647 : Int32)) / ((5 : Int32) - f) * ((5 : Int32) - f)))) : f < t ∧ ¬ 5 < t := by
  have e1 := own_inc h0 h5
  have e2 := own_5fi h0 h5
  have h5' : f.toInt < 5 := by rw [Int32.lt_iff_toInt_lt] at h5; exact h5
  have hm : ((i &&& (2147483647 : Int32)) - (i &&& (2147483647 : Int32)) / ((5 : Int32) - f) * ((5 : Int32) - f)).toInt = (i &&& (2147483647 : Int32)).toInt % (5 - f.toInt) := by rw [own_rem _ _ (own_pos i) (by rw [e2]; omega), e2]
  rw [Int32.lt_iff_toInt_lt] at h0 h5; rw [show (5 : Int32).toInt = 5 from rfl] at *; rw [show (0 : Int32).toInt = 0 from rfl] at *
  have hb1 := Int.emod_nonneg (i &&& (2147483647 : Int32)).toInt (show (5 - f.toInt) ≠ 0 by omega)
  have hb2 := Int.emod_lt_of_pos (i &&& (2147483647 : Int32)).toInt (show 0 < 5 - f.toInt by omega)
  have e3 : t.toInt = (f + 1).toInt + ((i &&& (2147483647 : Int32)) - (i &&& (2147483647 : Int32)) / ((5 : Int32) - f) * ((5 : Int32) - f)).toInt := by
    rw [ht]; exact Jvm.Kit.i32_add (by rw [hm, e1]; omega) (by rw [hm, e1]; omega)
  rw [Int32.lt_iff_toInt_lt, Int32.lt_iff_toInt_lt, e3, hm, e1]; rw [show (5 : Int32).toInt = 5 from rfl]; omega
def own_D (d0 d1 d2 d3 d4 : UInt64) (j : Int32) : UInt64 := if j = 0 then d0 else if j = 1 then d1 else if j = 2 then d2 else if j = 3 then d3 else d4
theorem own_hD {d0 d1 d2 d3 d4 : UInt64} {c : Cell} {d : Value} (S : c.slots.size = (5 : Int32).toNatClampNeg) (H : Has c [.double d0, .double d1, .double d2, .double d3, .double d4] d) : ∀ j : Int32, ¬ j < 0 → j < 5 → c.slots[j.toNatClampNeg]? = some (.double (own_D d0 d1 d2 d3 d4 j)) := by
  intro j h0 h5
  have q : ∀ k, k < 5 → c.slots[k]? = some ([Value.double d0, .double d1, .double d2, .double d3, .double d4].getD k d) := fun k hk => H k (by rw [S]; exact hk)
  rcases own_five h0 h5 with rfl | rfl | rfl | rfl | rfl
  · exact q 0 (by decide)
  · exact q 1 (by decide)
  · exact q 2 (by decide)
  · exact q 3 (by decide)
  · exact q 4 (by decide)
theorem own_law (B : Int32 → Bool) (P : Int32 → Prop) [∀ k, Decidable (P k)] (hP : ∀ k, B k = true ↔ P k) (f t : Int32) (hf0 : ¬ f < 0) (hft : f < t) (ht5 : ¬ 5 < t) :
    own_eot B t 5 (f + 1) = (if (if f < 1 ∧ 1 < t ∧ ¬ P 1 then 1 else 0 : Int32) = 0 then (if (if f < 2 ∧ 2 < t ∧ ¬ P 2 then 1 else 0 : Int32) = 0 then (if (if f < 3 ∧ 3 < t ∧ ¬ P 3 then 1 else 0 : Int32) = 0 then (if (if f < 4 ∧ 4 < t ∧ ¬ P 4 then 1 else 0 : Int32) = 0 then t else (4 : Int32)) else (3 : Int32)) else (2 : Int32)) else (1 : Int32)) := by
  have hp : ∀ k, (¬ P k) = (B k = false) := fun k => by rw [← hP]; simp
  simp only [hp]
  have hf5 : f < 5 := own_lt5 hft ht5
  have hft' := hft
  have ht' := ht5
  rw [Int32.lt_iff_toInt_lt] at hft' ht'
  rw [show (5 : Int32).toInt = 5 from rfl] at ht'
  have ht : t = 1 ∨ t = 2 ∨ t = 3 ∨ t = 4 ∨ t = 5 := by
    rw [Int32.lt_iff_toInt_lt] at hf0; rw [show (0 : Int32).toInt = 0 from rfl] at hf0
    simp only [← Int32.toInt_inj, show (5 : Int32).toInt = 5 from rfl, show (1 : Int32).toInt = 1 from rfl, show (2 : Int32).toInt = 2 from rfl, show (3 : Int32).toInt = 3 from rfl, show (4 : Int32).toInt = 4 from rfl]
    omega
  rcases own_five hf0 hf5 with rfl | rfl | rfl | rfl | rfl <;> rcases ht with rfl | rfl | rfl | rfl | rfl <;> first | (exfalso; revert hft; decide) | skip
  all_goals
    simp only [own_eot, show (0 : Int32) + 1 = 1 from rfl, show (1 : Int32) + 1 = 2 from rfl, show (2 : Int32) + 1 = 3 from rfl, show (3 : Int32) + 1 = 4 from rfl, show (4 : Int32) + 1 = 5 from rfl, show (5 : Int32) + 1 = 6 from rfl, show (6 : Int32) + 1 = 7 from rfl, show (7 : Int32) + 1 = 8 from rfl, show (8 : Int32) + 1 = 9 from rfl]
    generalize B 1 = b1
    generalize B 2 = b2
    generalize B 3 = b3
    generalize B 4 = b4
    generalize B 5 = b5
    generalize B 6 = b6
    generalize B 7 = b7
    generalize B 8 = b8
    generalize B 9 = b9
    revert b1 b2 b3 b4 b5 b6 b7 b8 b9
    decide

def Q3 (Z : State) (q : Int64) (b : Int32) (h0 : Heap) (n0 : Nat) (v : Option Value) (h : Heap) (L : List Loc) : Prop := (∃ d : UInt64, v = some (.double d)) ∧ Fr n0 L ∧ h = h0
theorem ef3 (m : MethodId) (q : Int64) (b : Int32) : entryFrame m #[(.long q), (.int b)] 3 = mkF m 0 #[.val (.long q), .second, .val (.int b)] [] := by first | (simp [entryFrame, mkF, argsToLocals, Value.category, List.replicate]; done) | rfl
set_option maxRecDepth 65536 in
set_option maxHeartbeats 40000000 in
theorem rm3 (l : Launch) (Z : State) (a0 : Array Value) (hw : ∀ d ∈ tables_1, d.before a0 Z = true) (ws : List Jvm.Cond) (q : Int64) (b : Int32) (h0 : Heap) (n0 : Nat) (Z0 : n0 ≤ h0.size)  :
    MetFree l (⟨"com/example/canvass/canvass/core/ScoreOrderEndOfTiePinLaw", "score", "(JI)D"⟩ : MethodName) (head1 (Jvm.Cond.code (⟨"com/example/canvass/canvass/core/ScoreOrderEndOfTiePinLaw", "score", "(JI)D"⟩ : MethodName) method_3_code 3 (some .double) :: ws) ({ frames := 0, cells := 0, slots := 0, locals := 0 } : Room)) (fun aa UU => aa = #[(.long q), (.int b)] ∧ Z.Warmed39 UU.vm ∧ UU.heap = h0) (fun _ _ _ _ _ => True) (fun _ UU oo UT => ∃ vv LL, oo = .returned vv ∧ Q3 Z q b h0 n0 vv UT.heap LL ∧ FrameEnd UU oo UT LL ({ frames := 0, cells := 0, slots := 0, locals := 0 } : Room).cells ({ frames := 0, cells := 0, slots := 0, locals := 0 } : Room).slots) := by
  refine MetFree.of_bodySF (plainFor_of_name pn0) hisR ?_
  intro p e s m args below meth c s₁ Bd hml0 hP hK
  obtain ⟨rfl, hZ, hh⟩ := hP
  have hx := Bd.exec
  have hby := Bd.bytes
  have hml : c.maxLocals = 3 := hml0
  have hown : s.vm.findClass "com/example/canvass/canvass/core/ScoreOrderEndOfTiePinLaw" = some m.cls := findClass_of_methodNamed Bd.named
  have hnm := (name_of_methodNamed Bd.named Bd.method).1
  have X0 : Stand p l e ({ frames := 0, cells := 0, slots := 0, locals := 0 } : Room) s m #[(.long q), (.int b)] below meth c s₁ [] 0 0 := Stand.of_body Bd
  have e0 : s₁.heap = h0 := by rw [← hh, Bd.state]; rfl
  have N0 := Fr.nil n0
  have c0 : Steps p.tables e below (s₁.setTop (entryFrame m #[(.long q), (.int b)] 3)) (s₁.setTop (mkF m 0 #[.val (.long q), .second, .val (.int b)] [])) := castTop (ef3 m q b) (Steps.refl _)
  show ∃ s₂ oo, Steps p.tables e below (s₁.setTop (entryFrame m #[(.long q), (.int b)] 3)) s₂ ∧ _ ∧ _ ∧ _
  generalize s₁.setTop (entryFrame m #[(.long q), (.int b)] 3) = S0 at c0 ⊢
  by_cases hv : q = 0
  · by_cases hj : b = 0
    · have c1 : Steps p.tables e below S0 (s₁.setTop (mkF m 14 #[.val (.long q), .second, .val (.int b)] [])) := by
        refine c0.trans ?_
        show Steps p.tables e below (s₁.setTop (mkF m 0 #[.val (.long q), .second, .val (.int b)] [])) _
        refine XS.lloadN X0.here hx rfl (hb hby d3_0) rfl ?_
        show Steps p.tables e below (s₁.setTop (mkF m 1 #[.val (.long q), .second, .val (.int b)] [(.long q)])) _
        refine XS.lconst X0.here hx rfl (hb hby d3_1) ?_
        show Steps p.tables e below (s₁.setTop (mkF m 2 #[.val (.long q), .second, .val (.int b)] [(.long (0 : Int64)), (.long q)])) _
        refine XS.lcmp X0.here hx rfl (hb hby d3_2) rfl ?_
        show Steps p.tables e below (s₁.setTop (mkF m 3 #[.val (.long q), .second, .val (.int b)] [(.int (lcmpW q (0 : Int64)))])) _
        refine XS.ifNo X0.here hx rfl (hb hby d3_3) rfl ((if0 _ _).trans (teq ((lw_eq _ _).mpr hv)).2) ?_
        show Steps p.tables e below (s₁.setTop (mkF m 6 #[.val (.long q), .second, .val (.int b)] [])) _
        refine XS.iloadN X0.here hx rfl (hb hby d3_6) rfl ?_
        show Steps p.tables e below (s₁.setTop (mkF m 7 #[.val (.long q), .second, .val (.int b)] [(.int b)])) _
        refine XS.ifYes X0.here hx rfl (pc0 := 7) (pc' := 14) rfl (hb hby d3_7) rfl ((if0 _ _).trans (teq hj).1) (by decide) (by decide) ?_
        exact Steps.refl _
      have c2 : Steps p.tables e below S0 (s₁.setTop (mkF m 16 #[.val (.long q), .second, .val (.int b)] [(.double (FP.l2d q))])) := by
        refine c1.trans ?_
        show Steps p.tables e below (s₁.setTop (mkF m 14 #[.val (.long q), .second, .val (.int b)] [])) _
        refine XS.lloadN X0.here hx rfl (hb hby d3_14) rfl ?_
        show Steps p.tables e below (s₁.setTop (mkF m 15 #[.val (.long q), .second, .val (.int b)] [(.long q)])) _
        refine XS.l2dS X0.here hx rfl (v := (FP.l2d q)) (hb hby d3_15) rfl rfl ?_
        exact Steps.refl _
      obtain ⟨fs, hr, hrun, hended, hW, hsame⟩ := X0.leave (v := some (.double (FP.l2d q))) (fun h => by rw [Bd.returns] at h; cases h)
      refine ⟨_, _, c2.trans ?_, hrun, hended, _, _, rfl, ?_, ⟨_, rfl⟩, hW, hsame.mono (by decide) (by decide)⟩
      · show Steps p.tables e below (s₁.setTop (mkF m 16 #[.val (.long q), .second, .val (.int b)] [(.double (FP.l2d q))])) _
        exact retD X0 hx Bd.returns (hb hby d3_16) hr
      · show Q3 Z q b h0 n0 _ s₁.heap _
        rw [e0]
        exact ⟨⟨_, rfl⟩, N0, rfl⟩
    · have c3 : Steps p.tables e below S0 (s₁.setTop (mkF m 10 #[.val (.long q), .second, .val (.int b)] [])) := by
        refine c0.trans ?_
        show Steps p.tables e below (s₁.setTop (mkF m 0 #[.val (.long q), .second, .val (.int b)] [])) _
        refine XS.lloadN X0.here hx rfl (hb hby d3_0) rfl ?_
        show Steps p.tables e below (s₁.setTop (mkF m 1 #[.val (.long q), .second, .val (.int b)] [(.long q)])) _
        refine XS.lconst X0.here hx rfl (hb hby d3_1) ?_
        show Steps p.tables e below (s₁.setTop (mkF m 2 #[.val (.long q), .second, .val (.int b)] [(.long (0 : Int64)), (.long q)])) _
        refine XS.lcmp X0.here hx rfl (hb hby d3_2) rfl ?_
        show Steps p.tables e below (s₁.setTop (mkF m 3 #[.val (.long q), .second, .val (.int b)] [(.int (lcmpW q (0 : Int64)))])) _
        refine XS.ifNo X0.here hx rfl (hb hby d3_3) rfl ((if0 _ _).trans (teq ((lw_eq _ _).mpr hv)).2) ?_
        show Steps p.tables e below (s₁.setTop (mkF m 6 #[.val (.long q), .second, .val (.int b)] [])) _
        refine XS.iloadN X0.here hx rfl (hb hby d3_6) rfl ?_
        show Steps p.tables e below (s₁.setTop (mkF m 7 #[.val (.long q), .second, .val (.int b)] [(.int b)])) _
        refine XS.ifNo X0.here hx rfl (hb hby d3_7) rfl ((if0 _ _).trans (feq hj).1) ?_
        exact Steps.refl _
      have c4 : Steps p.tables e below S0 (s₁.setTop (mkF m 13 #[.val (.long q), .second, .val (.int b)] [(.double (9223372036854775808 : UInt64))])) := by
        refine c3.trans ?_
        show Steps p.tables e below (s₁.setTop (mkF m 10 #[.val (.long q), .second, .val (.int b)] [])) _
        refine X0.ldc2DoubleC hx hown (mvT hZ (hw _ (List.mem_of_getElem? (i := 13) rfl))) (g := (mkF m 10 #[.val (.long q), .second, .val (.int b)] [])) rfl (hb hby d3_10) _ ?_
        exact Steps.refl _
      obtain ⟨fs, hr, hrun, hended, hW, hsame⟩ := X0.leave (v := some (.double (9223372036854775808 : UInt64))) (fun h => by rw [Bd.returns] at h; cases h)
      refine ⟨_, _, c4.trans ?_, hrun, hended, _, _, rfl, ?_, ⟨_, rfl⟩, hW, hsame.mono (by decide) (by decide)⟩
      · show Steps p.tables e below (s₁.setTop (mkF m 13 #[.val (.long q), .second, .val (.int b)] [(.double (9223372036854775808 : UInt64))])) _
        exact retD X0 hx Bd.returns (hb hby d3_13) hr
      · show Q3 Z q b h0 n0 _ s₁.heap _
        rw [e0]
        exact ⟨⟨_, rfl⟩, N0, rfl⟩
  · have c5 : Steps p.tables e below S0 (s₁.setTop (mkF m 14 #[.val (.long q), .second, .val (.int b)] [])) := by
      refine c0.trans ?_
      show Steps p.tables e below (s₁.setTop (mkF m 0 #[.val (.long q), .second, .val (.int b)] [])) _
      refine XS.lloadN X0.here hx rfl (hb hby d3_0) rfl ?_
      show Steps p.tables e below (s₁.setTop (mkF m 1 #[.val (.long q), .second, .val (.int b)] [(.long q)])) _
      refine XS.lconst X0.here hx rfl (hb hby d3_1) ?_
      show Steps p.tables e below (s₁.setTop (mkF m 2 #[.val (.long q), .second, .val (.int b)] [(.long (0 : Int64)), (.long q)])) _
      refine XS.lcmp X0.here hx rfl (hb hby d3_2) rfl ?_
      show Steps p.tables e below (s₁.setTop (mkF m 3 #[.val (.long q), .second, .val (.int b)] [(.int (lcmpW q (0 : Int64)))])) _
      refine XS.ifYes X0.here hx rfl (pc0 := 3) (pc' := 14) rfl (hb hby d3_3) rfl ((if0 _ _).trans (feq (fun z => hv ((lw_eq _ _).mp z))).2) (by decide) (by decide) ?_
      exact Steps.refl _
    have c6 : Steps p.tables e below S0 (s₁.setTop (mkF m 16 #[.val (.long q), .second, .val (.int b)] [(.double (FP.l2d q))])) := by
      refine c5.trans ?_
      show Steps p.tables e below (s₁.setTop (mkF m 14 #[.val (.long q), .second, .val (.int b)] [])) _
      refine XS.lloadN X0.here hx rfl (hb hby d3_14) rfl ?_
      show Steps p.tables e below (s₁.setTop (mkF m 15 #[.val (.long q), .second, .val (.int b)] [(.long q)])) _
      refine XS.l2dS X0.here hx rfl (v := (FP.l2d q)) (hb hby d3_15) rfl rfl ?_
      exact Steps.refl _
    obtain ⟨fs, hr, hrun, hended, hW, hsame⟩ := X0.leave (v := some (.double (FP.l2d q))) (fun h => by rw [Bd.returns] at h; cases h)
    refine ⟨_, _, c6.trans ?_, hrun, hended, _, _, rfl, ?_, ⟨_, rfl⟩, hW, hsame.mono (by decide) (by decide)⟩
    · show Steps p.tables e below (s₁.setTop (mkF m 16 #[.val (.long q), .second, .val (.int b)] [(.double (FP.l2d q))])) _
      exact retD X0 hx Bd.returns (hb hby d3_16) hr
    · show Q3 Z q b h0 n0 _ s₁.heap _
      rw [e0]
      exact ⟨⟨_, rfl⟩, N0, rfl⟩
def Q4 (Z : State) (a : Addr) (cl : Cell) (D : Int32 → UInt64) (f : Int32) (t : Int32) (i : Int32) (h0 : Heap) (n0 : Nat) (v : Option Value) (h : Heap) (L : List Loc) : Prop := v = some (.int (if f < i ∧ i < t ∧ ¬ (cmpValue (FP.dcmp (D i) (D f)) .l) = 0 then 1 else 0 : Int32)) ∧ Fr n0 L ∧ h = h0
theorem ef4 (m : MethodId) (a : Addr) (f : Int32) (t : Int32) (i : Int32) : entryFrame m #[(.ref a), (.int f), (.int t), (.int i)] 4 = mkF m 0 #[.val (.ref a), .val (.int f), .val (.int t), .val (.int i)] [] := by first | (simp [entryFrame, mkF, argsToLocals, Value.category, List.replicate]; done) | rfl
set_option maxRecDepth 65536 in
set_option maxHeartbeats 40000000 in
theorem rm4 (l : Launch) (Z : State) (a0 : Array Value) (hw : ∀ d ∈ tables_1, d.before a0 Z = true) (ws : List Jvm.Cond) (a : Addr) (cl : Cell) (D : Int32 → UInt64) (f : Int32) (t : Int32) (i : Int32) (h0 : Heap) (n0 : Nat) (Z0 : n0 ≤ h0.size) (Ar : Arr Z h0 a cl .double) (hsz : cl.slots.size = (5 : Int32).toNatClampNeg) (hD : ∀ j : Int32, ¬ j < 0 → j < 5 → cl.slots[j.toNatClampNeg]? = some (.double (D j))) (hf0 : ¬ f < 0) (hf5 : f < 5) (hi0 : ¬ i < 0) (hi5 : i < 5) :
    MetFree l (⟨"com/example/canvass/canvass/core/ScoreOrderEndOfTiePinLaw", "differs", "([DIII)Z"⟩ : MethodName) (head1 (Jvm.Cond.code (⟨"com/example/canvass/canvass/core/ScoreOrderEndOfTiePinLaw", "differs", "([DIII)Z"⟩ : MethodName) method_4_code 4 (some .boolean) :: ws) ({ frames := 0, cells := 0, slots := 0, locals := 0 } : Room)) (fun aa UU => aa = #[(.ref a), (.int f), (.int t), (.int i)] ∧ Z.Warmed39 UU.vm ∧ UU.heap = h0) (fun _ _ _ _ _ => True) (fun _ UU oo UT => ∃ vv LL, oo = .returned vv ∧ Q4 Z a cl D f t i h0 n0 vv UT.heap LL ∧ FrameEnd UU oo UT LL ({ frames := 0, cells := 0, slots := 0, locals := 0 } : Room).cells ({ frames := 0, cells := 0, slots := 0, locals := 0 } : Room).slots) := by
  refine MetFree.of_bodySF (plainFor_of_name pn0) hisR ?_
  intro p e s m args below meth c s₁ Bd hml0 hP hK
  obtain ⟨rfl, hZ, hh⟩ := hP
  have hx := Bd.exec
  have hby := Bd.bytes
  have hml : c.maxLocals = 4 := hml0
  have hown : s.vm.findClass "com/example/canvass/canvass/core/ScoreOrderEndOfTiePinLaw" = some m.cls := findClass_of_methodNamed Bd.named
  have hnm := (name_of_methodNamed Bd.named Bd.method).1
  have X0 : Stand p l e ({ frames := 0, cells := 0, slots := 0, locals := 0 } : Room) s m #[(.ref a), (.int f), (.int t), (.int i)] below meth c s₁ [] 0 0 := Stand.of_body Bd
  have e0 : s₁.heap = h0 := by rw [← hh, Bd.state]; rfl
  have N0 := Fr.nil n0
  have c0 : Steps p.tables e below (s₁.setTop (entryFrame m #[(.ref a), (.int f), (.int t), (.int i)] 4)) (s₁.setTop (mkF m 0 #[.val (.ref a), .val (.int f), .val (.int t), .val (.int i)] [])) := castTop (ef4 m a f t i) (Steps.refl _)
  show ∃ s₂ oo, Steps p.tables e below (s₁.setTop (entryFrame m #[(.ref a), (.int f), (.int t), (.int i)] 4)) s₂ ∧ _ ∧ _ ∧ _
  generalize s₁.setTop (entryFrame m #[(.ref a), (.int f), (.int t), (.int i)] 4) = S0 at c0 ⊢
  by_cases h1 : f < i
  · have c1 : Steps p.tables e below S0 (s₁.setTop (mkF m 5 #[.val (.ref a), .val (.int f), .val (.int t), .val (.int i)] [])) := by
      refine c0.trans ?_
      show Steps p.tables e below (s₁.setTop (mkF m 0 #[.val (.ref a), .val (.int f), .val (.int t), .val (.int i)] [])) _
      refine XS.iloadN X0.here hx rfl (hb hby d4_0) rfl ?_
      show Steps p.tables e below (s₁.setTop (mkF m 1 #[.val (.ref a), .val (.int f), .val (.int t), .val (.int i)] [(.int i)])) _
      refine XS.iloadN X0.here hx rfl (hb hby d4_1) rfl ?_
      show Steps p.tables e below (s₁.setTop (mkF m 2 #[.val (.ref a), .val (.int f), .val (.int t), .val (.int i)] [(.int f), (.int i)])) _
      refine XS.icmpNo X0.here hx rfl (hb hby d4_2) rfl (tlt h1).2.2.2 ?_
      exact Steps.refl _
    by_cases h2 : i < t
    · have c2 : Steps p.tables e below S0 (s₁.setTop (mkF m 10 #[.val (.ref a), .val (.int f), .val (.int t), .val (.int i)] [])) := by
        refine c1.trans ?_
        show Steps p.tables e below (s₁.setTop (mkF m 5 #[.val (.ref a), .val (.int f), .val (.int t), .val (.int i)] [])) _
        refine XS.iloadN X0.here hx rfl (hb hby d4_5) rfl ?_
        show Steps p.tables e below (s₁.setTop (mkF m 6 #[.val (.ref a), .val (.int f), .val (.int t), .val (.int i)] [(.int i)])) _
        refine XS.iloadN X0.here hx rfl (hb hby d4_6) rfl ?_
        show Steps p.tables e below (s₁.setTop (mkF m 7 #[.val (.ref a), .val (.int f), .val (.int t), .val (.int i)] [(.int t), (.int i)])) _
        refine XS.icmpNo X0.here hx rfl (hb hby d4_7) rfl (tlt h2).2.1 ?_
        exact Steps.refl _
      have c3 : Steps p.tables e below S0 (s₁.setTop (mkF m 12 #[.val (.ref a), .val (.int f), .val (.int t), .val (.int i)] [(.int i), (.ref a)])) := by
        refine c2.trans ?_
        show Steps p.tables e below (s₁.setTop (mkF m 10 #[.val (.ref a), .val (.int f), .val (.int t), .val (.int i)] [])) _
        refine XS.aloadN X0.here hx rfl (hb hby d4_10) rfl rfl ?_
        show Steps p.tables e below (s₁.setTop (mkF m 11 #[.val (.ref a), .val (.int f), .val (.int t), .val (.int i)] [(.ref a)])) _
        refine XS.iloadN X0.here hx rfl (hb hby d4_11) rfl ?_
        exact Steps.refl _
      have c4 : Steps p.tables e below S0 (s₁.setTop (mkF m 13 #[.val (.ref a), .val (.int f), .val (.int t), .val (.int i)] [(.double (D i))])) := by
        refine c3.trans ?_
        show Steps p.tables e below (s₁.setTop (mkF m 12 #[.val (.ref a), .val (.int f), .val (.int t), .val (.int i)] [(.int i), (.ref a)])) _
        refine X0.daload hx (j := i) (v := .double (D i)) (by rw [e0]; exact Ar.1) (State.isArrayOf_alike hZ.alike Ar.2.1) Ar.2.2 (inb_of hsz ⟨hi0, hi5⟩) (hD _ hi0 hi5) (g := (mkF m 12 #[.val (.ref a), .val (.int f), .val (.int t), .val (.int i)] [(.int i), (.ref a)])) rfl rfl (hb hby d4_12) _ ?_
        exact Steps.refl _
      have c5 : Steps p.tables e below S0 (s₁.setTop (mkF m 15 #[.val (.ref a), .val (.int f), .val (.int t), .val (.int i)] [(.int f), (.ref a), (.double (D i))])) := by
        refine c4.trans ?_
        show Steps p.tables e below (s₁.setTop (mkF m 13 #[.val (.ref a), .val (.int f), .val (.int t), .val (.int i)] [(.double (D i))])) _
        refine XS.aloadN X0.here hx rfl (hb hby d4_13) rfl rfl ?_
        show Steps p.tables e below (s₁.setTop (mkF m 14 #[.val (.ref a), .val (.int f), .val (.int t), .val (.int i)] [(.ref a), (.double (D i))])) _
        refine XS.iloadN X0.here hx rfl (hb hby d4_14) rfl ?_
        exact Steps.refl _
      have c6 : Steps p.tables e below S0 (s₁.setTop (mkF m 16 #[.val (.ref a), .val (.int f), .val (.int t), .val (.int i)] [(.double (D f)), (.double (D i))])) := by
        refine c5.trans ?_
        show Steps p.tables e below (s₁.setTop (mkF m 15 #[.val (.ref a), .val (.int f), .val (.int t), .val (.int i)] [(.int f), (.ref a), (.double (D i))])) _
        refine X0.daload hx (j := f) (v := .double (D f)) (by rw [e0]; exact Ar.1) (State.isArrayOf_alike hZ.alike Ar.2.1) Ar.2.2 (inb_of hsz ⟨hf0, hf5⟩) (hD _ hf0 hf5) (g := (mkF m 15 #[.val (.ref a), .val (.int f), .val (.int t), .val (.int i)] [(.int f), (.ref a), (.double (D i))])) rfl rfl (hb hby d4_15) _ ?_
        exact Steps.refl _
      have c7 : Steps p.tables e below S0 (s₁.setTop (mkF m 17 #[.val (.ref a), .val (.int f), .val (.int t), .val (.int i)] [(.int (cmpValue (FP.dcmp (D i) (D f)) .l))])) := by
        refine c6.trans ?_
        show Steps p.tables e below (s₁.setTop (mkF m 16 #[.val (.ref a), .val (.int f), .val (.int t), .val (.int i)] [(.double (D f)), (.double (D i))])) _
        refine XS.dcmpS X0.here hx rfl (v := (cmpValue (FP.dcmp (D i) (D f)) .l)) (hb hby d4_16) rfl rfl ?_
        exact Steps.refl _
      by_cases h3 : (cmpValue (FP.dcmp (D i) (D f)) .l) = 0
      · have c8 : Steps p.tables e below S0 (s₁.setTop (mkF m 24 #[.val (.ref a), .val (.int f), .val (.int t), .val (.int i)] [])) := by
          refine c7.trans ?_
          show Steps p.tables e below (s₁.setTop (mkF m 17 #[.val (.ref a), .val (.int f), .val (.int t), .val (.int i)] [(.int (cmpValue (FP.dcmp (D i) (D f)) .l))])) _
          refine XS.ifYes X0.here hx rfl (pc0 := 17) (pc' := 24) rfl (hb hby d4_17) rfl ((if0 _ _).trans (teq h3).1) (by decide) (by decide) ?_
          exact Steps.refl _
        have c9 : Steps p.tables e below S0 (s₁.setTop (mkF m 25 #[.val (.ref a), .val (.int f), .val (.int t), .val (.int i)] [(.int (0 : Int32))])) := by
          refine c8.trans ?_
          show Steps p.tables e below (s₁.setTop (mkF m 24 #[.val (.ref a), .val (.int f), .val (.int t), .val (.int i)] [])) _
          refine XS.iconst X0.here hx rfl (hb hby d4_24) ?_
          exact Steps.refl _
        obtain ⟨fs, hr, hrun, hended, hW, hsame⟩ := X0.leave (v := some (.int 0)) (fun h => by rw [Bd.returns] at h; cases h)
        refine ⟨_, _, c9.trans ?_, hrun, hended, _, _, rfl, ?_, ⟨_, rfl⟩, hW, hsame.mono (by decide) (by decide)⟩
        · show Steps p.tables e below (s₁.setTop (mkF m 25 #[.val (.ref a), .val (.int f), .val (.int t), .val (.int i)] [(.int (0 : Int32))])) _
          exact retN X0 hx (t := .boolean) Bd.returns (by simp) (hb hby d4_25) hr
        · show Q4 Z a cl D f t i h0 n0 _ s₁.heap _
          rw [e0]
          exact ⟨by rw [if_neg (fun q => q.2.2 h3)], N0, rfl⟩
      · have c10 : Steps p.tables e below S0 (s₁.setTop (mkF m 25 #[.val (.ref a), .val (.int f), .val (.int t), .val (.int i)] [(.int (1 : Int32))])) := by
          refine c7.trans ?_
          show Steps p.tables e below (s₁.setTop (mkF m 17 #[.val (.ref a), .val (.int f), .val (.int t), .val (.int i)] [(.int (cmpValue (FP.dcmp (D i) (D f)) .l))])) _
          refine XS.ifNo X0.here hx rfl (hb hby d4_17) rfl ((if0 _ _).trans (feq h3).1) ?_
          show Steps p.tables e below (s₁.setTop (mkF m 20 #[.val (.ref a), .val (.int f), .val (.int t), .val (.int i)] [])) _
          refine XS.iconst X0.here hx rfl (hb hby d4_20) ?_
          show Steps p.tables e below (s₁.setTop (mkF m 21 #[.val (.ref a), .val (.int f), .val (.int t), .val (.int i)] [(.int (1 : Int32))])) _
          refine XS.goto X0.here hx rfl (pc0 := 21) (pc' := 25) rfl (hb hby d4_21) (by decide) (by decide) ?_
          exact Steps.refl _
        obtain ⟨fs, hr, hrun, hended, hW, hsame⟩ := X0.leave (v := some (.int 1)) (fun h => by rw [Bd.returns] at h; cases h)
        refine ⟨_, _, c10.trans ?_, hrun, hended, _, _, rfl, ?_, ⟨_, rfl⟩, hW, hsame.mono (by decide) (by decide)⟩
        · show Steps p.tables e below (s₁.setTop (mkF m 25 #[.val (.ref a), .val (.int f), .val (.int t), .val (.int i)] [(.int (1 : Int32))])) _
          exact retN X0 hx (t := .boolean) Bd.returns (by simp) (hb hby d4_25) hr
        · show Q4 Z a cl D f t i h0 n0 _ s₁.heap _
          rw [e0]
          exact ⟨by rw [if_pos ⟨h1, h2, h3⟩], N0, rfl⟩
    · have c11 : Steps p.tables e below S0 (s₁.setTop (mkF m 24 #[.val (.ref a), .val (.int f), .val (.int t), .val (.int i)] [])) := by
        refine c1.trans ?_
        show Steps p.tables e below (s₁.setTop (mkF m 5 #[.val (.ref a), .val (.int f), .val (.int t), .val (.int i)] [])) _
        refine XS.iloadN X0.here hx rfl (hb hby d4_5) rfl ?_
        show Steps p.tables e below (s₁.setTop (mkF m 6 #[.val (.ref a), .val (.int f), .val (.int t), .val (.int i)] [(.int i)])) _
        refine XS.iloadN X0.here hx rfl (hb hby d4_6) rfl ?_
        show Steps p.tables e below (s₁.setTop (mkF m 7 #[.val (.ref a), .val (.int f), .val (.int t), .val (.int i)] [(.int t), (.int i)])) _
        refine XS.icmpYes X0.here hx rfl (pc0 := 7) (pc' := 24) rfl (hb hby d4_7) rfl (flt h2).2.1 (by decide) (by decide) ?_
        exact Steps.refl _
      have c12 : Steps p.tables e below S0 (s₁.setTop (mkF m 25 #[.val (.ref a), .val (.int f), .val (.int t), .val (.int i)] [(.int (0 : Int32))])) := by
        refine c11.trans ?_
        show Steps p.tables e below (s₁.setTop (mkF m 24 #[.val (.ref a), .val (.int f), .val (.int t), .val (.int i)] [])) _
        refine XS.iconst X0.here hx rfl (hb hby d4_24) ?_
        exact Steps.refl _
      obtain ⟨fs, hr, hrun, hended, hW, hsame⟩ := X0.leave (v := some (.int 0)) (fun h => by rw [Bd.returns] at h; cases h)
      refine ⟨_, _, c12.trans ?_, hrun, hended, _, _, rfl, ?_, ⟨_, rfl⟩, hW, hsame.mono (by decide) (by decide)⟩
      · show Steps p.tables e below (s₁.setTop (mkF m 25 #[.val (.ref a), .val (.int f), .val (.int t), .val (.int i)] [(.int (0 : Int32))])) _
        exact retN X0 hx (t := .boolean) Bd.returns (by simp) (hb hby d4_25) hr
      · show Q4 Z a cl D f t i h0 n0 _ s₁.heap _
        rw [e0]
        exact ⟨by rw [if_neg (fun q => h2 q.2.1)], N0, rfl⟩
  · have c13 : Steps p.tables e below S0 (s₁.setTop (mkF m 24 #[.val (.ref a), .val (.int f), .val (.int t), .val (.int i)] [])) := by
      refine c0.trans ?_
      show Steps p.tables e below (s₁.setTop (mkF m 0 #[.val (.ref a), .val (.int f), .val (.int t), .val (.int i)] [])) _
      refine XS.iloadN X0.here hx rfl (hb hby d4_0) rfl ?_
      show Steps p.tables e below (s₁.setTop (mkF m 1 #[.val (.ref a), .val (.int f), .val (.int t), .val (.int i)] [(.int i)])) _
      refine XS.iloadN X0.here hx rfl (hb hby d4_1) rfl ?_
      show Steps p.tables e below (s₁.setTop (mkF m 2 #[.val (.ref a), .val (.int f), .val (.int t), .val (.int i)] [(.int f), (.int i)])) _
      refine XS.icmpYes X0.here hx rfl (pc0 := 2) (pc' := 24) rfl (hb hby d4_2) rfl (flt h1).2.2.2 (by decide) (by decide) ?_
      exact Steps.refl _
    have c14 : Steps p.tables e below S0 (s₁.setTop (mkF m 25 #[.val (.ref a), .val (.int f), .val (.int t), .val (.int i)] [(.int (0 : Int32))])) := by
      refine c13.trans ?_
      show Steps p.tables e below (s₁.setTop (mkF m 24 #[.val (.ref a), .val (.int f), .val (.int t), .val (.int i)] [])) _
      refine XS.iconst X0.here hx rfl (hb hby d4_24) ?_
      exact Steps.refl _
    obtain ⟨fs, hr, hrun, hended, hW, hsame⟩ := X0.leave (v := some (.int 0)) (fun h => by rw [Bd.returns] at h; cases h)
    refine ⟨_, _, c14.trans ?_, hrun, hended, _, _, rfl, ?_, ⟨_, rfl⟩, hW, hsame.mono (by decide) (by decide)⟩
    · show Steps p.tables e below (s₁.setTop (mkF m 25 #[.val (.ref a), .val (.int f), .val (.int t), .val (.int i)] [(.int (0 : Int32))])) _
      exact retN X0 hx (t := .boolean) Bd.returns (by simp) (hb hby d4_25) hr
    · show Q4 Z a cl D f t i h0 n0 _ s₁.heap _
      rw [e0]
      exact ⟨by rw [if_neg (fun q => h1 q.1)], N0, rfl⟩
def Q29 (Z : State) (a : Addr) (cl : Cell) (D : Int32 → UInt64) (f : Int32) (t : Int32) (h0 : Heap) (n0 : Nat) (v : Option Value) (h : Heap) (L : List Loc) : Prop := v = some (.int (own_eot (fun k => decide (cmpValue (FP.dcmp (D k) (D f)) .l = 0)) t 5 (f + 1))) ∧ Fr n0 L ∧ h = h0
theorem ef29 (m : MethodId) (a : Addr) (f : Int32) (t : Int32) : entryFrame m #[(.ref a), (.int f), (.int t)] 4 = mkF m 0 #[.val (.ref a), .val (.int f), .val (.int t), .unset] [] := by first | (simp [entryFrame, mkF, argsToLocals, Value.category, List.replicate]; done) | rfl
set_option maxRecDepth 65536 in
set_option maxHeartbeats 40000000 in
theorem rm29 (l : Launch) (Z : State) (a0 : Array Value) (hw : ∀ d ∈ tables_1, d.before a0 Z = true) (ws : List Jvm.Cond) (a : Addr) (cl : Cell) (D : Int32 → UInt64) (f : Int32) (t : Int32) (h0 : Heap) (n0 : Nat) (Z0 : n0 ≤ h0.size) (Ar : Arr Z h0 a cl .double) (hsz : cl.slots.size = (5 : Int32).toNatClampNeg) (hD : ∀ j : Int32, ¬ j < 0 → j < 5 → cl.slots[j.toNatClampNeg]? = some (.double (D j))) (hf0 : ¬ f < 0) (hf5 : f < 5) (ht5 : ¬ 5 < t) :
    MetFree l (⟨"com/example/canvass/canvass/core/ScoreOrder", "endOfTie", "([DII)I"⟩ : MethodName) (head1 (Jvm.Cond.code (⟨"com/example/canvass/canvass/core/ScoreOrder", "endOfTie", "([DII)I"⟩ : MethodName) prog_29_method_4_code 4 (some .int) :: ws) ({ frames := 0, cells := 0, slots := 0, locals := 0 } : Room)) (fun aa UU => aa = #[(.ref a), (.int f), (.int t)] ∧ Z.Warmed39 UU.vm ∧ UU.heap = h0) (fun _ _ _ _ _ => True) (fun _ UU oo UT => ∃ vv LL, oo = .returned vv ∧ Q29 Z a cl D f t h0 n0 vv UT.heap LL ∧ FrameEnd UU oo UT LL ({ frames := 0, cells := 0, slots := 0, locals := 0 } : Room).cells ({ frames := 0, cells := 0, slots := 0, locals := 0 } : Room).slots) := by
  refine MetFree.of_bodySF (plainFor_of_name pn1) hisR ?_
  intro p e s m args below meth c s₁ Bd hml0 hP hK
  obtain ⟨rfl, hZ, hh⟩ := hP
  have hx := Bd.exec
  have hby := Bd.bytes
  have hml : c.maxLocals = 4 := hml0
  have hown : s.vm.findClass "com/example/canvass/canvass/core/ScoreOrder" = some m.cls := findClass_of_methodNamed Bd.named
  have hnm := (name_of_methodNamed Bd.named Bd.method).1
  have X0 : Stand p l e ({ frames := 0, cells := 0, slots := 0, locals := 0 } : Room) s m #[(.ref a), (.int f), (.int t)] below meth c s₁ [] 0 0 := Stand.of_body Bd
  have e0 : s₁.heap = h0 := by rw [← hh, Bd.state]; rfl
  have N0 := Fr.nil n0
  have c0 : Steps p.tables e below (s₁.setTop (entryFrame m #[(.ref a), (.int f), (.int t)] 4)) (s₁.setTop (mkF m 0 #[.val (.ref a), .val (.int f), .val (.int t), .unset] [])) := castTop (ef29 m a f t) (Steps.refl _)
  show ∃ s₂ oo, Steps p.tables e below (s₁.setTop (entryFrame m #[(.ref a), (.int f), (.int t)] 4)) s₂ ∧ _ ∧ _ ∧ _
  generalize s₁.setTop (entryFrame m #[(.ref a), (.int f), (.int t)] 4) = S0 at c0 ⊢
  have c1 : Steps p.tables e below S0 (s₁.setTop (mkF m 4 #[.val (.ref a), .val (.int f), .val (.int t), .val (.int (f + (1 : Int32)))] [])) := by
    refine c0.trans ?_
    show Steps p.tables e below (s₁.setTop (mkF m 0 #[.val (.ref a), .val (.int f), .val (.int t), .unset] [])) _
    refine XS.iloadN X0.here hx rfl (hb hby d29_0) rfl ?_
    show Steps p.tables e below (s₁.setTop (mkF m 1 #[.val (.ref a), .val (.int f), .val (.int t), .unset] [(.int f)])) _
    refine XS.iconst X0.here hx rfl (hb hby d29_1) ?_
    show Steps p.tables e below (s₁.setTop (mkF m 2 #[.val (.ref a), .val (.int f), .val (.int t), .unset] [(.int (1 : Int32)), (.int f)])) _
    refine XS.iadd X0.here hx rfl (hb hby d29_2) rfl ?_
    show Steps p.tables e below (s₁.setTop (mkF m 3 #[.val (.ref a), .val (.int f), .val (.int t), .unset] [(.int (f + (1 : Int32)))])) _
    refine XS.istoreN X0.here hx rfl (hb hby d29_3) rfl (l' := #[.val (.ref a), .val (.int f), .val (.int t), .val (.int (f + (1 : Int32)))]) rfl ?_
    exact Steps.refl _
  have loop : ∀ (n : Nat) (x : Int32), ¬ x < 0 → (t.toInt - x.toInt).toNat ≤ n → Steps p.tables e below (s₁.setTop (mkF m 4 #[.val (.ref a), .val (.int f), .val (.int t), .val (.int x)] [])) (s₁.setTop (mkF m 25 #[.val (.ref a), .val (.int f), .val (.int t), .val (.int (own_eot (fun k => decide (cmpValue (FP.dcmp (D k) (D f)) .l = 0)) t n x))] [])) := by
    intro n
    induction n with
    | zero =>
      intro x hx0 hn
      have c2 : Steps p.tables e below (s₁.setTop (mkF m 4 #[.val (.ref a), .val (.int f), .val (.int t), .val (.int x)] [])) (s₁.setTop (mkF m 25 #[.val (.ref a), .val (.int f), .val (.int t), .val (.int x)] [])) := by
        refine (Steps.refl _).trans ?_
        show Steps p.tables e below (s₁.setTop (mkF m 4 #[.val (.ref a), .val (.int f), .val (.int t), .val (.int x)] [])) _
        refine XS.iloadN X0.here hx rfl (hb hby d29_4) rfl ?_
        show Steps p.tables e below (s₁.setTop (mkF m 5 #[.val (.ref a), .val (.int f), .val (.int t), .val (.int x)] [(.int x)])) _
        refine XS.iloadN X0.here hx rfl (hb hby d29_5) rfl ?_
        show Steps p.tables e below (s₁.setTop (mkF m 6 #[.val (.ref a), .val (.int f), .val (.int t), .val (.int x)] [(.int t), (.int x)])) _
        refine XS.icmpYes X0.here hx rfl (pc0 := 6) (pc' := 25) rfl (hb hby d29_6) rfl (flt (own_nlt hn)).2.1 (by decide) (by decide) ?_
        exact Steps.refl _
      exact c2
    | succ n ih =>
      intro x hx0 hn
      by_cases h1 : x < t
      · have c3 : Steps p.tables e below (s₁.setTop (mkF m 4 #[.val (.ref a), .val (.int f), .val (.int t), .val (.int x)] [])) (s₁.setTop (mkF m 9 #[.val (.ref a), .val (.int f), .val (.int t), .val (.int x)] [])) := by
          refine (Steps.refl _).trans ?_
          show Steps p.tables e below (s₁.setTop (mkF m 4 #[.val (.ref a), .val (.int f), .val (.int t), .val (.int x)] [])) _
          refine XS.iloadN X0.here hx rfl (hb hby d29_4) rfl ?_
          show Steps p.tables e below (s₁.setTop (mkF m 5 #[.val (.ref a), .val (.int f), .val (.int t), .val (.int x)] [(.int x)])) _
          refine XS.iloadN X0.here hx rfl (hb hby d29_5) rfl ?_
          show Steps p.tables e below (s₁.setTop (mkF m 6 #[.val (.ref a), .val (.int f), .val (.int t), .val (.int x)] [(.int t), (.int x)])) _
          refine XS.icmpNo X0.here hx rfl (hb hby d29_6) rfl (tlt h1).2.1 ?_
          exact Steps.refl _
        have hx5 : x < 5 := own_lt5 h1 ht5
        have c4 : Steps p.tables e below (s₁.setTop (mkF m 4 #[.val (.ref a), .val (.int f), .val (.int t), .val (.int x)] [])) (s₁.setTop (mkF m 11 #[.val (.ref a), .val (.int f), .val (.int t), .val (.int x)] [(.int x), (.ref a)])) := by
          refine c3.trans ?_
          show Steps p.tables e below (s₁.setTop (mkF m 9 #[.val (.ref a), .val (.int f), .val (.int t), .val (.int x)] [])) _
          refine XS.aloadN X0.here hx rfl (hb hby d29_9) rfl rfl ?_
          show Steps p.tables e below (s₁.setTop (mkF m 10 #[.val (.ref a), .val (.int f), .val (.int t), .val (.int x)] [(.ref a)])) _
          refine XS.iloadN X0.here hx rfl (hb hby d29_10) rfl ?_
          exact Steps.refl _
        have c5 : Steps p.tables e below (s₁.setTop (mkF m 4 #[.val (.ref a), .val (.int f), .val (.int t), .val (.int x)] [])) (s₁.setTop (mkF m 12 #[.val (.ref a), .val (.int f), .val (.int t), .val (.int x)] [(.double (D x))])) := by
          refine c4.trans ?_
          show Steps p.tables e below (s₁.setTop (mkF m 11 #[.val (.ref a), .val (.int f), .val (.int t), .val (.int x)] [(.int x), (.ref a)])) _
          refine X0.daload hx (j := x) (v := .double (D x)) (by rw [e0]; exact Ar.1) (State.isArrayOf_alike hZ.alike Ar.2.1) Ar.2.2 (inb_of hsz ⟨hx0, hx5⟩) (hD _ hx0 hx5) (g := (mkF m 11 #[.val (.ref a), .val (.int f), .val (.int t), .val (.int x)] [(.int x), (.ref a)])) rfl rfl (hb hby d29_11) _ ?_
          exact Steps.refl _
        have c6 : Steps p.tables e below (s₁.setTop (mkF m 4 #[.val (.ref a), .val (.int f), .val (.int t), .val (.int x)] [])) (s₁.setTop (mkF m 14 #[.val (.ref a), .val (.int f), .val (.int t), .val (.int x)] [(.int f), (.ref a), (.double (D x))])) := by
          refine c5.trans ?_
          show Steps p.tables e below (s₁.setTop (mkF m 12 #[.val (.ref a), .val (.int f), .val (.int t), .val (.int x)] [(.double (D x))])) _
          refine XS.aloadN X0.here hx rfl (hb hby d29_12) rfl rfl ?_
          show Steps p.tables e below (s₁.setTop (mkF m 13 #[.val (.ref a), .val (.int f), .val (.int t), .val (.int x)] [(.ref a), (.double (D x))])) _
          refine XS.iloadN X0.here hx rfl (hb hby d29_13) rfl ?_
          exact Steps.refl _
        have c7 : Steps p.tables e below (s₁.setTop (mkF m 4 #[.val (.ref a), .val (.int f), .val (.int t), .val (.int x)] [])) (s₁.setTop (mkF m 15 #[.val (.ref a), .val (.int f), .val (.int t), .val (.int x)] [(.double (D f)), (.double (D x))])) := by
          refine c6.trans ?_
          show Steps p.tables e below (s₁.setTop (mkF m 14 #[.val (.ref a), .val (.int f), .val (.int t), .val (.int x)] [(.int f), (.ref a), (.double (D x))])) _
          refine X0.daload hx (j := f) (v := .double (D f)) (by rw [e0]; exact Ar.1) (State.isArrayOf_alike hZ.alike Ar.2.1) Ar.2.2 (inb_of hsz ⟨hf0, hf5⟩) (hD _ hf0 hf5) (g := (mkF m 14 #[.val (.ref a), .val (.int f), .val (.int t), .val (.int x)] [(.int f), (.ref a), (.double (D x))])) rfl rfl (hb hby d29_14) _ ?_
          exact Steps.refl _
        have c8 : Steps p.tables e below (s₁.setTop (mkF m 4 #[.val (.ref a), .val (.int f), .val (.int t), .val (.int x)] [])) (s₁.setTop (mkF m 16 #[.val (.ref a), .val (.int f), .val (.int t), .val (.int x)] [(.int (cmpValue (FP.dcmp (D x) (D f)) .l))])) := by
          refine c7.trans ?_
          show Steps p.tables e below (s₁.setTop (mkF m 15 #[.val (.ref a), .val (.int f), .val (.int t), .val (.int x)] [(.double (D f)), (.double (D x))])) _
          refine XS.dcmpS X0.here hx rfl (v := (cmpValue (FP.dcmp (D x) (D f)) .l)) (hb hby d29_15) rfl rfl ?_
          exact Steps.refl _
        by_cases h3 : cmpValue (FP.dcmp (D x) (D f)) .l = 0
        · have c9 : Steps p.tables e below (s₁.setTop (mkF m 4 #[.val (.ref a), .val (.int f), .val (.int t), .val (.int x)] [])) (s₁.setTop (mkF m 4 #[.val (.ref a), .val (.int f), .val (.int t), .val (.int (x + (1 : Int32)))] [])) := by
            refine c8.trans ?_
            show Steps p.tables e below (s₁.setTop (mkF m 16 #[.val (.ref a), .val (.int f), .val (.int t), .val (.int x)] [(.int (cmpValue (FP.dcmp (D x) (D f)) .l))])) _
            refine XS.ifNo X0.here hx rfl (hb hby d29_16) rfl ((if0 _ _).trans (teq h3).2) ?_
            show Steps p.tables e below (s₁.setTop (mkF m 19 #[.val (.ref a), .val (.int f), .val (.int t), .val (.int x)] [])) _
            refine XS.iinc X0.here hx rfl (hb hby d29_19) rfl (l' := #[.val (.ref a), .val (.int f), .val (.int t), .val (.int (x + (1 : Int32)))]) rfl ?_
            show Steps p.tables e below (s₁.setTop (mkF m 22 #[.val (.ref a), .val (.int f), .val (.int t), .val (.int (x + (1 : Int32)))] [])) _
            refine XS.goto X0.here hx rfl (pc0 := 22) (pc' := 4) rfl (hb hby d29_22) (by decide) (by decide) ?_
            exact Steps.refl _
          rw [own_eot, if_pos ⟨h1, decide_eq_true h3⟩]
          exact c9.trans (ih (x + 1) (own_nn hx0 hx5) (own_dec hx0 hx5 h1 hn))
        · have c10 : Steps p.tables e below (s₁.setTop (mkF m 4 #[.val (.ref a), .val (.int f), .val (.int t), .val (.int x)] [])) (s₁.setTop (mkF m 25 #[.val (.ref a), .val (.int f), .val (.int t), .val (.int x)] [])) := by
            refine c8.trans ?_
            show Steps p.tables e below (s₁.setTop (mkF m 16 #[.val (.ref a), .val (.int f), .val (.int t), .val (.int x)] [(.int (cmpValue (FP.dcmp (D x) (D f)) .l))])) _
            refine XS.ifYes X0.here hx rfl (pc0 := 16) (pc' := 25) rfl (hb hby d29_16) rfl ((if0 _ _).trans (feq h3).2) (by decide) (by decide) ?_
            exact Steps.refl _
          rw [own_eot, if_neg (fun q => h3 (of_decide_eq_true q.2))]
          exact c10
      · have c11 : Steps p.tables e below (s₁.setTop (mkF m 4 #[.val (.ref a), .val (.int f), .val (.int t), .val (.int x)] [])) (s₁.setTop (mkF m 25 #[.val (.ref a), .val (.int f), .val (.int t), .val (.int x)] [])) := by
          refine (Steps.refl _).trans ?_
          show Steps p.tables e below (s₁.setTop (mkF m 4 #[.val (.ref a), .val (.int f), .val (.int t), .val (.int x)] [])) _
          refine XS.iloadN X0.here hx rfl (hb hby d29_4) rfl ?_
          show Steps p.tables e below (s₁.setTop (mkF m 5 #[.val (.ref a), .val (.int f), .val (.int t), .val (.int x)] [(.int x)])) _
          refine XS.iloadN X0.here hx rfl (hb hby d29_5) rfl ?_
          show Steps p.tables e below (s₁.setTop (mkF m 6 #[.val (.ref a), .val (.int f), .val (.int t), .val (.int x)] [(.int t), (.int x)])) _
          refine XS.icmpYes X0.here hx rfl (pc0 := 6) (pc' := 25) rfl (hb hby d29_6) rfl (flt h1).2.1 (by decide) (by decide) ?_
          exact Steps.refl _
        rw [own_eot, if_neg (fun q => h1 q.1)]
        exact c11
  have c12 : Steps p.tables e below S0 (s₁.setTop (mkF m 25 #[.val (.ref a), .val (.int f), .val (.int t), .val (.int (own_eot (fun k => decide (cmpValue (FP.dcmp (D k) (D f)) .l = 0)) t 5 (f + (1 : Int32))))] [])) := c1.trans (loop 5 (f + 1) (own_nn hf0 hf5) (own_fuel hf0 hf5 ht5))
  have c13 : Steps p.tables e below S0 (s₁.setTop (mkF m 26 #[.val (.ref a), .val (.int f), .val (.int t), .val (.int (own_eot (fun k => decide (cmpValue (FP.dcmp (D k) (D f)) .l = 0)) t 5 (f + (1 : Int32))))] [(.int (own_eot (fun k => decide (cmpValue (FP.dcmp (D k) (D f)) .l = 0)) t 5 (f + (1 : Int32))))])) := by
    refine c12.trans ?_
    show Steps p.tables e below (s₁.setTop (mkF m 25 #[.val (.ref a), .val (.int f), .val (.int t), .val (.int (own_eot (fun k => decide (cmpValue (FP.dcmp (D k) (D f)) .l = 0)) t 5 (f + (1 : Int32))))] [])) _
    refine XS.iloadN X0.here hx rfl (hb hby d29_25) rfl ?_
    exact Steps.refl _
  obtain ⟨fs, hr, hrun, hended, hW, hsame⟩ := X0.leave (v := some (.int (own_eot (fun k => decide (cmpValue (FP.dcmp (D k) (D f)) .l = 0)) t 5 (f + (1 : Int32))))) (fun h => by rw [Bd.returns] at h; cases h)
  refine ⟨_, _, c13.trans ?_, hrun, hended, _, _, rfl, ?_, ⟨_, rfl⟩, hW, hsame.mono (by decide) (by decide)⟩
  · show Steps p.tables e below (s₁.setTop (mkF m 26 #[.val (.ref a), .val (.int f), .val (.int t), .val (.int (own_eot (fun k => decide (cmpValue (FP.dcmp (D k) (D f)) .l = 0)) t 5 (f + (1 : Int32))))] [(.int (own_eot (fun k => decide (cmpValue (FP.dcmp (D k) (D f)) .l = 0)) t 5 (f + (1 : Int32))))])) _
    exact retI X0 hx Bd.returns (hb hby d29_26) hr
  · show Q29 Z a cl D f t h0 n0 _ s₁.heap _
    rw [e0]
    exact ⟨rfl, N0, rfl⟩
def Q0 (Z : State) (i0 : Int32) (i1 : Int32) (i2 : Int32) (i3 : Int32) (i4 : Int32) (h0 : Heap) (n0 : Nat) (v : Option Value) (h : Heap) (L : List Loc) : Prop := v = some (.int 1) ∧ Fr n0 L
theorem ef0 (m : MethodId) (i0 : Int32) (i1 : Int32) (i2 : Int32) (i3 : Int32) (i4 : Int32) : entryFrame m #[(.int i0), (.int i1), (.int i2), (.int i3), (.int i4)] maxLocals = mkF m 0 #[.val (.int i0), .val (.int i1), .val (.int i2), .val (.int i3), .val (.int i4), .unset, .unset, .unset, .unset, .unset, .unset, .unset, .unset, .unset, .unset, .unset, .unset, .unset, .unset, .unset, .unset] [] := by first | (simp [entryFrame, mkF, argsToLocals, Value.category, maxLocals]; done) | rfl
set_option maxRecDepth 65536 in
set_option maxHeartbeats 40000000 in
theorem rm0 (l : Launch) (Z : State) (a0 : Array Value) (hw : ∀ d ∈ tables_1, d.before a0 Z = true) (ws : List Jvm.Cond) (i0 : Int32) (i1 : Int32) (i2 : Int32) (i3 : Int32) (i4 : Int32) (h0 : Heap) (n0 : Nat) (Z0 : n0 ≤ h0.size)  :
    MetFree l x (head1 (Jvm.Cond.code x code maxLocals ret :: ws) room_1) (fun aa UU => aa = #[(.int i0), (.int i1), (.int i2), (.int i3), (.int i4)] ∧ Z.Warmed39 UU.vm ∧ UU.heap = h0) (fun _ _ _ _ _ => True) (fun _ UU oo UT => ∃ vv LL, oo = .returned vv ∧ Q0 Z i0 i1 i2 i3 i4 h0 n0 vv UT.heap LL ∧ FrameEnd UU oo UT LL 1 5) := by
  refine MetFree.of_bodySF (plainFor_of_name pn0) hisR ?_
  intro p e s m args below meth c s₁ Bd hml0 hP hK
  obtain ⟨rfl, hZ, hh⟩ := hP
  have hx := Bd.exec
  have hby := Bd.bytes
  have hml : c.maxLocals = 21 := hml0
  have hown : s.vm.findClass "com/example/canvass/canvass/core/ScoreOrderEndOfTiePinLaw" = some m.cls := findClass_of_methodNamed Bd.named
  have hnm := (name_of_methodNamed Bd.named Bd.method).1
  have X0 : Stand p l e room_1 s m #[(.int i0), (.int i1), (.int i2), (.int i3), (.int i4)] below meth c s₁ [] 0 0 := Stand.of_body Bd
  have e0 : s₁.heap = h0 := by rw [← hh, Bd.state]; rfl
  have N0 := Fr.nil n0
  have c0 : Steps p.tables e below (s₁.setTop (entryFrame m #[(.int i0), (.int i1), (.int i2), (.int i3), (.int i4)] maxLocals)) (s₁.setTop (mkF m 0 #[.val (.int i0), .val (.int i1), .val (.int i2), .val (.int i3), .val (.int i4), .unset, .unset, .unset, .unset, .unset, .unset, .unset, .unset, .unset, .unset, .unset, .unset, .unset, .unset, .unset, .unset] [])) := castTop (ef0 m i0 i1 i2 i3 i4) (Steps.refl _)
  show ∃ s₂ oo, Steps p.tables e below (s₁.setTop (entryFrame m #[(.int i0), (.int i1), (.int i2), (.int i3), (.int i4)] maxLocals)) s₂ ∧ _ ∧ _ ∧ _
  generalize s₁.setTop (entryFrame m #[(.int i0), (.int i1), (.int i2), (.int i3), (.int i4)] maxLocals) = S0 at c0 ⊢
  have c1 : Steps p.tables e below S0 (s₁.setTop (mkF m 4 #[.val (.int i0), .val (.int i1), .val (.int i2), .val (.int i3), .val (.int i4), .unset, .unset, .unset, .unset, .unset, .unset, .unset, .unset, .unset, .unset, .unset, .unset, .unset, .unset, .unset, .unset] [(.int (i4 &&& (2 : Int32)))])) := by
    refine c0.trans ?_
    show Steps p.tables e below (s₁.setTop (mkF m 0 #[.val (.int i0), .val (.int i1), .val (.int i2), .val (.int i3), .val (.int i4), .unset, .unset, .unset, .unset, .unset, .unset, .unset, .unset, .unset, .unset, .unset, .unset, .unset, .unset, .unset, .unset] [])) _
    refine XS.iload X0.here hx rfl (hb hby at_0) rfl ?_
    show Steps p.tables e below (s₁.setTop (mkF m 2 #[.val (.int i0), .val (.int i1), .val (.int i2), .val (.int i3), .val (.int i4), .unset, .unset, .unset, .unset, .unset, .unset, .unset, .unset, .unset, .unset, .unset, .unset, .unset, .unset, .unset, .unset] [(.int i4)])) _
    refine XS.iconst X0.here hx rfl (hb hby at_2) ?_
    show Steps p.tables e below (s₁.setTop (mkF m 3 #[.val (.int i0), .val (.int i1), .val (.int i2), .val (.int i3), .val (.int i4), .unset, .unset, .unset, .unset, .unset, .unset, .unset, .unset, .unset, .unset, .unset, .unset, .unset, .unset, .unset, .unset] [(.int (2 : Int32)), (.int i4)])) _
    refine XS.iand X0.here hx rfl (hb hby at_3) rfl ?_
    exact Steps.refl _
  have c2 : Steps p.tables e below S0 (s₁.setTop (mkF m 16 #[.val (.int i0), .val (.int i1), .val (.int i2), .val (.int i3), .val (.int i4), .unset, .unset, .unset, .unset, .unset, .unset, .unset, .unset, .unset, .unset, .unset, .unset, .unset, .unset, .unset, .unset] [(.long (if (i4 &&& (2 : Int32)) = 0 then (i0.toInt64) else ((i0 &&& (3 : Int32)).toInt64)))])) := by
    refine c1.trans ?_
    by_cases hj : (i4 &&& (2 : Int32)) = 0
    · rw [if_pos hj]
      show Steps p.tables e below (s₁.setTop (mkF m 4 #[.val (.int i0), .val (.int i1), .val (.int i2), .val (.int i3), .val (.int i4), .unset, .unset, .unset, .unset, .unset, .unset, .unset, .unset, .unset, .unset, .unset, .unset, .unset, .unset, .unset, .unset] [(.int (i4 &&& (2 : Int32)))])) _
      refine XS.ifYes X0.here hx rfl (pc0 := 4) (pc' := 14) rfl (hb hby at_4) rfl ((if0 _ _).trans (teq hj).1) (by decide) (by decide) ?_
      show Steps p.tables e below (s₁.setTop (mkF m 14 #[.val (.int i0), .val (.int i1), .val (.int i2), .val (.int i3), .val (.int i4), .unset, .unset, .unset, .unset, .unset, .unset, .unset, .unset, .unset, .unset, .unset, .unset, .unset, .unset, .unset, .unset] [])) _
      refine XS.iloadN X0.here hx rfl (hb hby at_14) rfl ?_
      show Steps p.tables e below (s₁.setTop (mkF m 15 #[.val (.int i0), .val (.int i1), .val (.int i2), .val (.int i3), .val (.int i4), .unset, .unset, .unset, .unset, .unset, .unset, .unset, .unset, .unset, .unset, .unset, .unset, .unset, .unset, .unset, .unset] [(.int i0)])) _
      refine XS.i2l X0.here hx rfl (hb hby at_15) rfl ?_
      exact Steps.refl _
    · rw [if_neg hj]
      show Steps p.tables e below (s₁.setTop (mkF m 4 #[.val (.int i0), .val (.int i1), .val (.int i2), .val (.int i3), .val (.int i4), .unset, .unset, .unset, .unset, .unset, .unset, .unset, .unset, .unset, .unset, .unset, .unset, .unset, .unset, .unset, .unset] [(.int (i4 &&& (2 : Int32)))])) _
      refine XS.ifNo X0.here hx rfl (hb hby at_4) rfl ((if0 _ _).trans (feq hj).1) ?_
      show Steps p.tables e below (s₁.setTop (mkF m 7 #[.val (.int i0), .val (.int i1), .val (.int i2), .val (.int i3), .val (.int i4), .unset, .unset, .unset, .unset, .unset, .unset, .unset, .unset, .unset, .unset, .unset, .unset, .unset, .unset, .unset, .unset] [])) _
      refine XS.iloadN X0.here hx rfl (hb hby at_7) rfl ?_
      show Steps p.tables e below (s₁.setTop (mkF m 8 #[.val (.int i0), .val (.int i1), .val (.int i2), .val (.int i3), .val (.int i4), .unset, .unset, .unset, .unset, .unset, .unset, .unset, .unset, .unset, .unset, .unset, .unset, .unset, .unset, .unset, .unset] [(.int i0)])) _
      refine XS.iconst X0.here hx rfl (hb hby at_8) ?_
      show Steps p.tables e below (s₁.setTop (mkF m 9 #[.val (.int i0), .val (.int i1), .val (.int i2), .val (.int i3), .val (.int i4), .unset, .unset, .unset, .unset, .unset, .unset, .unset, .unset, .unset, .unset, .unset, .unset, .unset, .unset, .unset, .unset] [(.int (3 : Int32)), (.int i0)])) _
      refine XS.iand X0.here hx rfl (hb hby at_9) rfl ?_
      show Steps p.tables e below (s₁.setTop (mkF m 10 #[.val (.int i0), .val (.int i1), .val (.int i2), .val (.int i3), .val (.int i4), .unset, .unset, .unset, .unset, .unset, .unset, .unset, .unset, .unset, .unset, .unset, .unset, .unset, .unset, .unset, .unset] [(.int (i0 &&& (3 : Int32)))])) _
      refine XS.i2l X0.here hx rfl (hb hby at_10) rfl ?_
      show Steps p.tables e below (s₁.setTop (mkF m 11 #[.val (.int i0), .val (.int i1), .val (.int i2), .val (.int i3), .val (.int i4), .unset, .unset, .unset, .unset, .unset, .unset, .unset, .unset, .unset, .unset, .unset, .unset, .unset, .unset, .unset, .unset] [(.long ((i0 &&& (3 : Int32)).toInt64))])) _
      refine XS.goto X0.here hx rfl (pc0 := 11) (pc' := 16) rfl (hb hby at_11) (by decide) (by decide) ?_
      exact Steps.refl _
  have c3 : Steps p.tables e below S0 (s₁.setTop (mkF m 65 #[.val (.int i0), .val (.int i1), .val (.int i2), .val (.int i3), .val (.int i4), .val (.long (if (i4 &&& (2 : Int32)) = 0 then (i0.toInt64) else ((i0 &&& (3 : Int32)).toInt64))), .second, .val (.long (if (i4 &&& (2 : Int32)) = 0 then (i0.toInt64) else ((i0 &&& (3 : Int32)).toInt64))), .second, .val (.long ((if (i4 &&& (2 : Int32)) = 0 then (i0.toInt64) else ((i0 &&& (3 : Int32)).toInt64)) - ((i1 &&& (1 : Int32)).toInt64))), .second, .val (.long (((if (i4 &&& (2 : Int32)) = 0 then (i0.toInt64) else ((i0 &&& (3 : Int32)).toInt64)) - ((i1 &&& (1 : Int32)).toInt64)) - (((i1 >>> ((1 : Int32) &&& 31)) &&& (1 : Int32)).toInt64))), .second, .val (.long ((((if (i4 &&& (2 : Int32)) = 0 then (i0.toInt64) else ((i0 &&& (3 : Int32)).toInt64)) - ((i1 &&& (1 : Int32)).toInt64)) - (((i1 >>> ((1 : Int32) &&& 31)) &&& (1 : Int32)).toInt64)) - (((i1 >>> ((2 : Int32) &&& 31)) &&& (1 : Int32)).toInt64))), .second, .val (.long (((((if (i4 &&& (2 : Int32)) = 0 then (i0.toInt64) else ((i0 &&& (3 : Int32)).toInt64)) - ((i1 &&& (1 : Int32)).toInt64)) - (((i1 >>> ((1 : Int32) &&& 31)) &&& (1 : Int32)).toInt64)) - (((i1 >>> ((2 : Int32) &&& 31)) &&& (1 : Int32)).toInt64)) - (((i1 >>> ((3 : Int32) &&& 31)) &&& (1 : Int32)).toInt64))), .second, .unset, .unset, .unset, .unset] [(.int (5 : Int32))])) := by
    refine c2.trans ?_
    show Steps p.tables e below (s₁.setTop (mkF m 16 #[.val (.int i0), .val (.int i1), .val (.int i2), .val (.int i3), .val (.int i4), .unset, .unset, .unset, .unset, .unset, .unset, .unset, .unset, .unset, .unset, .unset, .unset, .unset, .unset, .unset, .unset] [(.long (if (i4 &&& (2 : Int32)) = 0 then (i0.toInt64) else ((i0 &&& (3 : Int32)).toInt64)))])) _
    refine XS.lstore X0.here hx rfl (hb hby at_16) rfl (l' := #[.val (.int i0), .val (.int i1), .val (.int i2), .val (.int i3), .val (.int i4), .val (.long (if (i4 &&& (2 : Int32)) = 0 then (i0.toInt64) else ((i0 &&& (3 : Int32)).toInt64))), .second, .unset, .unset, .unset, .unset, .unset, .unset, .unset, .unset, .unset, .unset, .unset, .unset, .unset, .unset]) rfl ?_
    show Steps p.tables e below (s₁.setTop (mkF m 18 #[.val (.int i0), .val (.int i1), .val (.int i2), .val (.int i3), .val (.int i4), .val (.long (if (i4 &&& (2 : Int32)) = 0 then (i0.toInt64) else ((i0 &&& (3 : Int32)).toInt64))), .second, .unset, .unset, .unset, .unset, .unset, .unset, .unset, .unset, .unset, .unset, .unset, .unset, .unset, .unset] [])) _
    refine XS.lload X0.here hx rfl (hb hby at_18) rfl ?_
    show Steps p.tables e below (s₁.setTop (mkF m 20 #[.val (.int i0), .val (.int i1), .val (.int i2), .val (.int i3), .val (.int i4), .val (.long (if (i4 &&& (2 : Int32)) = 0 then (i0.toInt64) else ((i0 &&& (3 : Int32)).toInt64))), .second, .unset, .unset, .unset, .unset, .unset, .unset, .unset, .unset, .unset, .unset, .unset, .unset, .unset, .unset] [(.long (if (i4 &&& (2 : Int32)) = 0 then (i0.toInt64) else ((i0 &&& (3 : Int32)).toInt64)))])) _
    refine XS.lstore X0.here hx rfl (hb hby at_20) rfl (l' := #[.val (.int i0), .val (.int i1), .val (.int i2), .val (.int i3), .val (.int i4), .val (.long (if (i4 &&& (2 : Int32)) = 0 then (i0.toInt64) else ((i0 &&& (3 : Int32)).toInt64))), .second, .val (.long (if (i4 &&& (2 : Int32)) = 0 then (i0.toInt64) else ((i0 &&& (3 : Int32)).toInt64))), .second, .unset, .unset, .unset, .unset, .unset, .unset, .unset, .unset, .unset, .unset, .unset, .unset]) rfl ?_
    show Steps p.tables e below (s₁.setTop (mkF m 22 #[.val (.int i0), .val (.int i1), .val (.int i2), .val (.int i3), .val (.int i4), .val (.long (if (i4 &&& (2 : Int32)) = 0 then (i0.toInt64) else ((i0 &&& (3 : Int32)).toInt64))), .second, .val (.long (if (i4 &&& (2 : Int32)) = 0 then (i0.toInt64) else ((i0 &&& (3 : Int32)).toInt64))), .second, .unset, .unset, .unset, .unset, .unset, .unset, .unset, .unset, .unset, .unset, .unset, .unset] [])) _
    refine XS.lload X0.here hx rfl (hb hby at_22) rfl ?_
    show Steps p.tables e below (s₁.setTop (mkF m 24 #[.val (.int i0), .val (.int i1), .val (.int i2), .val (.int i3), .val (.int i4), .val (.long (if (i4 &&& (2 : Int32)) = 0 then (i0.toInt64) else ((i0 &&& (3 : Int32)).toInt64))), .second, .val (.long (if (i4 &&& (2 : Int32)) = 0 then (i0.toInt64) else ((i0 &&& (3 : Int32)).toInt64))), .second, .unset, .unset, .unset, .unset, .unset, .unset, .unset, .unset, .unset, .unset, .unset, .unset] [(.long (if (i4 &&& (2 : Int32)) = 0 then (i0.toInt64) else ((i0 &&& (3 : Int32)).toInt64)))])) _
    refine XS.iloadN X0.here hx rfl (hb hby at_24) rfl ?_
    show Steps p.tables e below (s₁.setTop (mkF m 25 #[.val (.int i0), .val (.int i1), .val (.int i2), .val (.int i3), .val (.int i4), .val (.long (if (i4 &&& (2 : Int32)) = 0 then (i0.toInt64) else ((i0 &&& (3 : Int32)).toInt64))), .second, .val (.long (if (i4 &&& (2 : Int32)) = 0 then (i0.toInt64) else ((i0 &&& (3 : Int32)).toInt64))), .second, .unset, .unset, .unset, .unset, .unset, .unset, .unset, .unset, .unset, .unset, .unset, .unset] [(.int i1), (.long (if (i4 &&& (2 : Int32)) = 0 then (i0.toInt64) else ((i0 &&& (3 : Int32)).toInt64)))])) _
    refine XS.iconst X0.here hx rfl (hb hby at_25) ?_
    show Steps p.tables e below (s₁.setTop (mkF m 26 #[.val (.int i0), .val (.int i1), .val (.int i2), .val (.int i3), .val (.int i4), .val (.long (if (i4 &&& (2 : Int32)) = 0 then (i0.toInt64) else ((i0 &&& (3 : Int32)).toInt64))), .second, .val (.long (if (i4 &&& (2 : Int32)) = 0 then (i0.toInt64) else ((i0 &&& (3 : Int32)).toInt64))), .second, .unset, .unset, .unset, .unset, .unset, .unset, .unset, .unset, .unset, .unset, .unset, .unset] [(.int (1 : Int32)), (.int i1), (.long (if (i4 &&& (2 : Int32)) = 0 then (i0.toInt64) else ((i0 &&& (3 : Int32)).toInt64)))])) _
    refine XS.iand X0.here hx rfl (hb hby at_26) rfl ?_
    show Steps p.tables e below (s₁.setTop (mkF m 27 #[.val (.int i0), .val (.int i1), .val (.int i2), .val (.int i3), .val (.int i4), .val (.long (if (i4 &&& (2 : Int32)) = 0 then (i0.toInt64) else ((i0 &&& (3 : Int32)).toInt64))), .second, .val (.long (if (i4 &&& (2 : Int32)) = 0 then (i0.toInt64) else ((i0 &&& (3 : Int32)).toInt64))), .second, .unset, .unset, .unset, .unset, .unset, .unset, .unset, .unset, .unset, .unset, .unset, .unset] [(.int (i1 &&& (1 : Int32))), (.long (if (i4 &&& (2 : Int32)) = 0 then (i0.toInt64) else ((i0 &&& (3 : Int32)).toInt64)))])) _
    refine XS.i2l X0.here hx rfl (hb hby at_27) rfl ?_
    show Steps p.tables e below (s₁.setTop (mkF m 28 #[.val (.int i0), .val (.int i1), .val (.int i2), .val (.int i3), .val (.int i4), .val (.long (if (i4 &&& (2 : Int32)) = 0 then (i0.toInt64) else ((i0 &&& (3 : Int32)).toInt64))), .second, .val (.long (if (i4 &&& (2 : Int32)) = 0 then (i0.toInt64) else ((i0 &&& (3 : Int32)).toInt64))), .second, .unset, .unset, .unset, .unset, .unset, .unset, .unset, .unset, .unset, .unset, .unset, .unset] [(.long ((i1 &&& (1 : Int32)).toInt64)), (.long (if (i4 &&& (2 : Int32)) = 0 then (i0.toInt64) else ((i0 &&& (3 : Int32)).toInt64)))])) _
    refine XS.lsub X0.here hx rfl (hb hby at_28) rfl ?_
    show Steps p.tables e below (s₁.setTop (mkF m 29 #[.val (.int i0), .val (.int i1), .val (.int i2), .val (.int i3), .val (.int i4), .val (.long (if (i4 &&& (2 : Int32)) = 0 then (i0.toInt64) else ((i0 &&& (3 : Int32)).toInt64))), .second, .val (.long (if (i4 &&& (2 : Int32)) = 0 then (i0.toInt64) else ((i0 &&& (3 : Int32)).toInt64))), .second, .unset, .unset, .unset, .unset, .unset, .unset, .unset, .unset, .unset, .unset, .unset, .unset] [(.long ((if (i4 &&& (2 : Int32)) = 0 then (i0.toInt64) else ((i0 &&& (3 : Int32)).toInt64)) - ((i1 &&& (1 : Int32)).toInt64)))])) _
    refine XS.lstore X0.here hx rfl (hb hby at_29) rfl (l' := #[.val (.int i0), .val (.int i1), .val (.int i2), .val (.int i3), .val (.int i4), .val (.long (if (i4 &&& (2 : Int32)) = 0 then (i0.toInt64) else ((i0 &&& (3 : Int32)).toInt64))), .second, .val (.long (if (i4 &&& (2 : Int32)) = 0 then (i0.toInt64) else ((i0 &&& (3 : Int32)).toInt64))), .second, .val (.long ((if (i4 &&& (2 : Int32)) = 0 then (i0.toInt64) else ((i0 &&& (3 : Int32)).toInt64)) - ((i1 &&& (1 : Int32)).toInt64))), .second, .unset, .unset, .unset, .unset, .unset, .unset, .unset, .unset, .unset, .unset]) rfl ?_
    show Steps p.tables e below (s₁.setTop (mkF m 31 #[.val (.int i0), .val (.int i1), .val (.int i2), .val (.int i3), .val (.int i4), .val (.long (if (i4 &&& (2 : Int32)) = 0 then (i0.toInt64) else ((i0 &&& (3 : Int32)).toInt64))), .second, .val (.long (if (i4 &&& (2 : Int32)) = 0 then (i0.toInt64) else ((i0 &&& (3 : Int32)).toInt64))), .second, .val (.long ((if (i4 &&& (2 : Int32)) = 0 then (i0.toInt64) else ((i0 &&& (3 : Int32)).toInt64)) - ((i1 &&& (1 : Int32)).toInt64))), .second, .unset, .unset, .unset, .unset, .unset, .unset, .unset, .unset, .unset, .unset] [])) _
    refine XS.lload X0.here hx rfl (hb hby at_31) rfl ?_
    show Steps p.tables e below (s₁.setTop (mkF m 33 #[.val (.int i0), .val (.int i1), .val (.int i2), .val (.int i3), .val (.int i4), .val (.long (if (i4 &&& (2 : Int32)) = 0 then (i0.toInt64) else ((i0 &&& (3 : Int32)).toInt64))), .second, .val (.long (if (i4 &&& (2 : Int32)) = 0 then (i0.toInt64) else ((i0 &&& (3 : Int32)).toInt64))), .second, .val (.long ((if (i4 &&& (2 : Int32)) = 0 then (i0.toInt64) else ((i0 &&& (3 : Int32)).toInt64)) - ((i1 &&& (1 : Int32)).toInt64))), .second, .unset, .unset, .unset, .unset, .unset, .unset, .unset, .unset, .unset, .unset] [(.long ((if (i4 &&& (2 : Int32)) = 0 then (i0.toInt64) else ((i0 &&& (3 : Int32)).toInt64)) - ((i1 &&& (1 : Int32)).toInt64)))])) _
    refine XS.iloadN X0.here hx rfl (hb hby at_33) rfl ?_
    show Steps p.tables e below (s₁.setTop (mkF m 34 #[.val (.int i0), .val (.int i1), .val (.int i2), .val (.int i3), .val (.int i4), .val (.long (if (i4 &&& (2 : Int32)) = 0 then (i0.toInt64) else ((i0 &&& (3 : Int32)).toInt64))), .second, .val (.long (if (i4 &&& (2 : Int32)) = 0 then (i0.toInt64) else ((i0 &&& (3 : Int32)).toInt64))), .second, .val (.long ((if (i4 &&& (2 : Int32)) = 0 then (i0.toInt64) else ((i0 &&& (3 : Int32)).toInt64)) - ((i1 &&& (1 : Int32)).toInt64))), .second, .unset, .unset, .unset, .unset, .unset, .unset, .unset, .unset, .unset, .unset] [(.int i1), (.long ((if (i4 &&& (2 : Int32)) = 0 then (i0.toInt64) else ((i0 &&& (3 : Int32)).toInt64)) - ((i1 &&& (1 : Int32)).toInt64)))])) _
    refine XS.iconst X0.here hx rfl (hb hby at_34) ?_
    show Steps p.tables e below (s₁.setTop (mkF m 35 #[.val (.int i0), .val (.int i1), .val (.int i2), .val (.int i3), .val (.int i4), .val (.long (if (i4 &&& (2 : Int32)) = 0 then (i0.toInt64) else ((i0 &&& (3 : Int32)).toInt64))), .second, .val (.long (if (i4 &&& (2 : Int32)) = 0 then (i0.toInt64) else ((i0 &&& (3 : Int32)).toInt64))), .second, .val (.long ((if (i4 &&& (2 : Int32)) = 0 then (i0.toInt64) else ((i0 &&& (3 : Int32)).toInt64)) - ((i1 &&& (1 : Int32)).toInt64))), .second, .unset, .unset, .unset, .unset, .unset, .unset, .unset, .unset, .unset, .unset] [(.int (1 : Int32)), (.int i1), (.long ((if (i4 &&& (2 : Int32)) = 0 then (i0.toInt64) else ((i0 &&& (3 : Int32)).toInt64)) - ((i1 &&& (1 : Int32)).toInt64)))])) _
    refine XS.ishr X0.here hx rfl (hb hby at_35) rfl ?_
    show Steps p.tables e below (s₁.setTop (mkF m 36 #[.val (.int i0), .val (.int i1), .val (.int i2), .val (.int i3), .val (.int i4), .val (.long (if (i4 &&& (2 : Int32)) = 0 then (i0.toInt64) else ((i0 &&& (3 : Int32)).toInt64))), .second, .val (.long (if (i4 &&& (2 : Int32)) = 0 then (i0.toInt64) else ((i0 &&& (3 : Int32)).toInt64))), .second, .val (.long ((if (i4 &&& (2 : Int32)) = 0 then (i0.toInt64) else ((i0 &&& (3 : Int32)).toInt64)) - ((i1 &&& (1 : Int32)).toInt64))), .second, .unset, .unset, .unset, .unset, .unset, .unset, .unset, .unset, .unset, .unset] [(.int (i1 >>> ((1 : Int32) &&& 31))), (.long ((if (i4 &&& (2 : Int32)) = 0 then (i0.toInt64) else ((i0 &&& (3 : Int32)).toInt64)) - ((i1 &&& (1 : Int32)).toInt64)))])) _
    refine XS.iconst X0.here hx rfl (hb hby at_36) ?_
    show Steps p.tables e below (s₁.setTop (mkF m 37 #[.val (.int i0), .val (.int i1), .val (.int i2), .val (.int i3), .val (.int i4), .val (.long (if (i4 &&& (2 : Int32)) = 0 then (i0.toInt64) else ((i0 &&& (3 : Int32)).toInt64))), .second, .val (.long (if (i4 &&& (2 : Int32)) = 0 then (i0.toInt64) else ((i0 &&& (3 : Int32)).toInt64))), .second, .val (.long ((if (i4 &&& (2 : Int32)) = 0 then (i0.toInt64) else ((i0 &&& (3 : Int32)).toInt64)) - ((i1 &&& (1 : Int32)).toInt64))), .second, .unset, .unset, .unset, .unset, .unset, .unset, .unset, .unset, .unset, .unset] [(.int (1 : Int32)), (.int (i1 >>> ((1 : Int32) &&& 31))), (.long ((if (i4 &&& (2 : Int32)) = 0 then (i0.toInt64) else ((i0 &&& (3 : Int32)).toInt64)) - ((i1 &&& (1 : Int32)).toInt64)))])) _
    refine XS.iand X0.here hx rfl (hb hby at_37) rfl ?_
    show Steps p.tables e below (s₁.setTop (mkF m 38 #[.val (.int i0), .val (.int i1), .val (.int i2), .val (.int i3), .val (.int i4), .val (.long (if (i4 &&& (2 : Int32)) = 0 then (i0.toInt64) else ((i0 &&& (3 : Int32)).toInt64))), .second, .val (.long (if (i4 &&& (2 : Int32)) = 0 then (i0.toInt64) else ((i0 &&& (3 : Int32)).toInt64))), .second, .val (.long ((if (i4 &&& (2 : Int32)) = 0 then (i0.toInt64) else ((i0 &&& (3 : Int32)).toInt64)) - ((i1 &&& (1 : Int32)).toInt64))), .second, .unset, .unset, .unset, .unset, .unset, .unset, .unset, .unset, .unset, .unset] [(.int ((i1 >>> ((1 : Int32) &&& 31)) &&& (1 : Int32))), (.long ((if (i4 &&& (2 : Int32)) = 0 then (i0.toInt64) else ((i0 &&& (3 : Int32)).toInt64)) - ((i1 &&& (1 : Int32)).toInt64)))])) _
    refine XS.i2l X0.here hx rfl (hb hby at_38) rfl ?_
    show Steps p.tables e below (s₁.setTop (mkF m 39 #[.val (.int i0), .val (.int i1), .val (.int i2), .val (.int i3), .val (.int i4), .val (.long (if (i4 &&& (2 : Int32)) = 0 then (i0.toInt64) else ((i0 &&& (3 : Int32)).toInt64))), .second, .val (.long (if (i4 &&& (2 : Int32)) = 0 then (i0.toInt64) else ((i0 &&& (3 : Int32)).toInt64))), .second, .val (.long ((if (i4 &&& (2 : Int32)) = 0 then (i0.toInt64) else ((i0 &&& (3 : Int32)).toInt64)) - ((i1 &&& (1 : Int32)).toInt64))), .second, .unset, .unset, .unset, .unset, .unset, .unset, .unset, .unset, .unset, .unset] [(.long (((i1 >>> ((1 : Int32) &&& 31)) &&& (1 : Int32)).toInt64)), (.long ((if (i4 &&& (2 : Int32)) = 0 then (i0.toInt64) else ((i0 &&& (3 : Int32)).toInt64)) - ((i1 &&& (1 : Int32)).toInt64)))])) _
    refine XS.lsub X0.here hx rfl (hb hby at_39) rfl ?_
    show Steps p.tables e below (s₁.setTop (mkF m 40 #[.val (.int i0), .val (.int i1), .val (.int i2), .val (.int i3), .val (.int i4), .val (.long (if (i4 &&& (2 : Int32)) = 0 then (i0.toInt64) else ((i0 &&& (3 : Int32)).toInt64))), .second, .val (.long (if (i4 &&& (2 : Int32)) = 0 then (i0.toInt64) else ((i0 &&& (3 : Int32)).toInt64))), .second, .val (.long ((if (i4 &&& (2 : Int32)) = 0 then (i0.toInt64) else ((i0 &&& (3 : Int32)).toInt64)) - ((i1 &&& (1 : Int32)).toInt64))), .second, .unset, .unset, .unset, .unset, .unset, .unset, .unset, .unset, .unset, .unset] [(.long (((if (i4 &&& (2 : Int32)) = 0 then (i0.toInt64) else ((i0 &&& (3 : Int32)).toInt64)) - ((i1 &&& (1 : Int32)).toInt64)) - (((i1 >>> ((1 : Int32) &&& 31)) &&& (1 : Int32)).toInt64)))])) _
    refine XS.lstore X0.here hx rfl (hb hby at_40) rfl (l' := #[.val (.int i0), .val (.int i1), .val (.int i2), .val (.int i3), .val (.int i4), .val (.long (if (i4 &&& (2 : Int32)) = 0 then (i0.toInt64) else ((i0 &&& (3 : Int32)).toInt64))), .second, .val (.long (if (i4 &&& (2 : Int32)) = 0 then (i0.toInt64) else ((i0 &&& (3 : Int32)).toInt64))), .second, .val (.long ((if (i4 &&& (2 : Int32)) = 0 then (i0.toInt64) else ((i0 &&& (3 : Int32)).toInt64)) - ((i1 &&& (1 : Int32)).toInt64))), .second, .val (.long (((if (i4 &&& (2 : Int32)) = 0 then (i0.toInt64) else ((i0 &&& (3 : Int32)).toInt64)) - ((i1 &&& (1 : Int32)).toInt64)) - (((i1 >>> ((1 : Int32) &&& 31)) &&& (1 : Int32)).toInt64))), .second, .unset, .unset, .unset, .unset, .unset, .unset, .unset, .unset]) rfl ?_
    show Steps p.tables e below (s₁.setTop (mkF m 42 #[.val (.int i0), .val (.int i1), .val (.int i2), .val (.int i3), .val (.int i4), .val (.long (if (i4 &&& (2 : Int32)) = 0 then (i0.toInt64) else ((i0 &&& (3 : Int32)).toInt64))), .second, .val (.long (if (i4 &&& (2 : Int32)) = 0 then (i0.toInt64) else ((i0 &&& (3 : Int32)).toInt64))), .second, .val (.long ((if (i4 &&& (2 : Int32)) = 0 then (i0.toInt64) else ((i0 &&& (3 : Int32)).toInt64)) - ((i1 &&& (1 : Int32)).toInt64))), .second, .val (.long (((if (i4 &&& (2 : Int32)) = 0 then (i0.toInt64) else ((i0 &&& (3 : Int32)).toInt64)) - ((i1 &&& (1 : Int32)).toInt64)) - (((i1 >>> ((1 : Int32) &&& 31)) &&& (1 : Int32)).toInt64))), .second, .unset, .unset, .unset, .unset, .unset, .unset, .unset, .unset] [])) _
    refine XS.lload X0.here hx rfl (hb hby at_42) rfl ?_
    show Steps p.tables e below (s₁.setTop (mkF m 44 #[.val (.int i0), .val (.int i1), .val (.int i2), .val (.int i3), .val (.int i4), .val (.long (if (i4 &&& (2 : Int32)) = 0 then (i0.toInt64) else ((i0 &&& (3 : Int32)).toInt64))), .second, .val (.long (if (i4 &&& (2 : Int32)) = 0 then (i0.toInt64) else ((i0 &&& (3 : Int32)).toInt64))), .second, .val (.long ((if (i4 &&& (2 : Int32)) = 0 then (i0.toInt64) else ((i0 &&& (3 : Int32)).toInt64)) - ((i1 &&& (1 : Int32)).toInt64))), .second, .val (.long (((if (i4 &&& (2 : Int32)) = 0 then (i0.toInt64) else ((i0 &&& (3 : Int32)).toInt64)) - ((i1 &&& (1 : Int32)).toInt64)) - (((i1 >>> ((1 : Int32) &&& 31)) &&& (1 : Int32)).toInt64))), .second, .unset, .unset, .unset, .unset, .unset, .unset, .unset, .unset] [(.long (((if (i4 &&& (2 : Int32)) = 0 then (i0.toInt64) else ((i0 &&& (3 : Int32)).toInt64)) - ((i1 &&& (1 : Int32)).toInt64)) - (((i1 >>> ((1 : Int32) &&& 31)) &&& (1 : Int32)).toInt64)))])) _
    refine XS.iloadN X0.here hx rfl (hb hby at_44) rfl ?_
    show Steps p.tables e below (s₁.setTop (mkF m 45 #[.val (.int i0), .val (.int i1), .val (.int i2), .val (.int i3), .val (.int i4), .val (.long (if (i4 &&& (2 : Int32)) = 0 then (i0.toInt64) else ((i0 &&& (3 : Int32)).toInt64))), .second, .val (.long (if (i4 &&& (2 : Int32)) = 0 then (i0.toInt64) else ((i0 &&& (3 : Int32)).toInt64))), .second, .val (.long ((if (i4 &&& (2 : Int32)) = 0 then (i0.toInt64) else ((i0 &&& (3 : Int32)).toInt64)) - ((i1 &&& (1 : Int32)).toInt64))), .second, .val (.long (((if (i4 &&& (2 : Int32)) = 0 then (i0.toInt64) else ((i0 &&& (3 : Int32)).toInt64)) - ((i1 &&& (1 : Int32)).toInt64)) - (((i1 >>> ((1 : Int32) &&& 31)) &&& (1 : Int32)).toInt64))), .second, .unset, .unset, .unset, .unset, .unset, .unset, .unset, .unset] [(.int i1), (.long (((if (i4 &&& (2 : Int32)) = 0 then (i0.toInt64) else ((i0 &&& (3 : Int32)).toInt64)) - ((i1 &&& (1 : Int32)).toInt64)) - (((i1 >>> ((1 : Int32) &&& 31)) &&& (1 : Int32)).toInt64)))])) _
    refine XS.iconst X0.here hx rfl (hb hby at_45) ?_
    show Steps p.tables e below (s₁.setTop (mkF m 46 #[.val (.int i0), .val (.int i1), .val (.int i2), .val (.int i3), .val (.int i4), .val (.long (if (i4 &&& (2 : Int32)) = 0 then (i0.toInt64) else ((i0 &&& (3 : Int32)).toInt64))), .second, .val (.long (if (i4 &&& (2 : Int32)) = 0 then (i0.toInt64) else ((i0 &&& (3 : Int32)).toInt64))), .second, .val (.long ((if (i4 &&& (2 : Int32)) = 0 then (i0.toInt64) else ((i0 &&& (3 : Int32)).toInt64)) - ((i1 &&& (1 : Int32)).toInt64))), .second, .val (.long (((if (i4 &&& (2 : Int32)) = 0 then (i0.toInt64) else ((i0 &&& (3 : Int32)).toInt64)) - ((i1 &&& (1 : Int32)).toInt64)) - (((i1 >>> ((1 : Int32) &&& 31)) &&& (1 : Int32)).toInt64))), .second, .unset, .unset, .unset, .unset, .unset, .unset, .unset, .unset] [(.int (2 : Int32)), (.int i1), (.long (((if (i4 &&& (2 : Int32)) = 0 then (i0.toInt64) else ((i0 &&& (3 : Int32)).toInt64)) - ((i1 &&& (1 : Int32)).toInt64)) - (((i1 >>> ((1 : Int32) &&& 31)) &&& (1 : Int32)).toInt64)))])) _
    refine XS.ishr X0.here hx rfl (hb hby at_46) rfl ?_
    show Steps p.tables e below (s₁.setTop (mkF m 47 #[.val (.int i0), .val (.int i1), .val (.int i2), .val (.int i3), .val (.int i4), .val (.long (if (i4 &&& (2 : Int32)) = 0 then (i0.toInt64) else ((i0 &&& (3 : Int32)).toInt64))), .second, .val (.long (if (i4 &&& (2 : Int32)) = 0 then (i0.toInt64) else ((i0 &&& (3 : Int32)).toInt64))), .second, .val (.long ((if (i4 &&& (2 : Int32)) = 0 then (i0.toInt64) else ((i0 &&& (3 : Int32)).toInt64)) - ((i1 &&& (1 : Int32)).toInt64))), .second, .val (.long (((if (i4 &&& (2 : Int32)) = 0 then (i0.toInt64) else ((i0 &&& (3 : Int32)).toInt64)) - ((i1 &&& (1 : Int32)).toInt64)) - (((i1 >>> ((1 : Int32) &&& 31)) &&& (1 : Int32)).toInt64))), .second, .unset, .unset, .unset, .unset, .unset, .unset, .unset, .unset] [(.int (i1 >>> ((2 : Int32) &&& 31))), (.long (((if (i4 &&& (2 : Int32)) = 0 then (i0.toInt64) else ((i0 &&& (3 : Int32)).toInt64)) - ((i1 &&& (1 : Int32)).toInt64)) - (((i1 >>> ((1 : Int32) &&& 31)) &&& (1 : Int32)).toInt64)))])) _
    refine XS.iconst X0.here hx rfl (hb hby at_47) ?_
    show Steps p.tables e below (s₁.setTop (mkF m 48 #[.val (.int i0), .val (.int i1), .val (.int i2), .val (.int i3), .val (.int i4), .val (.long (if (i4 &&& (2 : Int32)) = 0 then (i0.toInt64) else ((i0 &&& (3 : Int32)).toInt64))), .second, .val (.long (if (i4 &&& (2 : Int32)) = 0 then (i0.toInt64) else ((i0 &&& (3 : Int32)).toInt64))), .second, .val (.long ((if (i4 &&& (2 : Int32)) = 0 then (i0.toInt64) else ((i0 &&& (3 : Int32)).toInt64)) - ((i1 &&& (1 : Int32)).toInt64))), .second, .val (.long (((if (i4 &&& (2 : Int32)) = 0 then (i0.toInt64) else ((i0 &&& (3 : Int32)).toInt64)) - ((i1 &&& (1 : Int32)).toInt64)) - (((i1 >>> ((1 : Int32) &&& 31)) &&& (1 : Int32)).toInt64))), .second, .unset, .unset, .unset, .unset, .unset, .unset, .unset, .unset] [(.int (1 : Int32)), (.int (i1 >>> ((2 : Int32) &&& 31))), (.long (((if (i4 &&& (2 : Int32)) = 0 then (i0.toInt64) else ((i0 &&& (3 : Int32)).toInt64)) - ((i1 &&& (1 : Int32)).toInt64)) - (((i1 >>> ((1 : Int32) &&& 31)) &&& (1 : Int32)).toInt64)))])) _
    refine XS.iand X0.here hx rfl (hb hby at_48) rfl ?_
    show Steps p.tables e below (s₁.setTop (mkF m 49 #[.val (.int i0), .val (.int i1), .val (.int i2), .val (.int i3), .val (.int i4), .val (.long (if (i4 &&& (2 : Int32)) = 0 then (i0.toInt64) else ((i0 &&& (3 : Int32)).toInt64))), .second, .val (.long (if (i4 &&& (2 : Int32)) = 0 then (i0.toInt64) else ((i0 &&& (3 : Int32)).toInt64))), .second, .val (.long ((if (i4 &&& (2 : Int32)) = 0 then (i0.toInt64) else ((i0 &&& (3 : Int32)).toInt64)) - ((i1 &&& (1 : Int32)).toInt64))), .second, .val (.long (((if (i4 &&& (2 : Int32)) = 0 then (i0.toInt64) else ((i0 &&& (3 : Int32)).toInt64)) - ((i1 &&& (1 : Int32)).toInt64)) - (((i1 >>> ((1 : Int32) &&& 31)) &&& (1 : Int32)).toInt64))), .second, .unset, .unset, .unset, .unset, .unset, .unset, .unset, .unset] [(.int ((i1 >>> ((2 : Int32) &&& 31)) &&& (1 : Int32))), (.long (((if (i4 &&& (2 : Int32)) = 0 then (i0.toInt64) else ((i0 &&& (3 : Int32)).toInt64)) - ((i1 &&& (1 : Int32)).toInt64)) - (((i1 >>> ((1 : Int32) &&& 31)) &&& (1 : Int32)).toInt64)))])) _
    refine XS.i2l X0.here hx rfl (hb hby at_49) rfl ?_
    show Steps p.tables e below (s₁.setTop (mkF m 50 #[.val (.int i0), .val (.int i1), .val (.int i2), .val (.int i3), .val (.int i4), .val (.long (if (i4 &&& (2 : Int32)) = 0 then (i0.toInt64) else ((i0 &&& (3 : Int32)).toInt64))), .second, .val (.long (if (i4 &&& (2 : Int32)) = 0 then (i0.toInt64) else ((i0 &&& (3 : Int32)).toInt64))), .second, .val (.long ((if (i4 &&& (2 : Int32)) = 0 then (i0.toInt64) else ((i0 &&& (3 : Int32)).toInt64)) - ((i1 &&& (1 : Int32)).toInt64))), .second, .val (.long (((if (i4 &&& (2 : Int32)) = 0 then (i0.toInt64) else ((i0 &&& (3 : Int32)).toInt64)) - ((i1 &&& (1 : Int32)).toInt64)) - (((i1 >>> ((1 : Int32) &&& 31)) &&& (1 : Int32)).toInt64))), .second, .unset, .unset, .unset, .unset, .unset, .unset, .unset, .unset] [(.long (((i1 >>> ((2 : Int32) &&& 31)) &&& (1 : Int32)).toInt64)), (.long (((if (i4 &&& (2 : Int32)) = 0 then (i0.toInt64) else ((i0 &&& (3 : Int32)).toInt64)) - ((i1 &&& (1 : Int32)).toInt64)) - (((i1 >>> ((1 : Int32) &&& 31)) &&& (1 : Int32)).toInt64)))])) _
    refine XS.lsub X0.here hx rfl (hb hby at_50) rfl ?_
    show Steps p.tables e below (s₁.setTop (mkF m 51 #[.val (.int i0), .val (.int i1), .val (.int i2), .val (.int i3), .val (.int i4), .val (.long (if (i4 &&& (2 : Int32)) = 0 then (i0.toInt64) else ((i0 &&& (3 : Int32)).toInt64))), .second, .val (.long (if (i4 &&& (2 : Int32)) = 0 then (i0.toInt64) else ((i0 &&& (3 : Int32)).toInt64))), .second, .val (.long ((if (i4 &&& (2 : Int32)) = 0 then (i0.toInt64) else ((i0 &&& (3 : Int32)).toInt64)) - ((i1 &&& (1 : Int32)).toInt64))), .second, .val (.long (((if (i4 &&& (2 : Int32)) = 0 then (i0.toInt64) else ((i0 &&& (3 : Int32)).toInt64)) - ((i1 &&& (1 : Int32)).toInt64)) - (((i1 >>> ((1 : Int32) &&& 31)) &&& (1 : Int32)).toInt64))), .second, .unset, .unset, .unset, .unset, .unset, .unset, .unset, .unset] [(.long ((((if (i4 &&& (2 : Int32)) = 0 then (i0.toInt64) else ((i0 &&& (3 : Int32)).toInt64)) - ((i1 &&& (1 : Int32)).toInt64)) - (((i1 >>> ((1 : Int32) &&& 31)) &&& (1 : Int32)).toInt64)) - (((i1 >>> ((2 : Int32) &&& 31)) &&& (1 : Int32)).toInt64)))])) _
    refine XS.lstore X0.here hx rfl (hb hby at_51) rfl (l' := #[.val (.int i0), .val (.int i1), .val (.int i2), .val (.int i3), .val (.int i4), .val (.long (if (i4 &&& (2 : Int32)) = 0 then (i0.toInt64) else ((i0 &&& (3 : Int32)).toInt64))), .second, .val (.long (if (i4 &&& (2 : Int32)) = 0 then (i0.toInt64) else ((i0 &&& (3 : Int32)).toInt64))), .second, .val (.long ((if (i4 &&& (2 : Int32)) = 0 then (i0.toInt64) else ((i0 &&& (3 : Int32)).toInt64)) - ((i1 &&& (1 : Int32)).toInt64))), .second, .val (.long (((if (i4 &&& (2 : Int32)) = 0 then (i0.toInt64) else ((i0 &&& (3 : Int32)).toInt64)) - ((i1 &&& (1 : Int32)).toInt64)) - (((i1 >>> ((1 : Int32) &&& 31)) &&& (1 : Int32)).toInt64))), .second, .val (.long ((((if (i4 &&& (2 : Int32)) = 0 then (i0.toInt64) else ((i0 &&& (3 : Int32)).toInt64)) - ((i1 &&& (1 : Int32)).toInt64)) - (((i1 >>> ((1 : Int32) &&& 31)) &&& (1 : Int32)).toInt64)) - (((i1 >>> ((2 : Int32) &&& 31)) &&& (1 : Int32)).toInt64))), .second, .unset, .unset, .unset, .unset, .unset, .unset]) rfl ?_
    show Steps p.tables e below (s₁.setTop (mkF m 53 #[.val (.int i0), .val (.int i1), .val (.int i2), .val (.int i3), .val (.int i4), .val (.long (if (i4 &&& (2 : Int32)) = 0 then (i0.toInt64) else ((i0 &&& (3 : Int32)).toInt64))), .second, .val (.long (if (i4 &&& (2 : Int32)) = 0 then (i0.toInt64) else ((i0 &&& (3 : Int32)).toInt64))), .second, .val (.long ((if (i4 &&& (2 : Int32)) = 0 then (i0.toInt64) else ((i0 &&& (3 : Int32)).toInt64)) - ((i1 &&& (1 : Int32)).toInt64))), .second, .val (.long (((if (i4 &&& (2 : Int32)) = 0 then (i0.toInt64) else ((i0 &&& (3 : Int32)).toInt64)) - ((i1 &&& (1 : Int32)).toInt64)) - (((i1 >>> ((1 : Int32) &&& 31)) &&& (1 : Int32)).toInt64))), .second, .val (.long ((((if (i4 &&& (2 : Int32)) = 0 then (i0.toInt64) else ((i0 &&& (3 : Int32)).toInt64)) - ((i1 &&& (1 : Int32)).toInt64)) - (((i1 >>> ((1 : Int32) &&& 31)) &&& (1 : Int32)).toInt64)) - (((i1 >>> ((2 : Int32) &&& 31)) &&& (1 : Int32)).toInt64))), .second, .unset, .unset, .unset, .unset, .unset, .unset] [])) _
    refine XS.lload X0.here hx rfl (hb hby at_53) rfl ?_
    show Steps p.tables e below (s₁.setTop (mkF m 55 #[.val (.int i0), .val (.int i1), .val (.int i2), .val (.int i3), .val (.int i4), .val (.long (if (i4 &&& (2 : Int32)) = 0 then (i0.toInt64) else ((i0 &&& (3 : Int32)).toInt64))), .second, .val (.long (if (i4 &&& (2 : Int32)) = 0 then (i0.toInt64) else ((i0 &&& (3 : Int32)).toInt64))), .second, .val (.long ((if (i4 &&& (2 : Int32)) = 0 then (i0.toInt64) else ((i0 &&& (3 : Int32)).toInt64)) - ((i1 &&& (1 : Int32)).toInt64))), .second, .val (.long (((if (i4 &&& (2 : Int32)) = 0 then (i0.toInt64) else ((i0 &&& (3 : Int32)).toInt64)) - ((i1 &&& (1 : Int32)).toInt64)) - (((i1 >>> ((1 : Int32) &&& 31)) &&& (1 : Int32)).toInt64))), .second, .val (.long ((((if (i4 &&& (2 : Int32)) = 0 then (i0.toInt64) else ((i0 &&& (3 : Int32)).toInt64)) - ((i1 &&& (1 : Int32)).toInt64)) - (((i1 >>> ((1 : Int32) &&& 31)) &&& (1 : Int32)).toInt64)) - (((i1 >>> ((2 : Int32) &&& 31)) &&& (1 : Int32)).toInt64))), .second, .unset, .unset, .unset, .unset, .unset, .unset] [(.long ((((if (i4 &&& (2 : Int32)) = 0 then (i0.toInt64) else ((i0 &&& (3 : Int32)).toInt64)) - ((i1 &&& (1 : Int32)).toInt64)) - (((i1 >>> ((1 : Int32) &&& 31)) &&& (1 : Int32)).toInt64)) - (((i1 >>> ((2 : Int32) &&& 31)) &&& (1 : Int32)).toInt64)))])) _
    refine XS.iloadN X0.here hx rfl (hb hby at_55) rfl ?_
    show Steps p.tables e below (s₁.setTop (mkF m 56 #[.val (.int i0), .val (.int i1), .val (.int i2), .val (.int i3), .val (.int i4), .val (.long (if (i4 &&& (2 : Int32)) = 0 then (i0.toInt64) else ((i0 &&& (3 : Int32)).toInt64))), .second, .val (.long (if (i4 &&& (2 : Int32)) = 0 then (i0.toInt64) else ((i0 &&& (3 : Int32)).toInt64))), .second, .val (.long ((if (i4 &&& (2 : Int32)) = 0 then (i0.toInt64) else ((i0 &&& (3 : Int32)).toInt64)) - ((i1 &&& (1 : Int32)).toInt64))), .second, .val (.long (((if (i4 &&& (2 : Int32)) = 0 then (i0.toInt64) else ((i0 &&& (3 : Int32)).toInt64)) - ((i1 &&& (1 : Int32)).toInt64)) - (((i1 >>> ((1 : Int32) &&& 31)) &&& (1 : Int32)).toInt64))), .second, .val (.long ((((if (i4 &&& (2 : Int32)) = 0 then (i0.toInt64) else ((i0 &&& (3 : Int32)).toInt64)) - ((i1 &&& (1 : Int32)).toInt64)) - (((i1 >>> ((1 : Int32) &&& 31)) &&& (1 : Int32)).toInt64)) - (((i1 >>> ((2 : Int32) &&& 31)) &&& (1 : Int32)).toInt64))), .second, .unset, .unset, .unset, .unset, .unset, .unset] [(.int i1), (.long ((((if (i4 &&& (2 : Int32)) = 0 then (i0.toInt64) else ((i0 &&& (3 : Int32)).toInt64)) - ((i1 &&& (1 : Int32)).toInt64)) - (((i1 >>> ((1 : Int32) &&& 31)) &&& (1 : Int32)).toInt64)) - (((i1 >>> ((2 : Int32) &&& 31)) &&& (1 : Int32)).toInt64)))])) _
    refine XS.iconst X0.here hx rfl (hb hby at_56) ?_
    show Steps p.tables e below (s₁.setTop (mkF m 57 #[.val (.int i0), .val (.int i1), .val (.int i2), .val (.int i3), .val (.int i4), .val (.long (if (i4 &&& (2 : Int32)) = 0 then (i0.toInt64) else ((i0 &&& (3 : Int32)).toInt64))), .second, .val (.long (if (i4 &&& (2 : Int32)) = 0 then (i0.toInt64) else ((i0 &&& (3 : Int32)).toInt64))), .second, .val (.long ((if (i4 &&& (2 : Int32)) = 0 then (i0.toInt64) else ((i0 &&& (3 : Int32)).toInt64)) - ((i1 &&& (1 : Int32)).toInt64))), .second, .val (.long (((if (i4 &&& (2 : Int32)) = 0 then (i0.toInt64) else ((i0 &&& (3 : Int32)).toInt64)) - ((i1 &&& (1 : Int32)).toInt64)) - (((i1 >>> ((1 : Int32) &&& 31)) &&& (1 : Int32)).toInt64))), .second, .val (.long ((((if (i4 &&& (2 : Int32)) = 0 then (i0.toInt64) else ((i0 &&& (3 : Int32)).toInt64)) - ((i1 &&& (1 : Int32)).toInt64)) - (((i1 >>> ((1 : Int32) &&& 31)) &&& (1 : Int32)).toInt64)) - (((i1 >>> ((2 : Int32) &&& 31)) &&& (1 : Int32)).toInt64))), .second, .unset, .unset, .unset, .unset, .unset, .unset] [(.int (3 : Int32)), (.int i1), (.long ((((if (i4 &&& (2 : Int32)) = 0 then (i0.toInt64) else ((i0 &&& (3 : Int32)).toInt64)) - ((i1 &&& (1 : Int32)).toInt64)) - (((i1 >>> ((1 : Int32) &&& 31)) &&& (1 : Int32)).toInt64)) - (((i1 >>> ((2 : Int32) &&& 31)) &&& (1 : Int32)).toInt64)))])) _
    refine XS.ishr X0.here hx rfl (hb hby at_57) rfl ?_
    show Steps p.tables e below (s₁.setTop (mkF m 58 #[.val (.int i0), .val (.int i1), .val (.int i2), .val (.int i3), .val (.int i4), .val (.long (if (i4 &&& (2 : Int32)) = 0 then (i0.toInt64) else ((i0 &&& (3 : Int32)).toInt64))), .second, .val (.long (if (i4 &&& (2 : Int32)) = 0 then (i0.toInt64) else ((i0 &&& (3 : Int32)).toInt64))), .second, .val (.long ((if (i4 &&& (2 : Int32)) = 0 then (i0.toInt64) else ((i0 &&& (3 : Int32)).toInt64)) - ((i1 &&& (1 : Int32)).toInt64))), .second, .val (.long (((if (i4 &&& (2 : Int32)) = 0 then (i0.toInt64) else ((i0 &&& (3 : Int32)).toInt64)) - ((i1 &&& (1 : Int32)).toInt64)) - (((i1 >>> ((1 : Int32) &&& 31)) &&& (1 : Int32)).toInt64))), .second, .val (.long ((((if (i4 &&& (2 : Int32)) = 0 then (i0.toInt64) else ((i0 &&& (3 : Int32)).toInt64)) - ((i1 &&& (1 : Int32)).toInt64)) - (((i1 >>> ((1 : Int32) &&& 31)) &&& (1 : Int32)).toInt64)) - (((i1 >>> ((2 : Int32) &&& 31)) &&& (1 : Int32)).toInt64))), .second, .unset, .unset, .unset, .unset, .unset, .unset] [(.int (i1 >>> ((3 : Int32) &&& 31))), (.long ((((if (i4 &&& (2 : Int32)) = 0 then (i0.toInt64) else ((i0 &&& (3 : Int32)).toInt64)) - ((i1 &&& (1 : Int32)).toInt64)) - (((i1 >>> ((1 : Int32) &&& 31)) &&& (1 : Int32)).toInt64)) - (((i1 >>> ((2 : Int32) &&& 31)) &&& (1 : Int32)).toInt64)))])) _
    refine XS.iconst X0.here hx rfl (hb hby at_58) ?_
    show Steps p.tables e below (s₁.setTop (mkF m 59 #[.val (.int i0), .val (.int i1), .val (.int i2), .val (.int i3), .val (.int i4), .val (.long (if (i4 &&& (2 : Int32)) = 0 then (i0.toInt64) else ((i0 &&& (3 : Int32)).toInt64))), .second, .val (.long (if (i4 &&& (2 : Int32)) = 0 then (i0.toInt64) else ((i0 &&& (3 : Int32)).toInt64))), .second, .val (.long ((if (i4 &&& (2 : Int32)) = 0 then (i0.toInt64) else ((i0 &&& (3 : Int32)).toInt64)) - ((i1 &&& (1 : Int32)).toInt64))), .second, .val (.long (((if (i4 &&& (2 : Int32)) = 0 then (i0.toInt64) else ((i0 &&& (3 : Int32)).toInt64)) - ((i1 &&& (1 : Int32)).toInt64)) - (((i1 >>> ((1 : Int32) &&& 31)) &&& (1 : Int32)).toInt64))), .second, .val (.long ((((if (i4 &&& (2 : Int32)) = 0 then (i0.toInt64) else ((i0 &&& (3 : Int32)).toInt64)) - ((i1 &&& (1 : Int32)).toInt64)) - (((i1 >>> ((1 : Int32) &&& 31)) &&& (1 : Int32)).toInt64)) - (((i1 >>> ((2 : Int32) &&& 31)) &&& (1 : Int32)).toInt64))), .second, .unset, .unset, .unset, .unset, .unset, .unset] [(.int (1 : Int32)), (.int (i1 >>> ((3 : Int32) &&& 31))), (.long ((((if (i4 &&& (2 : Int32)) = 0 then (i0.toInt64) else ((i0 &&& (3 : Int32)).toInt64)) - ((i1 &&& (1 : Int32)).toInt64)) - (((i1 >>> ((1 : Int32) &&& 31)) &&& (1 : Int32)).toInt64)) - (((i1 >>> ((2 : Int32) &&& 31)) &&& (1 : Int32)).toInt64)))])) _
    refine XS.iand X0.here hx rfl (hb hby at_59) rfl ?_
    show Steps p.tables e below (s₁.setTop (mkF m 60 #[.val (.int i0), .val (.int i1), .val (.int i2), .val (.int i3), .val (.int i4), .val (.long (if (i4 &&& (2 : Int32)) = 0 then (i0.toInt64) else ((i0 &&& (3 : Int32)).toInt64))), .second, .val (.long (if (i4 &&& (2 : Int32)) = 0 then (i0.toInt64) else ((i0 &&& (3 : Int32)).toInt64))), .second, .val (.long ((if (i4 &&& (2 : Int32)) = 0 then (i0.toInt64) else ((i0 &&& (3 : Int32)).toInt64)) - ((i1 &&& (1 : Int32)).toInt64))), .second, .val (.long (((if (i4 &&& (2 : Int32)) = 0 then (i0.toInt64) else ((i0 &&& (3 : Int32)).toInt64)) - ((i1 &&& (1 : Int32)).toInt64)) - (((i1 >>> ((1 : Int32) &&& 31)) &&& (1 : Int32)).toInt64))), .second, .val (.long ((((if (i4 &&& (2 : Int32)) = 0 then (i0.toInt64) else ((i0 &&& (3 : Int32)).toInt64)) - ((i1 &&& (1 : Int32)).toInt64)) - (((i1 >>> ((1 : Int32) &&& 31)) &&& (1 : Int32)).toInt64)) - (((i1 >>> ((2 : Int32) &&& 31)) &&& (1 : Int32)).toInt64))), .second, .unset, .unset, .unset, .unset, .unset, .unset] [(.int ((i1 >>> ((3 : Int32) &&& 31)) &&& (1 : Int32))), (.long ((((if (i4 &&& (2 : Int32)) = 0 then (i0.toInt64) else ((i0 &&& (3 : Int32)).toInt64)) - ((i1 &&& (1 : Int32)).toInt64)) - (((i1 >>> ((1 : Int32) &&& 31)) &&& (1 : Int32)).toInt64)) - (((i1 >>> ((2 : Int32) &&& 31)) &&& (1 : Int32)).toInt64)))])) _
    refine XS.i2l X0.here hx rfl (hb hby at_60) rfl ?_
    show Steps p.tables e below (s₁.setTop (mkF m 61 #[.val (.int i0), .val (.int i1), .val (.int i2), .val (.int i3), .val (.int i4), .val (.long (if (i4 &&& (2 : Int32)) = 0 then (i0.toInt64) else ((i0 &&& (3 : Int32)).toInt64))), .second, .val (.long (if (i4 &&& (2 : Int32)) = 0 then (i0.toInt64) else ((i0 &&& (3 : Int32)).toInt64))), .second, .val (.long ((if (i4 &&& (2 : Int32)) = 0 then (i0.toInt64) else ((i0 &&& (3 : Int32)).toInt64)) - ((i1 &&& (1 : Int32)).toInt64))), .second, .val (.long (((if (i4 &&& (2 : Int32)) = 0 then (i0.toInt64) else ((i0 &&& (3 : Int32)).toInt64)) - ((i1 &&& (1 : Int32)).toInt64)) - (((i1 >>> ((1 : Int32) &&& 31)) &&& (1 : Int32)).toInt64))), .second, .val (.long ((((if (i4 &&& (2 : Int32)) = 0 then (i0.toInt64) else ((i0 &&& (3 : Int32)).toInt64)) - ((i1 &&& (1 : Int32)).toInt64)) - (((i1 >>> ((1 : Int32) &&& 31)) &&& (1 : Int32)).toInt64)) - (((i1 >>> ((2 : Int32) &&& 31)) &&& (1 : Int32)).toInt64))), .second, .unset, .unset, .unset, .unset, .unset, .unset] [(.long (((i1 >>> ((3 : Int32) &&& 31)) &&& (1 : Int32)).toInt64)), (.long ((((if (i4 &&& (2 : Int32)) = 0 then (i0.toInt64) else ((i0 &&& (3 : Int32)).toInt64)) - ((i1 &&& (1 : Int32)).toInt64)) - (((i1 >>> ((1 : Int32) &&& 31)) &&& (1 : Int32)).toInt64)) - (((i1 >>> ((2 : Int32) &&& 31)) &&& (1 : Int32)).toInt64)))])) _
    refine XS.lsub X0.here hx rfl (hb hby at_61) rfl ?_
    show Steps p.tables e below (s₁.setTop (mkF m 62 #[.val (.int i0), .val (.int i1), .val (.int i2), .val (.int i3), .val (.int i4), .val (.long (if (i4 &&& (2 : Int32)) = 0 then (i0.toInt64) else ((i0 &&& (3 : Int32)).toInt64))), .second, .val (.long (if (i4 &&& (2 : Int32)) = 0 then (i0.toInt64) else ((i0 &&& (3 : Int32)).toInt64))), .second, .val (.long ((if (i4 &&& (2 : Int32)) = 0 then (i0.toInt64) else ((i0 &&& (3 : Int32)).toInt64)) - ((i1 &&& (1 : Int32)).toInt64))), .second, .val (.long (((if (i4 &&& (2 : Int32)) = 0 then (i0.toInt64) else ((i0 &&& (3 : Int32)).toInt64)) - ((i1 &&& (1 : Int32)).toInt64)) - (((i1 >>> ((1 : Int32) &&& 31)) &&& (1 : Int32)).toInt64))), .second, .val (.long ((((if (i4 &&& (2 : Int32)) = 0 then (i0.toInt64) else ((i0 &&& (3 : Int32)).toInt64)) - ((i1 &&& (1 : Int32)).toInt64)) - (((i1 >>> ((1 : Int32) &&& 31)) &&& (1 : Int32)).toInt64)) - (((i1 >>> ((2 : Int32) &&& 31)) &&& (1 : Int32)).toInt64))), .second, .unset, .unset, .unset, .unset, .unset, .unset] [(.long (((((if (i4 &&& (2 : Int32)) = 0 then (i0.toInt64) else ((i0 &&& (3 : Int32)).toInt64)) - ((i1 &&& (1 : Int32)).toInt64)) - (((i1 >>> ((1 : Int32) &&& 31)) &&& (1 : Int32)).toInt64)) - (((i1 >>> ((2 : Int32) &&& 31)) &&& (1 : Int32)).toInt64)) - (((i1 >>> ((3 : Int32) &&& 31)) &&& (1 : Int32)).toInt64)))])) _
    refine XS.lstore X0.here hx rfl (hb hby at_62) rfl (l' := #[.val (.int i0), .val (.int i1), .val (.int i2), .val (.int i3), .val (.int i4), .val (.long (if (i4 &&& (2 : Int32)) = 0 then (i0.toInt64) else ((i0 &&& (3 : Int32)).toInt64))), .second, .val (.long (if (i4 &&& (2 : Int32)) = 0 then (i0.toInt64) else ((i0 &&& (3 : Int32)).toInt64))), .second, .val (.long ((if (i4 &&& (2 : Int32)) = 0 then (i0.toInt64) else ((i0 &&& (3 : Int32)).toInt64)) - ((i1 &&& (1 : Int32)).toInt64))), .second, .val (.long (((if (i4 &&& (2 : Int32)) = 0 then (i0.toInt64) else ((i0 &&& (3 : Int32)).toInt64)) - ((i1 &&& (1 : Int32)).toInt64)) - (((i1 >>> ((1 : Int32) &&& 31)) &&& (1 : Int32)).toInt64))), .second, .val (.long ((((if (i4 &&& (2 : Int32)) = 0 then (i0.toInt64) else ((i0 &&& (3 : Int32)).toInt64)) - ((i1 &&& (1 : Int32)).toInt64)) - (((i1 >>> ((1 : Int32) &&& 31)) &&& (1 : Int32)).toInt64)) - (((i1 >>> ((2 : Int32) &&& 31)) &&& (1 : Int32)).toInt64))), .second, .val (.long (((((if (i4 &&& (2 : Int32)) = 0 then (i0.toInt64) else ((i0 &&& (3 : Int32)).toInt64)) - ((i1 &&& (1 : Int32)).toInt64)) - (((i1 >>> ((1 : Int32) &&& 31)) &&& (1 : Int32)).toInt64)) - (((i1 >>> ((2 : Int32) &&& 31)) &&& (1 : Int32)).toInt64)) - (((i1 >>> ((3 : Int32) &&& 31)) &&& (1 : Int32)).toInt64))), .second, .unset, .unset, .unset, .unset]) rfl ?_
    show Steps p.tables e below (s₁.setTop (mkF m 64 #[.val (.int i0), .val (.int i1), .val (.int i2), .val (.int i3), .val (.int i4), .val (.long (if (i4 &&& (2 : Int32)) = 0 then (i0.toInt64) else ((i0 &&& (3 : Int32)).toInt64))), .second, .val (.long (if (i4 &&& (2 : Int32)) = 0 then (i0.toInt64) else ((i0 &&& (3 : Int32)).toInt64))), .second, .val (.long ((if (i4 &&& (2 : Int32)) = 0 then (i0.toInt64) else ((i0 &&& (3 : Int32)).toInt64)) - ((i1 &&& (1 : Int32)).toInt64))), .second, .val (.long (((if (i4 &&& (2 : Int32)) = 0 then (i0.toInt64) else ((i0 &&& (3 : Int32)).toInt64)) - ((i1 &&& (1 : Int32)).toInt64)) - (((i1 >>> ((1 : Int32) &&& 31)) &&& (1 : Int32)).toInt64))), .second, .val (.long ((((if (i4 &&& (2 : Int32)) = 0 then (i0.toInt64) else ((i0 &&& (3 : Int32)).toInt64)) - ((i1 &&& (1 : Int32)).toInt64)) - (((i1 >>> ((1 : Int32) &&& 31)) &&& (1 : Int32)).toInt64)) - (((i1 >>> ((2 : Int32) &&& 31)) &&& (1 : Int32)).toInt64))), .second, .val (.long (((((if (i4 &&& (2 : Int32)) = 0 then (i0.toInt64) else ((i0 &&& (3 : Int32)).toInt64)) - ((i1 &&& (1 : Int32)).toInt64)) - (((i1 >>> ((1 : Int32) &&& 31)) &&& (1 : Int32)).toInt64)) - (((i1 >>> ((2 : Int32) &&& 31)) &&& (1 : Int32)).toInt64)) - (((i1 >>> ((3 : Int32) &&& 31)) &&& (1 : Int32)).toInt64))), .second, .unset, .unset, .unset, .unset] [])) _
    refine XS.iconst X0.here hx rfl (hb hby at_64) ?_
    exact Steps.refl _
  generalize (((((if (i4 &&& (2 : Int32)) = 0 then (i0.toInt64) else ((i0 &&& (3 : Int32)).toInt64)) - ((i1 &&& (1 : Int32)).toInt64)) - (((i1 >>> ((1 : Int32) &&& 31)) &&& (1 : Int32)).toInt64)) - (((i1 >>> ((2 : Int32) &&& 31)) &&& (1 : Int32)).toInt64)) - (((i1 >>> ((3 : Int32) &&& 31)) &&& (1 : Int32)).toInt64)) = v4 at c3
  generalize ((((if (i4 &&& (2 : Int32)) = 0 then (i0.toInt64) else ((i0 &&& (3 : Int32)).toInt64)) - ((i1 &&& (1 : Int32)).toInt64)) - (((i1 >>> ((1 : Int32) &&& 31)) &&& (1 : Int32)).toInt64)) - (((i1 >>> ((2 : Int32) &&& 31)) &&& (1 : Int32)).toInt64)) = v3 at c3
  generalize (((if (i4 &&& (2 : Int32)) = 0 then (i0.toInt64) else ((i0 &&& (3 : Int32)).toInt64)) - ((i1 &&& (1 : Int32)).toInt64)) - (((i1 >>> ((1 : Int32) &&& 31)) &&& (1 : Int32)).toInt64)) = v2 at c3
  generalize ((if (i4 &&& (2 : Int32)) = 0 then (i0.toInt64) else ((i0 &&& (3 : Int32)).toInt64)) - ((i1 &&& (1 : Int32)).toInt64)) = v1 at c3
  generalize (if (i4 &&& (2 : Int32)) = 0 then (i0.toInt64) else ((i0 &&& (3 : Int32)).toInt64)) = v0 at c3
  obtain ⟨T4, h4, kA4, X4, e4, E4, A4, st4⟩ := newP X0 hx hZ (hw _ (List.mem_of_getElem? (i := 0) rfl)) e0 (g := (mkF m 65 #[.val (.int i0), .val (.int i1), .val (.int i2), .val (.int i3), .val (.int i4), .val (.long v0), .second, .val (.long v0), .second, .val (.long v1), .second, .val (.long v2), .second, .val (.long v3), .second, .val (.long v4), .second, .unset, .unset, .unset, .unset] [(.int (5 : Int32))])) rfl (hb hby at_65) rfl (by decide : ¬ ((5 : Int32) < (0 : Int32))) (cap := 5) (by decide) (by decide) (by decide) (by decide)
  obtain ⟨b4, g4⟩ : ∃ z, z = h0.size := ⟨_, rfl⟩
  rw [← g4] at A4 st4
  have c4 : Steps p.tables e below S0 (T4.setTop (mkF m 67 #[.val (.int i0), .val (.int i1), .val (.int i2), .val (.int i3), .val (.int i4), .val (.long v0), .second, .val (.long v0), .second, .val (.long v1), .second, .val (.long v2), .second, .val (.long v3), .second, .val (.long v4), .second, .unset, .unset, .unset, .unset] [(.ref b4)])) := by
    refine c3.trans ?_
    show Steps p.tables e below (s₁.setTop (mkF m 65 #[.val (.int i0), .val (.int i1), .val (.int i2), .val (.int i3), .val (.int i4), .val (.long v0), .second, .val (.long v0), .second, .val (.long v1), .second, .val (.long v2), .second, .val (.long v3), .second, .val (.long v4), .second, .unset, .unset, .unset, .unset] [(.int (5 : Int32))])) _
    refine st4 _ ?_
    exact Steps.refl _
  have V4 := Arv.new A4 (by decide)
  have gb : n0 ≤ b4 := Nat.le_trans Z0 (Nat.le_of_eq g4.symm)
  have Zb : n0 ≤ h4.size := Nat.le_trans Z0 E4.1
  have c5 : Steps p.tables e below S0 (T4.setTop (mkF m 80 #[.val (.int i0), .val (.int i1), .val (.int i2), .val (.int i3), .val (.int i4), .val (.long v0), .second, .val (.long v0), .second, .val (.long v1), .second, .val (.long v2), .second, .val (.long v3), .second, .val (.long v4), .second, .val (.ref b4), .unset, .unset, .unset] [(.int ((i4 >>> ((2 : Int32) &&& 31)) &&& (1 : Int32))), (.long v0), (.int (0 : Int32)), (.ref b4)])) := by
    refine c4.trans ?_
    show Steps p.tables e below (T4.setTop (mkF m 67 #[.val (.int i0), .val (.int i1), .val (.int i2), .val (.int i3), .val (.int i4), .val (.long v0), .second, .val (.long v0), .second, .val (.long v1), .second, .val (.long v2), .second, .val (.long v3), .second, .val (.long v4), .second, .unset, .unset, .unset, .unset] [(.ref b4)])) _
    refine XS.astore X4.here hx rfl (hb hby at_67) rfl rfl (l' := #[.val (.int i0), .val (.int i1), .val (.int i2), .val (.int i3), .val (.int i4), .val (.long v0), .second, .val (.long v0), .second, .val (.long v1), .second, .val (.long v2), .second, .val (.long v3), .second, .val (.long v4), .second, .val (.ref b4), .unset, .unset, .unset]) rfl ?_
    show Steps p.tables e below (T4.setTop (mkF m 69 #[.val (.int i0), .val (.int i1), .val (.int i2), .val (.int i3), .val (.int i4), .val (.long v0), .second, .val (.long v0), .second, .val (.long v1), .second, .val (.long v2), .second, .val (.long v3), .second, .val (.long v4), .second, .val (.ref b4), .unset, .unset, .unset] [])) _
    refine XS.aload X4.here hx rfl (hb hby at_69) rfl rfl ?_
    show Steps p.tables e below (T4.setTop (mkF m 71 #[.val (.int i0), .val (.int i1), .val (.int i2), .val (.int i3), .val (.int i4), .val (.long v0), .second, .val (.long v0), .second, .val (.long v1), .second, .val (.long v2), .second, .val (.long v3), .second, .val (.long v4), .second, .val (.ref b4), .unset, .unset, .unset] [(.ref b4)])) _
    refine XS.iconst X4.here hx rfl (hb hby at_71) ?_
    show Steps p.tables e below (T4.setTop (mkF m 72 #[.val (.int i0), .val (.int i1), .val (.int i2), .val (.int i3), .val (.int i4), .val (.long v0), .second, .val (.long v0), .second, .val (.long v1), .second, .val (.long v2), .second, .val (.long v3), .second, .val (.long v4), .second, .val (.ref b4), .unset, .unset, .unset] [(.int (0 : Int32)), (.ref b4)])) _
    refine XS.lload X4.here hx rfl (hb hby at_72) rfl ?_
    show Steps p.tables e below (T4.setTop (mkF m 74 #[.val (.int i0), .val (.int i1), .val (.int i2), .val (.int i3), .val (.int i4), .val (.long v0), .second, .val (.long v0), .second, .val (.long v1), .second, .val (.long v2), .second, .val (.long v3), .second, .val (.long v4), .second, .val (.ref b4), .unset, .unset, .unset] [(.long v0), (.int (0 : Int32)), (.ref b4)])) _
    refine XS.iload X4.here hx rfl (hb hby at_74) rfl ?_
    show Steps p.tables e below (T4.setTop (mkF m 76 #[.val (.int i0), .val (.int i1), .val (.int i2), .val (.int i3), .val (.int i4), .val (.long v0), .second, .val (.long v0), .second, .val (.long v1), .second, .val (.long v2), .second, .val (.long v3), .second, .val (.long v4), .second, .val (.ref b4), .unset, .unset, .unset] [(.int i4), (.long v0), (.int (0 : Int32)), (.ref b4)])) _
    refine XS.iconst X4.here hx rfl (hb hby at_76) ?_
    show Steps p.tables e below (T4.setTop (mkF m 77 #[.val (.int i0), .val (.int i1), .val (.int i2), .val (.int i3), .val (.int i4), .val (.long v0), .second, .val (.long v0), .second, .val (.long v1), .second, .val (.long v2), .second, .val (.long v3), .second, .val (.long v4), .second, .val (.ref b4), .unset, .unset, .unset] [(.int (2 : Int32)), (.int i4), (.long v0), (.int (0 : Int32)), (.ref b4)])) _
    refine XS.ishr X4.here hx rfl (hb hby at_77) rfl ?_
    show Steps p.tables e below (T4.setTop (mkF m 78 #[.val (.int i0), .val (.int i1), .val (.int i2), .val (.int i3), .val (.int i4), .val (.long v0), .second, .val (.long v0), .second, .val (.long v1), .second, .val (.long v2), .second, .val (.long v3), .second, .val (.long v4), .second, .val (.ref b4), .unset, .unset, .unset] [(.int (i4 >>> ((2 : Int32) &&& 31))), (.long v0), (.int (0 : Int32)), (.ref b4)])) _
    refine XS.iconst X4.here hx rfl (hb hby at_78) ?_
    show Steps p.tables e below (T4.setTop (mkF m 79 #[.val (.int i0), .val (.int i1), .val (.int i2), .val (.int i3), .val (.int i4), .val (.long v0), .second, .val (.long v0), .second, .val (.long v1), .second, .val (.long v2), .second, .val (.long v3), .second, .val (.long v4), .second, .val (.ref b4), .unset, .unset, .unset] [(.int (1 : Int32)), (.int (i4 >>> ((2 : Int32) &&& 31))), (.long v0), (.int (0 : Int32)), (.ref b4)])) _
    refine XS.iand X4.here hx rfl (hb hby at_79) rfl ?_
    exact Steps.refl _
  obtain ⟨_, _, ⟨T6, L6, k6, n6⟩, -, X6, ⟨Lc6, hQ6, l6, y6, z6⟩, st6⟩ := Jvm.LawKit.callS X4 hx (y := (⟨"com/example/canvass/canvass/core/ScoreOrderEndOfTiePinLaw", "score", "(JI)D"⟩ : MethodName)) hown (mvT hZ (hw _ (List.mem_of_getElem? (i := 1) rfl))) (mvT hZ (hw _ (List.mem_of_getElem? (i := 2) rfl))) (mvT hZ (hw _ (List.mem_of_getElem? (i := 3) rfl))) (mvT hZ (hw _ (List.mem_of_getElem? (i := 4) rfl))) (by decide) (backOf (W := 2) (rm3 l Z a0 hw [] v0 ((i4 >>> ((2 : Int32) &&& 31)) &&& (1 : Int32)) h4 n0 Zb) hZ (hw _ (List.mem_of_getElem? (i := 4) rfl)) (hw _ (List.mem_of_getElem? (i := 3) rfl)) (by decide) (by decide)) (g := (mkF m 80 #[.val (.int i0), .val (.int i1), .val (.int i2), .val (.int i3), .val (.int i4), .val (.long v0), .second, .val (.long v0), .second, .val (.long v1), .second, .val (.long v2), .second, .val (.long v3), .second, .val (.long v4), .second, .val (.ref b4), .unset, .unset, .unset] [(.int ((i4 >>> ((2 : Int32) &&& 31)) &&& (1 : Int32))), (.long v0), (.int (0 : Int32)), (.ref b4)])) rfl (by rw [hml]; rfl) (argsL := [(.long v0), (.int ((i4 >>> ((2 : Int32) &&& 31)) &&& (1 : Int32)))]) (rest := [(.int (0 : Int32)), (.ref b4)]) (lenOf pd0 rfl) rfl (by show 2 * 0 + _ ≤ _; exact Nat.le_of_eq rfl) (hb hby at_80) (fun _ _ => ⟨rfl, e4, (by decide : 1 + 0 ≤ _), (by decide : 5 + 0 ≤ _)⟩)
  dsimp only [Pt.U, Pt.locs, Pt.cells, Pt.slots] at X6 l6 y6 z6 st6 hQ6
  subst l6 y6 z6
  obtain ⟨⟨d0, rfl⟩, Ns0, es0⟩ := hQ6
  have c6 : Steps p.tables e below S0 (T6.setTop (mkF m 83 #[.val (.int i0), .val (.int i1), .val (.int i2), .val (.int i3), .val (.int i4), .val (.long v0), .second, .val (.long v0), .second, .val (.long v1), .second, .val (.long v2), .second, .val (.long v3), .second, .val (.long v4), .second, .val (.ref b4), .unset, .unset, .unset] [(.double d0), (.int (0 : Int32)), (.ref b4)])) := by
    refine c5.trans ?_
    show Steps p.tables e below (T4.setTop (mkF m 80 #[.val (.int i0), .val (.int i1), .val (.int i2), .val (.int i3), .val (.int i4), .val (.long v0), .second, .val (.long v0), .second, .val (.long v1), .second, .val (.long v2), .second, .val (.long v3), .second, .val (.long v4), .second, .val (.ref b4), .unset, .unset, .unset] [(.int ((i4 >>> ((2 : Int32) &&& 31)) &&& (1 : Int32))), (.long v0), (.int (0 : Int32)), (.ref b4)])) _
    refine st6 _ ?_
    exact Steps.refl _
  have Na0 := Fr.app N0 Ns0
  have Vp7 : Arv Z _ b4 kA4 .double (5 : Int32) [(.double 0)] (.double 0) := V4.pad (pad_rep [] (.double 0) 1)
  obtain ⟨cl7, Ar7, qr7, S7, M7, Hs7, U7⟩ := Vp7
  obtain ⟨T7, h7, X7, e7, W7, st7⟩ := stD X6 hx hZ es0 Ar7 (j := (0 : Int32)) (inb_of S7 ⟨(by decide), (by decide)⟩) (g := (mkF m 83 #[.val (.int i0), .val (.int i1), .val (.int i2), .val (.int i3), .val (.int i4), .val (.long v0), .second, .val (.long v0), .second, .val (.long v1), .second, .val (.long v2), .second, .val (.long v3), .second, .val (.long v4), .second, .val (.ref b4), .unset, .unset, .unset] [(.double d0), (.int (0 : Int32)), (.ref b4)])) rfl rfl (hb hby at_83)
  have V7 : Arv Z h7 b4 kA4 .double (5 : Int32) [(.double d0)] (.double 0) := Arv.set Ar7 qr7 S7 M7 Hs7 U7 rfl W7 0 rfl (Nat.le_of_ble_eq_true rfl)
  have c7 : Steps p.tables e below S0 (T7.setTop (mkF m 84 #[.val (.int i0), .val (.int i1), .val (.int i2), .val (.int i3), .val (.int i4), .val (.long v0), .second, .val (.long v0), .second, .val (.long v1), .second, .val (.long v2), .second, .val (.long v3), .second, .val (.long v4), .second, .val (.ref b4), .unset, .unset, .unset] [])) := by
    refine c6.trans ?_
    show Steps p.tables e below (T6.setTop (mkF m 83 #[.val (.int i0), .val (.int i1), .val (.int i2), .val (.int i3), .val (.int i4), .val (.long v0), .second, .val (.long v0), .second, .val (.long v1), .second, .val (.long v2), .second, .val (.long v3), .second, .val (.long v4), .second, .val (.ref b4), .unset, .unset, .unset] [(.double d0), (.int (0 : Int32)), (.ref b4)])) _
    refine st7 _ ?_
    exact Steps.refl _
  have Nb0 := Fr.snoc X7 Na0 gb
  have Zb0 : n0 ≤ h7.size := Nat.le_trans Zb (Nat.le_of_eq (own_wsz W7).symm)
  have c8 : Steps p.tables e below S0 (T7.setTop (mkF m 95 #[.val (.int i0), .val (.int i1), .val (.int i2), .val (.int i3), .val (.int i4), .val (.long v0), .second, .val (.long v0), .second, .val (.long v1), .second, .val (.long v2), .second, .val (.long v3), .second, .val (.long v4), .second, .val (.ref b4), .unset, .unset, .unset] [(.int ((i4 >>> ((3 : Int32) &&& 31)) &&& (1 : Int32))), (.long v1), (.int (1 : Int32)), (.ref b4)])) := by
    refine c7.trans ?_
    show Steps p.tables e below (T7.setTop (mkF m 84 #[.val (.int i0), .val (.int i1), .val (.int i2), .val (.int i3), .val (.int i4), .val (.long v0), .second, .val (.long v0), .second, .val (.long v1), .second, .val (.long v2), .second, .val (.long v3), .second, .val (.long v4), .second, .val (.ref b4), .unset, .unset, .unset] [])) _
    refine XS.aload X7.here hx rfl (hb hby at_84) rfl rfl ?_
    show Steps p.tables e below (T7.setTop (mkF m 86 #[.val (.int i0), .val (.int i1), .val (.int i2), .val (.int i3), .val (.int i4), .val (.long v0), .second, .val (.long v0), .second, .val (.long v1), .second, .val (.long v2), .second, .val (.long v3), .second, .val (.long v4), .second, .val (.ref b4), .unset, .unset, .unset] [(.ref b4)])) _
    refine XS.iconst X7.here hx rfl (hb hby at_86) ?_
    show Steps p.tables e below (T7.setTop (mkF m 87 #[.val (.int i0), .val (.int i1), .val (.int i2), .val (.int i3), .val (.int i4), .val (.long v0), .second, .val (.long v0), .second, .val (.long v1), .second, .val (.long v2), .second, .val (.long v3), .second, .val (.long v4), .second, .val (.ref b4), .unset, .unset, .unset] [(.int (1 : Int32)), (.ref b4)])) _
    refine XS.lload X7.here hx rfl (hb hby at_87) rfl ?_
    show Steps p.tables e below (T7.setTop (mkF m 89 #[.val (.int i0), .val (.int i1), .val (.int i2), .val (.int i3), .val (.int i4), .val (.long v0), .second, .val (.long v0), .second, .val (.long v1), .second, .val (.long v2), .second, .val (.long v3), .second, .val (.long v4), .second, .val (.ref b4), .unset, .unset, .unset] [(.long v1), (.int (1 : Int32)), (.ref b4)])) _
    refine XS.iload X7.here hx rfl (hb hby at_89) rfl ?_
    show Steps p.tables e below (T7.setTop (mkF m 91 #[.val (.int i0), .val (.int i1), .val (.int i2), .val (.int i3), .val (.int i4), .val (.long v0), .second, .val (.long v0), .second, .val (.long v1), .second, .val (.long v2), .second, .val (.long v3), .second, .val (.long v4), .second, .val (.ref b4), .unset, .unset, .unset] [(.int i4), (.long v1), (.int (1 : Int32)), (.ref b4)])) _
    refine XS.iconst X7.here hx rfl (hb hby at_91) ?_
    show Steps p.tables e below (T7.setTop (mkF m 92 #[.val (.int i0), .val (.int i1), .val (.int i2), .val (.int i3), .val (.int i4), .val (.long v0), .second, .val (.long v0), .second, .val (.long v1), .second, .val (.long v2), .second, .val (.long v3), .second, .val (.long v4), .second, .val (.ref b4), .unset, .unset, .unset] [(.int (3 : Int32)), (.int i4), (.long v1), (.int (1 : Int32)), (.ref b4)])) _
    refine XS.ishr X7.here hx rfl (hb hby at_92) rfl ?_
    show Steps p.tables e below (T7.setTop (mkF m 93 #[.val (.int i0), .val (.int i1), .val (.int i2), .val (.int i3), .val (.int i4), .val (.long v0), .second, .val (.long v0), .second, .val (.long v1), .second, .val (.long v2), .second, .val (.long v3), .second, .val (.long v4), .second, .val (.ref b4), .unset, .unset, .unset] [(.int (i4 >>> ((3 : Int32) &&& 31))), (.long v1), (.int (1 : Int32)), (.ref b4)])) _
    refine XS.iconst X7.here hx rfl (hb hby at_93) ?_
    show Steps p.tables e below (T7.setTop (mkF m 94 #[.val (.int i0), .val (.int i1), .val (.int i2), .val (.int i3), .val (.int i4), .val (.long v0), .second, .val (.long v0), .second, .val (.long v1), .second, .val (.long v2), .second, .val (.long v3), .second, .val (.long v4), .second, .val (.ref b4), .unset, .unset, .unset] [(.int (1 : Int32)), (.int (i4 >>> ((3 : Int32) &&& 31))), (.long v1), (.int (1 : Int32)), (.ref b4)])) _
    refine XS.iand X7.here hx rfl (hb hby at_94) rfl ?_
    exact Steps.refl _
  obtain ⟨_, _, ⟨T9, L9, k9, n9⟩, -, X9, ⟨Lc9, hQ9, l9, y9, z9⟩, st9⟩ := Jvm.LawKit.callS X7 hx (y := (⟨"com/example/canvass/canvass/core/ScoreOrderEndOfTiePinLaw", "score", "(JI)D"⟩ : MethodName)) hown (mvT hZ (hw _ (List.mem_of_getElem? (i := 1) rfl))) (mvT hZ (hw _ (List.mem_of_getElem? (i := 2) rfl))) (mvT hZ (hw _ (List.mem_of_getElem? (i := 3) rfl))) (mvT hZ (hw _ (List.mem_of_getElem? (i := 4) rfl))) (by decide) (backOf (W := 2) (rm3 l Z a0 hw [] v1 ((i4 >>> ((3 : Int32) &&& 31)) &&& (1 : Int32)) h7 n0 Zb0) hZ (hw _ (List.mem_of_getElem? (i := 4) rfl)) (hw _ (List.mem_of_getElem? (i := 3) rfl)) (by decide) (by decide)) (g := (mkF m 95 #[.val (.int i0), .val (.int i1), .val (.int i2), .val (.int i3), .val (.int i4), .val (.long v0), .second, .val (.long v0), .second, .val (.long v1), .second, .val (.long v2), .second, .val (.long v3), .second, .val (.long v4), .second, .val (.ref b4), .unset, .unset, .unset] [(.int ((i4 >>> ((3 : Int32) &&& 31)) &&& (1 : Int32))), (.long v1), (.int (1 : Int32)), (.ref b4)])) rfl (by rw [hml]; rfl) (argsL := [(.long v1), (.int ((i4 >>> ((3 : Int32) &&& 31)) &&& (1 : Int32)))]) (rest := [(.int (1 : Int32)), (.ref b4)]) (lenOf pd0 rfl) rfl (by show 2 * 0 + _ ≤ _; exact Nat.le_of_eq rfl) (hb hby at_95) (fun _ _ => ⟨rfl, e7, (by decide : 1 + 0 ≤ _), (by decide : 5 + 0 ≤ _)⟩)
  dsimp only [Pt.U, Pt.locs, Pt.cells, Pt.slots] at X9 l9 y9 z9 st9 hQ9
  subst l9 y9 z9
  obtain ⟨⟨d1, rfl⟩, Ns1, es1⟩ := hQ9
  have c9 : Steps p.tables e below S0 (T9.setTop (mkF m 98 #[.val (.int i0), .val (.int i1), .val (.int i2), .val (.int i3), .val (.int i4), .val (.long v0), .second, .val (.long v0), .second, .val (.long v1), .second, .val (.long v2), .second, .val (.long v3), .second, .val (.long v4), .second, .val (.ref b4), .unset, .unset, .unset] [(.double d1), (.int (1 : Int32)), (.ref b4)])) := by
    refine c8.trans ?_
    show Steps p.tables e below (T7.setTop (mkF m 95 #[.val (.int i0), .val (.int i1), .val (.int i2), .val (.int i3), .val (.int i4), .val (.long v0), .second, .val (.long v0), .second, .val (.long v1), .second, .val (.long v2), .second, .val (.long v3), .second, .val (.long v4), .second, .val (.ref b4), .unset, .unset, .unset] [(.int ((i4 >>> ((3 : Int32) &&& 31)) &&& (1 : Int32))), (.long v1), (.int (1 : Int32)), (.ref b4)])) _
    refine st9 _ ?_
    exact Steps.refl _
  have Na1 := Fr.app Nb0 Ns1
  have Vp10 : Arv Z _ b4 kA4 .double (5 : Int32) [(.double d0), (.double 0)] (.double 0) := V7.pad (pad_rep [(.double d0)] (.double 0) 1)
  obtain ⟨cl10, Ar10, qr10, S10, M10, Hs10, U10⟩ := Vp10
  obtain ⟨T10, h10, X10, e10, W10, st10⟩ := stD X9 hx hZ es1 Ar10 (j := (1 : Int32)) (inb_of S10 ⟨(by decide), (by decide)⟩) (g := (mkF m 98 #[.val (.int i0), .val (.int i1), .val (.int i2), .val (.int i3), .val (.int i4), .val (.long v0), .second, .val (.long v0), .second, .val (.long v1), .second, .val (.long v2), .second, .val (.long v3), .second, .val (.long v4), .second, .val (.ref b4), .unset, .unset, .unset] [(.double d1), (.int (1 : Int32)), (.ref b4)])) rfl rfl (hb hby at_98)
  have V10 : Arv Z h10 b4 kA4 .double (5 : Int32) [(.double d0), (.double d1)] (.double 0) := Arv.set Ar10 qr10 S10 M10 Hs10 U10 rfl W10 1 rfl (Nat.le_of_ble_eq_true rfl)
  have c10 : Steps p.tables e below S0 (T10.setTop (mkF m 99 #[.val (.int i0), .val (.int i1), .val (.int i2), .val (.int i3), .val (.int i4), .val (.long v0), .second, .val (.long v0), .second, .val (.long v1), .second, .val (.long v2), .second, .val (.long v3), .second, .val (.long v4), .second, .val (.ref b4), .unset, .unset, .unset] [])) := by
    refine c9.trans ?_
    show Steps p.tables e below (T9.setTop (mkF m 98 #[.val (.int i0), .val (.int i1), .val (.int i2), .val (.int i3), .val (.int i4), .val (.long v0), .second, .val (.long v0), .second, .val (.long v1), .second, .val (.long v2), .second, .val (.long v3), .second, .val (.long v4), .second, .val (.ref b4), .unset, .unset, .unset] [(.double d1), (.int (1 : Int32)), (.ref b4)])) _
    refine st10 _ ?_
    exact Steps.refl _
  have Nb1 := Fr.snoc X10 Na1 gb
  have Zb1 : n0 ≤ h10.size := Nat.le_trans Zb0 (Nat.le_of_eq (own_wsz W10).symm)
  have c11 : Steps p.tables e below S0 (T10.setTop (mkF m 110 #[.val (.int i0), .val (.int i1), .val (.int i2), .val (.int i3), .val (.int i4), .val (.long v0), .second, .val (.long v0), .second, .val (.long v1), .second, .val (.long v2), .second, .val (.long v3), .second, .val (.long v4), .second, .val (.ref b4), .unset, .unset, .unset] [(.int ((i4 >>> ((4 : Int32) &&& 31)) &&& (1 : Int32))), (.long v2), (.int (2 : Int32)), (.ref b4)])) := by
    refine c10.trans ?_
    show Steps p.tables e below (T10.setTop (mkF m 99 #[.val (.int i0), .val (.int i1), .val (.int i2), .val (.int i3), .val (.int i4), .val (.long v0), .second, .val (.long v0), .second, .val (.long v1), .second, .val (.long v2), .second, .val (.long v3), .second, .val (.long v4), .second, .val (.ref b4), .unset, .unset, .unset] [])) _
    refine XS.aload X10.here hx rfl (hb hby at_99) rfl rfl ?_
    show Steps p.tables e below (T10.setTop (mkF m 101 #[.val (.int i0), .val (.int i1), .val (.int i2), .val (.int i3), .val (.int i4), .val (.long v0), .second, .val (.long v0), .second, .val (.long v1), .second, .val (.long v2), .second, .val (.long v3), .second, .val (.long v4), .second, .val (.ref b4), .unset, .unset, .unset] [(.ref b4)])) _
    refine XS.iconst X10.here hx rfl (hb hby at_101) ?_
    show Steps p.tables e below (T10.setTop (mkF m 102 #[.val (.int i0), .val (.int i1), .val (.int i2), .val (.int i3), .val (.int i4), .val (.long v0), .second, .val (.long v0), .second, .val (.long v1), .second, .val (.long v2), .second, .val (.long v3), .second, .val (.long v4), .second, .val (.ref b4), .unset, .unset, .unset] [(.int (2 : Int32)), (.ref b4)])) _
    refine XS.lload X10.here hx rfl (hb hby at_102) rfl ?_
    show Steps p.tables e below (T10.setTop (mkF m 104 #[.val (.int i0), .val (.int i1), .val (.int i2), .val (.int i3), .val (.int i4), .val (.long v0), .second, .val (.long v0), .second, .val (.long v1), .second, .val (.long v2), .second, .val (.long v3), .second, .val (.long v4), .second, .val (.ref b4), .unset, .unset, .unset] [(.long v2), (.int (2 : Int32)), (.ref b4)])) _
    refine XS.iload X10.here hx rfl (hb hby at_104) rfl ?_
    show Steps p.tables e below (T10.setTop (mkF m 106 #[.val (.int i0), .val (.int i1), .val (.int i2), .val (.int i3), .val (.int i4), .val (.long v0), .second, .val (.long v0), .second, .val (.long v1), .second, .val (.long v2), .second, .val (.long v3), .second, .val (.long v4), .second, .val (.ref b4), .unset, .unset, .unset] [(.int i4), (.long v2), (.int (2 : Int32)), (.ref b4)])) _
    refine XS.iconst X10.here hx rfl (hb hby at_106) ?_
    show Steps p.tables e below (T10.setTop (mkF m 107 #[.val (.int i0), .val (.int i1), .val (.int i2), .val (.int i3), .val (.int i4), .val (.long v0), .second, .val (.long v0), .second, .val (.long v1), .second, .val (.long v2), .second, .val (.long v3), .second, .val (.long v4), .second, .val (.ref b4), .unset, .unset, .unset] [(.int (4 : Int32)), (.int i4), (.long v2), (.int (2 : Int32)), (.ref b4)])) _
    refine XS.ishr X10.here hx rfl (hb hby at_107) rfl ?_
    show Steps p.tables e below (T10.setTop (mkF m 108 #[.val (.int i0), .val (.int i1), .val (.int i2), .val (.int i3), .val (.int i4), .val (.long v0), .second, .val (.long v0), .second, .val (.long v1), .second, .val (.long v2), .second, .val (.long v3), .second, .val (.long v4), .second, .val (.ref b4), .unset, .unset, .unset] [(.int (i4 >>> ((4 : Int32) &&& 31))), (.long v2), (.int (2 : Int32)), (.ref b4)])) _
    refine XS.iconst X10.here hx rfl (hb hby at_108) ?_
    show Steps p.tables e below (T10.setTop (mkF m 109 #[.val (.int i0), .val (.int i1), .val (.int i2), .val (.int i3), .val (.int i4), .val (.long v0), .second, .val (.long v0), .second, .val (.long v1), .second, .val (.long v2), .second, .val (.long v3), .second, .val (.long v4), .second, .val (.ref b4), .unset, .unset, .unset] [(.int (1 : Int32)), (.int (i4 >>> ((4 : Int32) &&& 31))), (.long v2), (.int (2 : Int32)), (.ref b4)])) _
    refine XS.iand X10.here hx rfl (hb hby at_109) rfl ?_
    exact Steps.refl _
  obtain ⟨_, _, ⟨T12, L12, k12, n12⟩, -, X12, ⟨Lc12, hQ12, l12, y12, z12⟩, st12⟩ := Jvm.LawKit.callS X10 hx (y := (⟨"com/example/canvass/canvass/core/ScoreOrderEndOfTiePinLaw", "score", "(JI)D"⟩ : MethodName)) hown (mvT hZ (hw _ (List.mem_of_getElem? (i := 1) rfl))) (mvT hZ (hw _ (List.mem_of_getElem? (i := 2) rfl))) (mvT hZ (hw _ (List.mem_of_getElem? (i := 3) rfl))) (mvT hZ (hw _ (List.mem_of_getElem? (i := 4) rfl))) (by decide) (backOf (W := 2) (rm3 l Z a0 hw [] v2 ((i4 >>> ((4 : Int32) &&& 31)) &&& (1 : Int32)) h10 n0 Zb1) hZ (hw _ (List.mem_of_getElem? (i := 4) rfl)) (hw _ (List.mem_of_getElem? (i := 3) rfl)) (by decide) (by decide)) (g := (mkF m 110 #[.val (.int i0), .val (.int i1), .val (.int i2), .val (.int i3), .val (.int i4), .val (.long v0), .second, .val (.long v0), .second, .val (.long v1), .second, .val (.long v2), .second, .val (.long v3), .second, .val (.long v4), .second, .val (.ref b4), .unset, .unset, .unset] [(.int ((i4 >>> ((4 : Int32) &&& 31)) &&& (1 : Int32))), (.long v2), (.int (2 : Int32)), (.ref b4)])) rfl (by rw [hml]; rfl) (argsL := [(.long v2), (.int ((i4 >>> ((4 : Int32) &&& 31)) &&& (1 : Int32)))]) (rest := [(.int (2 : Int32)), (.ref b4)]) (lenOf pd0 rfl) rfl (by show 2 * 0 + _ ≤ _; exact Nat.le_of_eq rfl) (hb hby at_110) (fun _ _ => ⟨rfl, e10, (by decide : 1 + 0 ≤ _), (by decide : 5 + 0 ≤ _)⟩)
  dsimp only [Pt.U, Pt.locs, Pt.cells, Pt.slots] at X12 l12 y12 z12 st12 hQ12
  subst l12 y12 z12
  obtain ⟨⟨d2, rfl⟩, Ns2, es2⟩ := hQ12
  have c12 : Steps p.tables e below S0 (T12.setTop (mkF m 113 #[.val (.int i0), .val (.int i1), .val (.int i2), .val (.int i3), .val (.int i4), .val (.long v0), .second, .val (.long v0), .second, .val (.long v1), .second, .val (.long v2), .second, .val (.long v3), .second, .val (.long v4), .second, .val (.ref b4), .unset, .unset, .unset] [(.double d2), (.int (2 : Int32)), (.ref b4)])) := by
    refine c11.trans ?_
    show Steps p.tables e below (T10.setTop (mkF m 110 #[.val (.int i0), .val (.int i1), .val (.int i2), .val (.int i3), .val (.int i4), .val (.long v0), .second, .val (.long v0), .second, .val (.long v1), .second, .val (.long v2), .second, .val (.long v3), .second, .val (.long v4), .second, .val (.ref b4), .unset, .unset, .unset] [(.int ((i4 >>> ((4 : Int32) &&& 31)) &&& (1 : Int32))), (.long v2), (.int (2 : Int32)), (.ref b4)])) _
    refine st12 _ ?_
    exact Steps.refl _
  have Na2 := Fr.app Nb1 Ns2
  have Vp13 : Arv Z _ b4 kA4 .double (5 : Int32) [(.double d0), (.double d1), (.double 0)] (.double 0) := V10.pad (pad_rep [(.double d0), (.double d1)] (.double 0) 1)
  obtain ⟨cl13, Ar13, qr13, S13, M13, Hs13, U13⟩ := Vp13
  obtain ⟨T13, h13, X13, e13, W13, st13⟩ := stD X12 hx hZ es2 Ar13 (j := (2 : Int32)) (inb_of S13 ⟨(by decide), (by decide)⟩) (g := (mkF m 113 #[.val (.int i0), .val (.int i1), .val (.int i2), .val (.int i3), .val (.int i4), .val (.long v0), .second, .val (.long v0), .second, .val (.long v1), .second, .val (.long v2), .second, .val (.long v3), .second, .val (.long v4), .second, .val (.ref b4), .unset, .unset, .unset] [(.double d2), (.int (2 : Int32)), (.ref b4)])) rfl rfl (hb hby at_113)
  have V13 : Arv Z h13 b4 kA4 .double (5 : Int32) [(.double d0), (.double d1), (.double d2)] (.double 0) := Arv.set Ar13 qr13 S13 M13 Hs13 U13 rfl W13 2 rfl (Nat.le_of_ble_eq_true rfl)
  have c13 : Steps p.tables e below S0 (T13.setTop (mkF m 114 #[.val (.int i0), .val (.int i1), .val (.int i2), .val (.int i3), .val (.int i4), .val (.long v0), .second, .val (.long v0), .second, .val (.long v1), .second, .val (.long v2), .second, .val (.long v3), .second, .val (.long v4), .second, .val (.ref b4), .unset, .unset, .unset] [])) := by
    refine c12.trans ?_
    show Steps p.tables e below (T12.setTop (mkF m 113 #[.val (.int i0), .val (.int i1), .val (.int i2), .val (.int i3), .val (.int i4), .val (.long v0), .second, .val (.long v0), .second, .val (.long v1), .second, .val (.long v2), .second, .val (.long v3), .second, .val (.long v4), .second, .val (.ref b4), .unset, .unset, .unset] [(.double d2), (.int (2 : Int32)), (.ref b4)])) _
    refine st13 _ ?_
    exact Steps.refl _
  have Nb2 := Fr.snoc X13 Na2 gb
  have Zb2 : n0 ≤ h13.size := Nat.le_trans Zb1 (Nat.le_of_eq (own_wsz W13).symm)
  have c14 : Steps p.tables e below S0 (T13.setTop (mkF m 125 #[.val (.int i0), .val (.int i1), .val (.int i2), .val (.int i3), .val (.int i4), .val (.long v0), .second, .val (.long v0), .second, .val (.long v1), .second, .val (.long v2), .second, .val (.long v3), .second, .val (.long v4), .second, .val (.ref b4), .unset, .unset, .unset] [(.int ((i4 >>> ((5 : Int32) &&& 31)) &&& (1 : Int32))), (.long v3), (.int (3 : Int32)), (.ref b4)])) := by
    refine c13.trans ?_
    show Steps p.tables e below (T13.setTop (mkF m 114 #[.val (.int i0), .val (.int i1), .val (.int i2), .val (.int i3), .val (.int i4), .val (.long v0), .second, .val (.long v0), .second, .val (.long v1), .second, .val (.long v2), .second, .val (.long v3), .second, .val (.long v4), .second, .val (.ref b4), .unset, .unset, .unset] [])) _
    refine XS.aload X13.here hx rfl (hb hby at_114) rfl rfl ?_
    show Steps p.tables e below (T13.setTop (mkF m 116 #[.val (.int i0), .val (.int i1), .val (.int i2), .val (.int i3), .val (.int i4), .val (.long v0), .second, .val (.long v0), .second, .val (.long v1), .second, .val (.long v2), .second, .val (.long v3), .second, .val (.long v4), .second, .val (.ref b4), .unset, .unset, .unset] [(.ref b4)])) _
    refine XS.iconst X13.here hx rfl (hb hby at_116) ?_
    show Steps p.tables e below (T13.setTop (mkF m 117 #[.val (.int i0), .val (.int i1), .val (.int i2), .val (.int i3), .val (.int i4), .val (.long v0), .second, .val (.long v0), .second, .val (.long v1), .second, .val (.long v2), .second, .val (.long v3), .second, .val (.long v4), .second, .val (.ref b4), .unset, .unset, .unset] [(.int (3 : Int32)), (.ref b4)])) _
    refine XS.lload X13.here hx rfl (hb hby at_117) rfl ?_
    show Steps p.tables e below (T13.setTop (mkF m 119 #[.val (.int i0), .val (.int i1), .val (.int i2), .val (.int i3), .val (.int i4), .val (.long v0), .second, .val (.long v0), .second, .val (.long v1), .second, .val (.long v2), .second, .val (.long v3), .second, .val (.long v4), .second, .val (.ref b4), .unset, .unset, .unset] [(.long v3), (.int (3 : Int32)), (.ref b4)])) _
    refine XS.iload X13.here hx rfl (hb hby at_119) rfl ?_
    show Steps p.tables e below (T13.setTop (mkF m 121 #[.val (.int i0), .val (.int i1), .val (.int i2), .val (.int i3), .val (.int i4), .val (.long v0), .second, .val (.long v0), .second, .val (.long v1), .second, .val (.long v2), .second, .val (.long v3), .second, .val (.long v4), .second, .val (.ref b4), .unset, .unset, .unset] [(.int i4), (.long v3), (.int (3 : Int32)), (.ref b4)])) _
    refine XS.iconst X13.here hx rfl (hb hby at_121) ?_
    show Steps p.tables e below (T13.setTop (mkF m 122 #[.val (.int i0), .val (.int i1), .val (.int i2), .val (.int i3), .val (.int i4), .val (.long v0), .second, .val (.long v0), .second, .val (.long v1), .second, .val (.long v2), .second, .val (.long v3), .second, .val (.long v4), .second, .val (.ref b4), .unset, .unset, .unset] [(.int (5 : Int32)), (.int i4), (.long v3), (.int (3 : Int32)), (.ref b4)])) _
    refine XS.ishr X13.here hx rfl (hb hby at_122) rfl ?_
    show Steps p.tables e below (T13.setTop (mkF m 123 #[.val (.int i0), .val (.int i1), .val (.int i2), .val (.int i3), .val (.int i4), .val (.long v0), .second, .val (.long v0), .second, .val (.long v1), .second, .val (.long v2), .second, .val (.long v3), .second, .val (.long v4), .second, .val (.ref b4), .unset, .unset, .unset] [(.int (i4 >>> ((5 : Int32) &&& 31))), (.long v3), (.int (3 : Int32)), (.ref b4)])) _
    refine XS.iconst X13.here hx rfl (hb hby at_123) ?_
    show Steps p.tables e below (T13.setTop (mkF m 124 #[.val (.int i0), .val (.int i1), .val (.int i2), .val (.int i3), .val (.int i4), .val (.long v0), .second, .val (.long v0), .second, .val (.long v1), .second, .val (.long v2), .second, .val (.long v3), .second, .val (.long v4), .second, .val (.ref b4), .unset, .unset, .unset] [(.int (1 : Int32)), (.int (i4 >>> ((5 : Int32) &&& 31))), (.long v3), (.int (3 : Int32)), (.ref b4)])) _
    refine XS.iand X13.here hx rfl (hb hby at_124) rfl ?_
    exact Steps.refl _
  obtain ⟨_, _, ⟨T15, L15, k15, n15⟩, -, X15, ⟨Lc15, hQ15, l15, y15, z15⟩, st15⟩ := Jvm.LawKit.callS X13 hx (y := (⟨"com/example/canvass/canvass/core/ScoreOrderEndOfTiePinLaw", "score", "(JI)D"⟩ : MethodName)) hown (mvT hZ (hw _ (List.mem_of_getElem? (i := 1) rfl))) (mvT hZ (hw _ (List.mem_of_getElem? (i := 2) rfl))) (mvT hZ (hw _ (List.mem_of_getElem? (i := 3) rfl))) (mvT hZ (hw _ (List.mem_of_getElem? (i := 4) rfl))) (by decide) (backOf (W := 2) (rm3 l Z a0 hw [] v3 ((i4 >>> ((5 : Int32) &&& 31)) &&& (1 : Int32)) h13 n0 Zb2) hZ (hw _ (List.mem_of_getElem? (i := 4) rfl)) (hw _ (List.mem_of_getElem? (i := 3) rfl)) (by decide) (by decide)) (g := (mkF m 125 #[.val (.int i0), .val (.int i1), .val (.int i2), .val (.int i3), .val (.int i4), .val (.long v0), .second, .val (.long v0), .second, .val (.long v1), .second, .val (.long v2), .second, .val (.long v3), .second, .val (.long v4), .second, .val (.ref b4), .unset, .unset, .unset] [(.int ((i4 >>> ((5 : Int32) &&& 31)) &&& (1 : Int32))), (.long v3), (.int (3 : Int32)), (.ref b4)])) rfl (by rw [hml]; rfl) (argsL := [(.long v3), (.int ((i4 >>> ((5 : Int32) &&& 31)) &&& (1 : Int32)))]) (rest := [(.int (3 : Int32)), (.ref b4)]) (lenOf pd0 rfl) rfl (by show 2 * 0 + _ ≤ _; exact Nat.le_of_eq rfl) (hb hby at_125) (fun _ _ => ⟨rfl, e13, (by decide : 1 + 0 ≤ _), (by decide : 5 + 0 ≤ _)⟩)
  dsimp only [Pt.U, Pt.locs, Pt.cells, Pt.slots] at X15 l15 y15 z15 st15 hQ15
  subst l15 y15 z15
  obtain ⟨⟨d3, rfl⟩, Ns3, es3⟩ := hQ15
  have c15 : Steps p.tables e below S0 (T15.setTop (mkF m 128 #[.val (.int i0), .val (.int i1), .val (.int i2), .val (.int i3), .val (.int i4), .val (.long v0), .second, .val (.long v0), .second, .val (.long v1), .second, .val (.long v2), .second, .val (.long v3), .second, .val (.long v4), .second, .val (.ref b4), .unset, .unset, .unset] [(.double d3), (.int (3 : Int32)), (.ref b4)])) := by
    refine c14.trans ?_
    show Steps p.tables e below (T13.setTop (mkF m 125 #[.val (.int i0), .val (.int i1), .val (.int i2), .val (.int i3), .val (.int i4), .val (.long v0), .second, .val (.long v0), .second, .val (.long v1), .second, .val (.long v2), .second, .val (.long v3), .second, .val (.long v4), .second, .val (.ref b4), .unset, .unset, .unset] [(.int ((i4 >>> ((5 : Int32) &&& 31)) &&& (1 : Int32))), (.long v3), (.int (3 : Int32)), (.ref b4)])) _
    refine st15 _ ?_
    exact Steps.refl _
  have Na3 := Fr.app Nb2 Ns3
  have Vp16 : Arv Z _ b4 kA4 .double (5 : Int32) [(.double d0), (.double d1), (.double d2), (.double 0)] (.double 0) := V13.pad (pad_rep [(.double d0), (.double d1), (.double d2)] (.double 0) 1)
  obtain ⟨cl16, Ar16, qr16, S16, M16, Hs16, U16⟩ := Vp16
  obtain ⟨T16, h16, X16, e16, W16, st16⟩ := stD X15 hx hZ es3 Ar16 (j := (3 : Int32)) (inb_of S16 ⟨(by decide), (by decide)⟩) (g := (mkF m 128 #[.val (.int i0), .val (.int i1), .val (.int i2), .val (.int i3), .val (.int i4), .val (.long v0), .second, .val (.long v0), .second, .val (.long v1), .second, .val (.long v2), .second, .val (.long v3), .second, .val (.long v4), .second, .val (.ref b4), .unset, .unset, .unset] [(.double d3), (.int (3 : Int32)), (.ref b4)])) rfl rfl (hb hby at_128)
  have V16 : Arv Z h16 b4 kA4 .double (5 : Int32) [(.double d0), (.double d1), (.double d2), (.double d3)] (.double 0) := Arv.set Ar16 qr16 S16 M16 Hs16 U16 rfl W16 3 rfl (Nat.le_of_ble_eq_true rfl)
  have c16 : Steps p.tables e below S0 (T16.setTop (mkF m 129 #[.val (.int i0), .val (.int i1), .val (.int i2), .val (.int i3), .val (.int i4), .val (.long v0), .second, .val (.long v0), .second, .val (.long v1), .second, .val (.long v2), .second, .val (.long v3), .second, .val (.long v4), .second, .val (.ref b4), .unset, .unset, .unset] [])) := by
    refine c15.trans ?_
    show Steps p.tables e below (T15.setTop (mkF m 128 #[.val (.int i0), .val (.int i1), .val (.int i2), .val (.int i3), .val (.int i4), .val (.long v0), .second, .val (.long v0), .second, .val (.long v1), .second, .val (.long v2), .second, .val (.long v3), .second, .val (.long v4), .second, .val (.ref b4), .unset, .unset, .unset] [(.double d3), (.int (3 : Int32)), (.ref b4)])) _
    refine st16 _ ?_
    exact Steps.refl _
  have Nb3 := Fr.snoc X16 Na3 gb
  have Zb3 : n0 ≤ h16.size := Nat.le_trans Zb2 (Nat.le_of_eq (own_wsz W16).symm)
  have c17 : Steps p.tables e below S0 (T16.setTop (mkF m 141 #[.val (.int i0), .val (.int i1), .val (.int i2), .val (.int i3), .val (.int i4), .val (.long v0), .second, .val (.long v0), .second, .val (.long v1), .second, .val (.long v2), .second, .val (.long v3), .second, .val (.long v4), .second, .val (.ref b4), .unset, .unset, .unset] [(.int ((i4 >>> ((6 : Int32) &&& 31)) &&& (1 : Int32))), (.long v4), (.int (4 : Int32)), (.ref b4)])) := by
    refine c16.trans ?_
    show Steps p.tables e below (T16.setTop (mkF m 129 #[.val (.int i0), .val (.int i1), .val (.int i2), .val (.int i3), .val (.int i4), .val (.long v0), .second, .val (.long v0), .second, .val (.long v1), .second, .val (.long v2), .second, .val (.long v3), .second, .val (.long v4), .second, .val (.ref b4), .unset, .unset, .unset] [])) _
    refine XS.aload X16.here hx rfl (hb hby at_129) rfl rfl ?_
    show Steps p.tables e below (T16.setTop (mkF m 131 #[.val (.int i0), .val (.int i1), .val (.int i2), .val (.int i3), .val (.int i4), .val (.long v0), .second, .val (.long v0), .second, .val (.long v1), .second, .val (.long v2), .second, .val (.long v3), .second, .val (.long v4), .second, .val (.ref b4), .unset, .unset, .unset] [(.ref b4)])) _
    refine XS.iconst X16.here hx rfl (hb hby at_131) ?_
    show Steps p.tables e below (T16.setTop (mkF m 132 #[.val (.int i0), .val (.int i1), .val (.int i2), .val (.int i3), .val (.int i4), .val (.long v0), .second, .val (.long v0), .second, .val (.long v1), .second, .val (.long v2), .second, .val (.long v3), .second, .val (.long v4), .second, .val (.ref b4), .unset, .unset, .unset] [(.int (4 : Int32)), (.ref b4)])) _
    refine XS.lload X16.here hx rfl (hb hby at_132) rfl ?_
    show Steps p.tables e below (T16.setTop (mkF m 134 #[.val (.int i0), .val (.int i1), .val (.int i2), .val (.int i3), .val (.int i4), .val (.long v0), .second, .val (.long v0), .second, .val (.long v1), .second, .val (.long v2), .second, .val (.long v3), .second, .val (.long v4), .second, .val (.ref b4), .unset, .unset, .unset] [(.long v4), (.int (4 : Int32)), (.ref b4)])) _
    refine XS.iload X16.here hx rfl (hb hby at_134) rfl ?_
    show Steps p.tables e below (T16.setTop (mkF m 136 #[.val (.int i0), .val (.int i1), .val (.int i2), .val (.int i3), .val (.int i4), .val (.long v0), .second, .val (.long v0), .second, .val (.long v1), .second, .val (.long v2), .second, .val (.long v3), .second, .val (.long v4), .second, .val (.ref b4), .unset, .unset, .unset] [(.int i4), (.long v4), (.int (4 : Int32)), (.ref b4)])) _
    refine XS.bipush X16.here hx rfl (hb hby at_136) ?_
    show Steps p.tables e below (T16.setTop (mkF m 138 #[.val (.int i0), .val (.int i1), .val (.int i2), .val (.int i3), .val (.int i4), .val (.long v0), .second, .val (.long v0), .second, .val (.long v1), .second, .val (.long v2), .second, .val (.long v3), .second, .val (.long v4), .second, .val (.ref b4), .unset, .unset, .unset] [(.int (6 : Int32)), (.int i4), (.long v4), (.int (4 : Int32)), (.ref b4)])) _
    refine XS.ishr X16.here hx rfl (hb hby at_138) rfl ?_
    show Steps p.tables e below (T16.setTop (mkF m 139 #[.val (.int i0), .val (.int i1), .val (.int i2), .val (.int i3), .val (.int i4), .val (.long v0), .second, .val (.long v0), .second, .val (.long v1), .second, .val (.long v2), .second, .val (.long v3), .second, .val (.long v4), .second, .val (.ref b4), .unset, .unset, .unset] [(.int (i4 >>> ((6 : Int32) &&& 31))), (.long v4), (.int (4 : Int32)), (.ref b4)])) _
    refine XS.iconst X16.here hx rfl (hb hby at_139) ?_
    show Steps p.tables e below (T16.setTop (mkF m 140 #[.val (.int i0), .val (.int i1), .val (.int i2), .val (.int i3), .val (.int i4), .val (.long v0), .second, .val (.long v0), .second, .val (.long v1), .second, .val (.long v2), .second, .val (.long v3), .second, .val (.long v4), .second, .val (.ref b4), .unset, .unset, .unset] [(.int (1 : Int32)), (.int (i4 >>> ((6 : Int32) &&& 31))), (.long v4), (.int (4 : Int32)), (.ref b4)])) _
    refine XS.iand X16.here hx rfl (hb hby at_140) rfl ?_
    exact Steps.refl _
  obtain ⟨_, _, ⟨T18, L18, k18, n18⟩, -, X18, ⟨Lc18, hQ18, l18, y18, z18⟩, st18⟩ := Jvm.LawKit.callS X16 hx (y := (⟨"com/example/canvass/canvass/core/ScoreOrderEndOfTiePinLaw", "score", "(JI)D"⟩ : MethodName)) hown (mvT hZ (hw _ (List.mem_of_getElem? (i := 1) rfl))) (mvT hZ (hw _ (List.mem_of_getElem? (i := 2) rfl))) (mvT hZ (hw _ (List.mem_of_getElem? (i := 3) rfl))) (mvT hZ (hw _ (List.mem_of_getElem? (i := 4) rfl))) (by decide) (backOf (W := 2) (rm3 l Z a0 hw [] v4 ((i4 >>> ((6 : Int32) &&& 31)) &&& (1 : Int32)) h16 n0 Zb3) hZ (hw _ (List.mem_of_getElem? (i := 4) rfl)) (hw _ (List.mem_of_getElem? (i := 3) rfl)) (by decide) (by decide)) (g := (mkF m 141 #[.val (.int i0), .val (.int i1), .val (.int i2), .val (.int i3), .val (.int i4), .val (.long v0), .second, .val (.long v0), .second, .val (.long v1), .second, .val (.long v2), .second, .val (.long v3), .second, .val (.long v4), .second, .val (.ref b4), .unset, .unset, .unset] [(.int ((i4 >>> ((6 : Int32) &&& 31)) &&& (1 : Int32))), (.long v4), (.int (4 : Int32)), (.ref b4)])) rfl (by rw [hml]; rfl) (argsL := [(.long v4), (.int ((i4 >>> ((6 : Int32) &&& 31)) &&& (1 : Int32)))]) (rest := [(.int (4 : Int32)), (.ref b4)]) (lenOf pd0 rfl) rfl (by show 2 * 0 + _ ≤ _; exact Nat.le_of_eq rfl) (hb hby at_141) (fun _ _ => ⟨rfl, e16, (by decide : 1 + 0 ≤ _), (by decide : 5 + 0 ≤ _)⟩)
  dsimp only [Pt.U, Pt.locs, Pt.cells, Pt.slots] at X18 l18 y18 z18 st18 hQ18
  subst l18 y18 z18
  obtain ⟨⟨d4, rfl⟩, Ns4, es4⟩ := hQ18
  have c18 : Steps p.tables e below S0 (T18.setTop (mkF m 144 #[.val (.int i0), .val (.int i1), .val (.int i2), .val (.int i3), .val (.int i4), .val (.long v0), .second, .val (.long v0), .second, .val (.long v1), .second, .val (.long v2), .second, .val (.long v3), .second, .val (.long v4), .second, .val (.ref b4), .unset, .unset, .unset] [(.double d4), (.int (4 : Int32)), (.ref b4)])) := by
    refine c17.trans ?_
    show Steps p.tables e below (T16.setTop (mkF m 141 #[.val (.int i0), .val (.int i1), .val (.int i2), .val (.int i3), .val (.int i4), .val (.long v0), .second, .val (.long v0), .second, .val (.long v1), .second, .val (.long v2), .second, .val (.long v3), .second, .val (.long v4), .second, .val (.ref b4), .unset, .unset, .unset] [(.int ((i4 >>> ((6 : Int32) &&& 31)) &&& (1 : Int32))), (.long v4), (.int (4 : Int32)), (.ref b4)])) _
    refine st18 _ ?_
    exact Steps.refl _
  have Na4 := Fr.app Nb3 Ns4
  have Vp19 : Arv Z _ b4 kA4 .double (5 : Int32) [(.double d0), (.double d1), (.double d2), (.double d3), (.double 0)] (.double 0) := V16.pad (pad_rep [(.double d0), (.double d1), (.double d2), (.double d3)] (.double 0) 1)
  obtain ⟨cl19, Ar19, qr19, S19, M19, Hs19, U19⟩ := Vp19
  obtain ⟨T19, h19, X19, e19, W19, st19⟩ := stD X18 hx hZ es4 Ar19 (j := (4 : Int32)) (inb_of S19 ⟨(by decide), (by decide)⟩) (g := (mkF m 144 #[.val (.int i0), .val (.int i1), .val (.int i2), .val (.int i3), .val (.int i4), .val (.long v0), .second, .val (.long v0), .second, .val (.long v1), .second, .val (.long v2), .second, .val (.long v3), .second, .val (.long v4), .second, .val (.ref b4), .unset, .unset, .unset] [(.double d4), (.int (4 : Int32)), (.ref b4)])) rfl rfl (hb hby at_144)
  have V19 : Arv Z h19 b4 kA4 .double (5 : Int32) [(.double d0), (.double d1), (.double d2), (.double d3), (.double d4)] (.double 0) := Arv.set Ar19 qr19 S19 M19 Hs19 U19 rfl W19 4 rfl (Nat.le_of_ble_eq_true rfl)
  have c19 : Steps p.tables e below S0 (T19.setTop (mkF m 145 #[.val (.int i0), .val (.int i1), .val (.int i2), .val (.int i3), .val (.int i4), .val (.long v0), .second, .val (.long v0), .second, .val (.long v1), .second, .val (.long v2), .second, .val (.long v3), .second, .val (.long v4), .second, .val (.ref b4), .unset, .unset, .unset] [])) := by
    refine c18.trans ?_
    show Steps p.tables e below (T18.setTop (mkF m 144 #[.val (.int i0), .val (.int i1), .val (.int i2), .val (.int i3), .val (.int i4), .val (.long v0), .second, .val (.long v0), .second, .val (.long v1), .second, .val (.long v2), .second, .val (.long v3), .second, .val (.long v4), .second, .val (.ref b4), .unset, .unset, .unset] [(.double d4), (.int (4 : Int32)), (.ref b4)])) _
    refine st19 _ ?_
    exact Steps.refl _
  have Nb4 := Fr.snoc X19 Na4 gb
  have Zb4 : n0 ≤ h19.size := Nat.le_trans Zb3 (Nat.le_of_eq (own_wsz W19).symm)
  have c20 : Steps p.tables e below S0 (T19.setTop (mkF m 151 #[.val (.int i0), .val (.int i1), .val (.int i2), .val (.int i3), .val (.int i4), .val (.long v0), .second, .val (.long v0), .second, .val (.long v1), .second, .val (.long v2), .second, .val (.long v3), .second, .val (.long v4), .second, .val (.ref b4), .unset, .unset, .unset] [(.int ((i2 &&& (2147483647 : Int32)) - (i2 &&& (2147483647 : Int32)) / (5 : Int32) * (5 : Int32)))])) := by
    refine c19.trans ?_
    show Steps p.tables e below (T19.setTop (mkF m 145 #[.val (.int i0), .val (.int i1), .val (.int i2), .val (.int i3), .val (.int i4), .val (.long v0), .second, .val (.long v0), .second, .val (.long v1), .second, .val (.long v2), .second, .val (.long v3), .second, .val (.long v4), .second, .val (.ref b4), .unset, .unset, .unset] [])) _
    refine XS.iloadN X19.here hx rfl (hb hby at_145) rfl ?_
    show Steps p.tables e below (T19.setTop (mkF m 146 #[.val (.int i0), .val (.int i1), .val (.int i2), .val (.int i3), .val (.int i4), .val (.long v0), .second, .val (.long v0), .second, .val (.long v1), .second, .val (.long v2), .second, .val (.long v3), .second, .val (.long v4), .second, .val (.ref b4), .unset, .unset, .unset] [(.int i2)])) _
    refine X19.ldcInt hx hown (mvT hZ (hw _ (List.mem_of_getElem? (i := 5) rfl))) (g := (mkF m 146 #[.val (.int i0), .val (.int i1), .val (.int i2), .val (.int i3), .val (.int i4), .val (.long v0), .second, .val (.long v0), .second, .val (.long v1), .second, .val (.long v2), .second, .val (.long v3), .second, .val (.long v4), .second, .val (.ref b4), .unset, .unset, .unset] [(.int i2)])) rfl (hb hby at_146) _ ?_
    show Steps p.tables e below (T19.setTop (mkF m 148 #[.val (.int i0), .val (.int i1), .val (.int i2), .val (.int i3), .val (.int i4), .val (.long v0), .second, .val (.long v0), .second, .val (.long v1), .second, .val (.long v2), .second, .val (.long v3), .second, .val (.long v4), .second, .val (.ref b4), .unset, .unset, .unset] [(.int (2147483647 : Int32)), (.int i2)])) _
    refine XS.iand X19.here hx rfl (hb hby at_148) rfl ?_
    show Steps p.tables e below (T19.setTop (mkF m 149 #[.val (.int i0), .val (.int i1), .val (.int i2), .val (.int i3), .val (.int i4), .val (.long v0), .second, .val (.long v0), .second, .val (.long v1), .second, .val (.long v2), .second, .val (.long v3), .second, .val (.long v4), .second, .val (.ref b4), .unset, .unset, .unset] [(.int (i2 &&& (2147483647 : Int32)))])) _
    refine XS.iconst X19.here hx rfl (hb hby at_149) ?_
    show Steps p.tables e below (T19.setTop (mkF m 150 #[.val (.int i0), .val (.int i1), .val (.int i2), .val (.int i3), .val (.int i4), .val (.long v0), .second, .val (.long v0), .second, .val (.long v1), .second, .val (.long v2), .second, .val (.long v3), .second, .val (.long v4), .second, .val (.ref b4), .unset, .unset, .unset] [(.int (5 : Int32)), (.int (i2 &&& (2147483647 : Int32)))])) _
    refine XS.irem X19.here hx rfl (hb hby at_150) rfl (by decide) ?_
    exact Steps.refl _
  obtain ⟨f, hf⟩ : ∃ z, z = ((i2 &&& (2147483647 : Int32)) - (i2 &&& (2147483647 : Int32)) / (5 : Int32) * (5 : Int32)) := ⟨_, rfl⟩
  rw [← hf] at c20
  have hf05 := own_mod5 i2 f hf
  obtain ⟨hf0, hf5⟩ := hf05
  have h5f := own_5f hf0 hf5
  have c21 : Steps p.tables e below S0 (T19.setTop (mkF m 167 #[.val (.int i0), .val (.int i1), .val (.int i2), .val (.int i3), .val (.int i4), .val (.long v0), .second, .val (.long v0), .second, .val (.long v1), .second, .val (.long v2), .second, .val (.long v3), .second, .val (.long v4), .second, .val (.ref b4), .val (.int f), .unset, .unset] [(.int ((f + (1 : Int32)) + ((i3 &&& (2147483647 : Int32)) - (i3 &&& (2147483647 : Int32)) / ((5 : Int32) - f) * ((5 : Int32) - f))))])) := by
    refine c20.trans ?_
    show Steps p.tables e below (T19.setTop (mkF m 151 #[.val (.int i0), .val (.int i1), .val (.int i2), .val (.int i3), .val (.int i4), .val (.long v0), .second, .val (.long v0), .second, .val (.long v1), .second, .val (.long v2), .second, .val (.long v3), .second, .val (.long v4), .second, .val (.ref b4), .unset, .unset, .unset] [(.int f)])) _
    refine XS.istore X19.here hx rfl (hb hby at_151) rfl (l' := #[.val (.int i0), .val (.int i1), .val (.int i2), .val (.int i3), .val (.int i4), .val (.long v0), .second, .val (.long v0), .second, .val (.long v1), .second, .val (.long v2), .second, .val (.long v3), .second, .val (.long v4), .second, .val (.ref b4), .val (.int f), .unset, .unset]) rfl ?_
    show Steps p.tables e below (T19.setTop (mkF m 153 #[.val (.int i0), .val (.int i1), .val (.int i2), .val (.int i3), .val (.int i4), .val (.long v0), .second, .val (.long v0), .second, .val (.long v1), .second, .val (.long v2), .second, .val (.long v3), .second, .val (.long v4), .second, .val (.ref b4), .val (.int f), .unset, .unset] [])) _
    refine XS.iload X19.here hx rfl (hb hby at_153) rfl ?_
    show Steps p.tables e below (T19.setTop (mkF m 155 #[.val (.int i0), .val (.int i1), .val (.int i2), .val (.int i3), .val (.int i4), .val (.long v0), .second, .val (.long v0), .second, .val (.long v1), .second, .val (.long v2), .second, .val (.long v3), .second, .val (.long v4), .second, .val (.ref b4), .val (.int f), .unset, .unset] [(.int f)])) _
    refine XS.iconst X19.here hx rfl (hb hby at_155) ?_
    show Steps p.tables e below (T19.setTop (mkF m 156 #[.val (.int i0), .val (.int i1), .val (.int i2), .val (.int i3), .val (.int i4), .val (.long v0), .second, .val (.long v0), .second, .val (.long v1), .second, .val (.long v2), .second, .val (.long v3), .second, .val (.long v4), .second, .val (.ref b4), .val (.int f), .unset, .unset] [(.int (1 : Int32)), (.int f)])) _
    refine XS.iadd X19.here hx rfl (hb hby at_156) rfl ?_
    show Steps p.tables e below (T19.setTop (mkF m 157 #[.val (.int i0), .val (.int i1), .val (.int i2), .val (.int i3), .val (.int i4), .val (.long v0), .second, .val (.long v0), .second, .val (.long v1), .second, .val (.long v2), .second, .val (.long v3), .second, .val (.long v4), .second, .val (.ref b4), .val (.int f), .unset, .unset] [(.int (f + (1 : Int32)))])) _
    refine XS.iloadN X19.here hx rfl (hb hby at_157) rfl ?_
    show Steps p.tables e below (T19.setTop (mkF m 158 #[.val (.int i0), .val (.int i1), .val (.int i2), .val (.int i3), .val (.int i4), .val (.long v0), .second, .val (.long v0), .second, .val (.long v1), .second, .val (.long v2), .second, .val (.long v3), .second, .val (.long v4), .second, .val (.ref b4), .val (.int f), .unset, .unset] [(.int i3), (.int (f + (1 : Int32)))])) _
    refine X19.ldcInt hx hown (mvT hZ (hw _ (List.mem_of_getElem? (i := 5) rfl))) (g := (mkF m 158 #[.val (.int i0), .val (.int i1), .val (.int i2), .val (.int i3), .val (.int i4), .val (.long v0), .second, .val (.long v0), .second, .val (.long v1), .second, .val (.long v2), .second, .val (.long v3), .second, .val (.long v4), .second, .val (.ref b4), .val (.int f), .unset, .unset] [(.int i3), (.int (f + (1 : Int32)))])) rfl (hb hby at_158) _ ?_
    show Steps p.tables e below (T19.setTop (mkF m 160 #[.val (.int i0), .val (.int i1), .val (.int i2), .val (.int i3), .val (.int i4), .val (.long v0), .second, .val (.long v0), .second, .val (.long v1), .second, .val (.long v2), .second, .val (.long v3), .second, .val (.long v4), .second, .val (.ref b4), .val (.int f), .unset, .unset] [(.int (2147483647 : Int32)), (.int i3), (.int (f + (1 : Int32)))])) _
    refine XS.iand X19.here hx rfl (hb hby at_160) rfl ?_
    show Steps p.tables e below (T19.setTop (mkF m 161 #[.val (.int i0), .val (.int i1), .val (.int i2), .val (.int i3), .val (.int i4), .val (.long v0), .second, .val (.long v0), .second, .val (.long v1), .second, .val (.long v2), .second, .val (.long v3), .second, .val (.long v4), .second, .val (.ref b4), .val (.int f), .unset, .unset] [(.int (i3 &&& (2147483647 : Int32))), (.int (f + (1 : Int32)))])) _
    refine XS.iconst X19.here hx rfl (hb hby at_161) ?_
    show Steps p.tables e below (T19.setTop (mkF m 162 #[.val (.int i0), .val (.int i1), .val (.int i2), .val (.int i3), .val (.int i4), .val (.long v0), .second, .val (.long v0), .second, .val (.long v1), .second, .val (.long v2), .second, .val (.long v3), .second, .val (.long v4), .second, .val (.ref b4), .val (.int f), .unset, .unset] [(.int (5 : Int32)), (.int (i3 &&& (2147483647 : Int32))), (.int (f + (1 : Int32)))])) _
    refine XS.iload X19.here hx rfl (hb hby at_162) rfl ?_
    show Steps p.tables e below (T19.setTop (mkF m 164 #[.val (.int i0), .val (.int i1), .val (.int i2), .val (.int i3), .val (.int i4), .val (.long v0), .second, .val (.long v0), .second, .val (.long v1), .second, .val (.long v2), .second, .val (.long v3), .second, .val (.long v4), .second, .val (.ref b4), .val (.int f), .unset, .unset] [(.int f), (.int (5 : Int32)), (.int (i3 &&& (2147483647 : Int32))), (.int (f + (1 : Int32)))])) _
    refine XS.isub X19.here hx rfl (hb hby at_164) rfl ?_
    show Steps p.tables e below (T19.setTop (mkF m 165 #[.val (.int i0), .val (.int i1), .val (.int i2), .val (.int i3), .val (.int i4), .val (.long v0), .second, .val (.long v0), .second, .val (.long v1), .second, .val (.long v2), .second, .val (.long v3), .second, .val (.long v4), .second, .val (.ref b4), .val (.int f), .unset, .unset] [(.int ((5 : Int32) - f)), (.int (i3 &&& (2147483647 : Int32))), (.int (f + (1 : Int32)))])) _
    refine XS.irem X19.here hx rfl (hb hby at_165) rfl h5f ?_
    show Steps p.tables e below (T19.setTop (mkF m 166 #[.val (.int i0), .val (.int i1), .val (.int i2), .val (.int i3), .val (.int i4), .val (.long v0), .second, .val (.long v0), .second, .val (.long v1), .second, .val (.long v2), .second, .val (.long v3), .second, .val (.long v4), .second, .val (.ref b4), .val (.int f), .unset, .unset] [(.int ((i3 &&& (2147483647 : Int32)) - (i3 &&& (2147483647 : Int32)) / ((5 : Int32) - f) * ((5 : Int32) - f))), (.int (f + (1 : Int32)))])) _
    refine XS.iadd X19.here hx rfl (hb hby at_166) rfl ?_
    exact Steps.refl _
  obtain ⟨t, ht⟩ : ∃ z, z = ((f + (1 : Int32)) + ((i3 &&& (2147483647 : Int32)) - (i3 &&& (2147483647 : Int32)) / ((5 : Int32) - f) * ((5 : Int32) - f))) := ⟨_, rfl⟩
  rw [← ht] at c21
  obtain ⟨hft, ht5⟩ := own_to i3 f t hf0 hf5 ht
  obtain ⟨clz, Arz, qrz, Sz, Mz, Hz, Uz⟩ := V19
  have hDz := own_hD (d0 := d0) (d1 := d1) (d2 := d2) (d3 := d3) (d4 := d4) Sz Hz
  generalize hDD : own_D d0 d1 d2 d3 d4 = D at hDz
  have c22 : Steps p.tables e below S0 (T19.setTop (mkF m 180 #[.val (.int i0), .val (.int i1), .val (.int i2), .val (.int i3), .val (.int i4), .val (.long v0), .second, .val (.long v0), .second, .val (.long v1), .second, .val (.long v2), .second, .val (.long v3), .second, .val (.long v4), .second, .val (.ref b4), .val (.int f), .val (.int t), .val (.int t)] [(.int (4 : Int32)), (.int t), (.int f), (.ref b4)])) := by
    refine c21.trans ?_
    show Steps p.tables e below (T19.setTop (mkF m 167 #[.val (.int i0), .val (.int i1), .val (.int i2), .val (.int i3), .val (.int i4), .val (.long v0), .second, .val (.long v0), .second, .val (.long v1), .second, .val (.long v2), .second, .val (.long v3), .second, .val (.long v4), .second, .val (.ref b4), .val (.int f), .unset, .unset] [(.int t)])) _
    refine XS.istore X19.here hx rfl (hb hby at_167) rfl (l' := #[.val (.int i0), .val (.int i1), .val (.int i2), .val (.int i3), .val (.int i4), .val (.long v0), .second, .val (.long v0), .second, .val (.long v1), .second, .val (.long v2), .second, .val (.long v3), .second, .val (.long v4), .second, .val (.ref b4), .val (.int f), .val (.int t), .unset]) rfl ?_
    show Steps p.tables e below (T19.setTop (mkF m 169 #[.val (.int i0), .val (.int i1), .val (.int i2), .val (.int i3), .val (.int i4), .val (.long v0), .second, .val (.long v0), .second, .val (.long v1), .second, .val (.long v2), .second, .val (.long v3), .second, .val (.long v4), .second, .val (.ref b4), .val (.int f), .val (.int t), .unset] [])) _
    refine XS.iload X19.here hx rfl (hb hby at_169) rfl ?_
    show Steps p.tables e below (T19.setTop (mkF m 171 #[.val (.int i0), .val (.int i1), .val (.int i2), .val (.int i3), .val (.int i4), .val (.long v0), .second, .val (.long v0), .second, .val (.long v1), .second, .val (.long v2), .second, .val (.long v3), .second, .val (.long v4), .second, .val (.ref b4), .val (.int f), .val (.int t), .unset] [(.int t)])) _
    refine XS.istore X19.here hx rfl (hb hby at_171) rfl (l' := #[.val (.int i0), .val (.int i1), .val (.int i2), .val (.int i3), .val (.int i4), .val (.long v0), .second, .val (.long v0), .second, .val (.long v1), .second, .val (.long v2), .second, .val (.long v3), .second, .val (.long v4), .second, .val (.ref b4), .val (.int f), .val (.int t), .val (.int t)]) rfl ?_
    show Steps p.tables e below (T19.setTop (mkF m 173 #[.val (.int i0), .val (.int i1), .val (.int i2), .val (.int i3), .val (.int i4), .val (.long v0), .second, .val (.long v0), .second, .val (.long v1), .second, .val (.long v2), .second, .val (.long v3), .second, .val (.long v4), .second, .val (.ref b4), .val (.int f), .val (.int t), .val (.int t)] [])) _
    refine XS.aload X19.here hx rfl (hb hby at_173) rfl rfl ?_
    show Steps p.tables e below (T19.setTop (mkF m 175 #[.val (.int i0), .val (.int i1), .val (.int i2), .val (.int i3), .val (.int i4), .val (.long v0), .second, .val (.long v0), .second, .val (.long v1), .second, .val (.long v2), .second, .val (.long v3), .second, .val (.long v4), .second, .val (.ref b4), .val (.int f), .val (.int t), .val (.int t)] [(.ref b4)])) _
    refine XS.iload X19.here hx rfl (hb hby at_175) rfl ?_
    show Steps p.tables e below (T19.setTop (mkF m 177 #[.val (.int i0), .val (.int i1), .val (.int i2), .val (.int i3), .val (.int i4), .val (.long v0), .second, .val (.long v0), .second, .val (.long v1), .second, .val (.long v2), .second, .val (.long v3), .second, .val (.long v4), .second, .val (.ref b4), .val (.int f), .val (.int t), .val (.int t)] [(.int f), (.ref b4)])) _
    refine XS.iload X19.here hx rfl (hb hby at_177) rfl ?_
    show Steps p.tables e below (T19.setTop (mkF m 179 #[.val (.int i0), .val (.int i1), .val (.int i2), .val (.int i3), .val (.int i4), .val (.long v0), .second, .val (.long v0), .second, .val (.long v1), .second, .val (.long v2), .second, .val (.long v3), .second, .val (.long v4), .second, .val (.ref b4), .val (.int f), .val (.int t), .val (.int t)] [(.int t), (.int f), (.ref b4)])) _
    refine XS.iconst X19.here hx rfl (hb hby at_179) ?_
    exact Steps.refl _
  obtain ⟨_, _, ⟨T23, L23, k23, n23⟩, -, X23, ⟨Lc23, hQ23, l23, y23, z23⟩, st23⟩ := Jvm.LawKit.callS X19 hx (y := (⟨"com/example/canvass/canvass/core/ScoreOrderEndOfTiePinLaw", "differs", "([DIII)Z"⟩ : MethodName)) hown (mvT hZ (hw _ (List.mem_of_getElem? (i := 6) rfl))) (mvT hZ (hw _ (List.mem_of_getElem? (i := 7) rfl))) (mvT hZ (hw _ (List.mem_of_getElem? (i := 3) rfl))) (mvT hZ (hw _ (List.mem_of_getElem? (i := 8) rfl))) (by decide) (backOf (W := 0) (rm4 l Z a0 hw [] b4 clz D f t (4 : Int32) h19 n0 Zb4 Arz Sz hDz hf0 hf5 (by decide) (by decide)) hZ (hw _ (List.mem_of_getElem? (i := 8) rfl)) (hw _ (List.mem_of_getElem? (i := 3) rfl)) (by decide) (by decide)) (g := (mkF m 180 #[.val (.int i0), .val (.int i1), .val (.int i2), .val (.int i3), .val (.int i4), .val (.long v0), .second, .val (.long v0), .second, .val (.long v1), .second, .val (.long v2), .second, .val (.long v3), .second, .val (.long v4), .second, .val (.ref b4), .val (.int f), .val (.int t), .val (.int t)] [(.int (4 : Int32)), (.int t), (.int f), (.ref b4)])) rfl (by rw [hml]; rfl) (argsL := [(.ref b4), (.int f), (.int t), (.int (4 : Int32))]) (rest := []) (lenOf pd1 rfl) rfl (by show 2 * 0 + _ ≤ _; exact Nat.le_of_eq rfl) (hb hby at_180) (fun _ _ => ⟨rfl, e19, (by decide : 1 + 0 ≤ _), (by decide : 5 + 0 ≤ _)⟩)
  dsimp only [Pt.U, Pt.locs, Pt.cells, Pt.slots] at X23 l23 y23 z23 st23 hQ23
  subst l23 y23 z23
  obtain ⟨rfl, Nd4, ed4⟩ := hQ23
  have c23 : Steps p.tables e below S0 (T23.setTop (mkF m 183 #[.val (.int i0), .val (.int i1), .val (.int i2), .val (.int i3), .val (.int i4), .val (.long v0), .second, .val (.long v0), .second, .val (.long v1), .second, .val (.long v2), .second, .val (.long v3), .second, .val (.long v4), .second, .val (.ref b4), .val (.int f), .val (.int t), .val (.int t)] [(.int (if f < 4 ∧ 4 < t ∧ ¬ (cmpValue (FP.dcmp (D 4) (D f)) .l) = 0 then 1 else 0 : Int32))])) := by
    refine c22.trans ?_
    show Steps p.tables e below (T19.setTop (mkF m 180 #[.val (.int i0), .val (.int i1), .val (.int i2), .val (.int i3), .val (.int i4), .val (.long v0), .second, .val (.long v0), .second, .val (.long v1), .second, .val (.long v2), .second, .val (.long v3), .second, .val (.long v4), .second, .val (.ref b4), .val (.int f), .val (.int t), .val (.int t)] [(.int (4 : Int32)), (.int t), (.int f), (.ref b4)])) _
    refine st23 _ ?_
    exact Steps.refl _
  have Ne4 := Fr.app Nb4 Nd4
  generalize hr4 : (if f < 4 ∧ 4 < t ∧ ¬ (cmpValue (FP.dcmp (D 4) (D f)) .l) = 0 then 1 else 0 : Int32) = r4 at c23
  have c24 : Steps p.tables e below S0 (T23.setTop (mkF m 189 #[.val (.int i0), .val (.int i1), .val (.int i2), .val (.int i3), .val (.int i4), .val (.long v0), .second, .val (.long v0), .second, .val (.long v1), .second, .val (.long v2), .second, .val (.long v3), .second, .val (.long v4), .second, .val (.ref b4), .val (.int f), .val (.int t), .val (.int (if r4 = 0 then t else (4 : Int32)))] [])) := by
    refine c23.trans ?_
    by_cases hj : r4 = 0
    · rw [if_pos hj]
      show Steps p.tables e below (T23.setTop (mkF m 183 #[.val (.int i0), .val (.int i1), .val (.int i2), .val (.int i3), .val (.int i4), .val (.long v0), .second, .val (.long v0), .second, .val (.long v1), .second, .val (.long v2), .second, .val (.long v3), .second, .val (.long v4), .second, .val (.ref b4), .val (.int f), .val (.int t), .val (.int t)] [(.int r4)])) _
      refine XS.ifYes X23.here hx rfl (pc0 := 183) (pc' := 189) rfl (hb hby at_183) rfl ((if0 _ _).trans (teq hj).1) (by decide) (by decide) ?_
      exact Steps.refl _
    · rw [if_neg hj]
      show Steps p.tables e below (T23.setTop (mkF m 183 #[.val (.int i0), .val (.int i1), .val (.int i2), .val (.int i3), .val (.int i4), .val (.long v0), .second, .val (.long v0), .second, .val (.long v1), .second, .val (.long v2), .second, .val (.long v3), .second, .val (.long v4), .second, .val (.ref b4), .val (.int f), .val (.int t), .val (.int t)] [(.int r4)])) _
      refine XS.ifNo X23.here hx rfl (hb hby at_183) rfl ((if0 _ _).trans (feq hj).1) ?_
      show Steps p.tables e below (T23.setTop (mkF m 186 #[.val (.int i0), .val (.int i1), .val (.int i2), .val (.int i3), .val (.int i4), .val (.long v0), .second, .val (.long v0), .second, .val (.long v1), .second, .val (.long v2), .second, .val (.long v3), .second, .val (.long v4), .second, .val (.ref b4), .val (.int f), .val (.int t), .val (.int t)] [])) _
      refine XS.iconst X23.here hx rfl (hb hby at_186) ?_
      show Steps p.tables e below (T23.setTop (mkF m 187 #[.val (.int i0), .val (.int i1), .val (.int i2), .val (.int i3), .val (.int i4), .val (.long v0), .second, .val (.long v0), .second, .val (.long v1), .second, .val (.long v2), .second, .val (.long v3), .second, .val (.long v4), .second, .val (.ref b4), .val (.int f), .val (.int t), .val (.int t)] [(.int (4 : Int32))])) _
      refine XS.istore X23.here hx rfl (hb hby at_187) rfl (l' := #[.val (.int i0), .val (.int i1), .val (.int i2), .val (.int i3), .val (.int i4), .val (.long v0), .second, .val (.long v0), .second, .val (.long v1), .second, .val (.long v2), .second, .val (.long v3), .second, .val (.long v4), .second, .val (.ref b4), .val (.int f), .val (.int t), .val (.int (4 : Int32))]) rfl ?_
      exact Steps.refl _
  have c25 : Steps p.tables e below S0 (T23.setTop (mkF m 196 #[.val (.int i0), .val (.int i1), .val (.int i2), .val (.int i3), .val (.int i4), .val (.long v0), .second, .val (.long v0), .second, .val (.long v1), .second, .val (.long v2), .second, .val (.long v3), .second, .val (.long v4), .second, .val (.ref b4), .val (.int f), .val (.int t), .val (.int (if r4 = 0 then t else (4 : Int32)))] [(.int (3 : Int32)), (.int t), (.int f), (.ref b4)])) := by
    refine c24.trans ?_
    show Steps p.tables e below (T23.setTop (mkF m 189 #[.val (.int i0), .val (.int i1), .val (.int i2), .val (.int i3), .val (.int i4), .val (.long v0), .second, .val (.long v0), .second, .val (.long v1), .second, .val (.long v2), .second, .val (.long v3), .second, .val (.long v4), .second, .val (.ref b4), .val (.int f), .val (.int t), .val (.int (if r4 = 0 then t else (4 : Int32)))] [])) _
    refine XS.aload X23.here hx rfl (hb hby at_189) rfl rfl ?_
    show Steps p.tables e below (T23.setTop (mkF m 191 #[.val (.int i0), .val (.int i1), .val (.int i2), .val (.int i3), .val (.int i4), .val (.long v0), .second, .val (.long v0), .second, .val (.long v1), .second, .val (.long v2), .second, .val (.long v3), .second, .val (.long v4), .second, .val (.ref b4), .val (.int f), .val (.int t), .val (.int (if r4 = 0 then t else (4 : Int32)))] [(.ref b4)])) _
    refine XS.iload X23.here hx rfl (hb hby at_191) rfl ?_
    show Steps p.tables e below (T23.setTop (mkF m 193 #[.val (.int i0), .val (.int i1), .val (.int i2), .val (.int i3), .val (.int i4), .val (.long v0), .second, .val (.long v0), .second, .val (.long v1), .second, .val (.long v2), .second, .val (.long v3), .second, .val (.long v4), .second, .val (.ref b4), .val (.int f), .val (.int t), .val (.int (if r4 = 0 then t else (4 : Int32)))] [(.int f), (.ref b4)])) _
    refine XS.iload X23.here hx rfl (hb hby at_193) rfl ?_
    show Steps p.tables e below (T23.setTop (mkF m 195 #[.val (.int i0), .val (.int i1), .val (.int i2), .val (.int i3), .val (.int i4), .val (.long v0), .second, .val (.long v0), .second, .val (.long v1), .second, .val (.long v2), .second, .val (.long v3), .second, .val (.long v4), .second, .val (.ref b4), .val (.int f), .val (.int t), .val (.int (if r4 = 0 then t else (4 : Int32)))] [(.int t), (.int f), (.ref b4)])) _
    refine XS.iconst X23.here hx rfl (hb hby at_195) ?_
    exact Steps.refl _
  obtain ⟨_, _, ⟨T26, L26, k26, n26⟩, -, X26, ⟨Lc26, hQ26, l26, y26, z26⟩, st26⟩ := Jvm.LawKit.callS X23 hx (y := (⟨"com/example/canvass/canvass/core/ScoreOrderEndOfTiePinLaw", "differs", "([DIII)Z"⟩ : MethodName)) hown (mvT hZ (hw _ (List.mem_of_getElem? (i := 6) rfl))) (mvT hZ (hw _ (List.mem_of_getElem? (i := 7) rfl))) (mvT hZ (hw _ (List.mem_of_getElem? (i := 3) rfl))) (mvT hZ (hw _ (List.mem_of_getElem? (i := 8) rfl))) (by decide) (backOf (W := 0) (rm4 l Z a0 hw [] b4 clz D f t (3 : Int32) h19 n0 Zb4 Arz Sz hDz hf0 hf5 (by decide) (by decide)) hZ (hw _ (List.mem_of_getElem? (i := 8) rfl)) (hw _ (List.mem_of_getElem? (i := 3) rfl)) (by decide) (by decide)) (g := (mkF m 196 #[.val (.int i0), .val (.int i1), .val (.int i2), .val (.int i3), .val (.int i4), .val (.long v0), .second, .val (.long v0), .second, .val (.long v1), .second, .val (.long v2), .second, .val (.long v3), .second, .val (.long v4), .second, .val (.ref b4), .val (.int f), .val (.int t), .val (.int (if r4 = 0 then t else (4 : Int32)))] [(.int (3 : Int32)), (.int t), (.int f), (.ref b4)])) rfl (by rw [hml]; rfl) (argsL := [(.ref b4), (.int f), (.int t), (.int (3 : Int32))]) (rest := []) (lenOf pd1 rfl) rfl (by show 2 * 0 + _ ≤ _; exact Nat.le_of_eq rfl) (hb hby at_196) (fun _ _ => ⟨rfl, ed4, (by decide : 1 + 0 ≤ _), (by decide : 5 + 0 ≤ _)⟩)
  dsimp only [Pt.U, Pt.locs, Pt.cells, Pt.slots] at X26 l26 y26 z26 st26 hQ26
  subst l26 y26 z26
  obtain ⟨rfl, Nd3, ed3⟩ := hQ26
  have c26 : Steps p.tables e below S0 (T26.setTop (mkF m 199 #[.val (.int i0), .val (.int i1), .val (.int i2), .val (.int i3), .val (.int i4), .val (.long v0), .second, .val (.long v0), .second, .val (.long v1), .second, .val (.long v2), .second, .val (.long v3), .second, .val (.long v4), .second, .val (.ref b4), .val (.int f), .val (.int t), .val (.int (if r4 = 0 then t else (4 : Int32)))] [(.int (if f < 3 ∧ 3 < t ∧ ¬ (cmpValue (FP.dcmp (D 3) (D f)) .l) = 0 then 1 else 0 : Int32))])) := by
    refine c25.trans ?_
    show Steps p.tables e below (T23.setTop (mkF m 196 #[.val (.int i0), .val (.int i1), .val (.int i2), .val (.int i3), .val (.int i4), .val (.long v0), .second, .val (.long v0), .second, .val (.long v1), .second, .val (.long v2), .second, .val (.long v3), .second, .val (.long v4), .second, .val (.ref b4), .val (.int f), .val (.int t), .val (.int (if r4 = 0 then t else (4 : Int32)))] [(.int (3 : Int32)), (.int t), (.int f), (.ref b4)])) _
    refine st26 _ ?_
    exact Steps.refl _
  have Ne3 := Fr.app Ne4 Nd3
  generalize hr3 : (if f < 3 ∧ 3 < t ∧ ¬ (cmpValue (FP.dcmp (D 3) (D f)) .l) = 0 then 1 else 0 : Int32) = r3 at c26
  have c27 : Steps p.tables e below S0 (T26.setTop (mkF m 205 #[.val (.int i0), .val (.int i1), .val (.int i2), .val (.int i3), .val (.int i4), .val (.long v0), .second, .val (.long v0), .second, .val (.long v1), .second, .val (.long v2), .second, .val (.long v3), .second, .val (.long v4), .second, .val (.ref b4), .val (.int f), .val (.int t), .val (.int (if r3 = 0 then (if r4 = 0 then t else (4 : Int32)) else (3 : Int32)))] [])) := by
    refine c26.trans ?_
    by_cases hj : r3 = 0
    · rw [if_pos hj]
      show Steps p.tables e below (T26.setTop (mkF m 199 #[.val (.int i0), .val (.int i1), .val (.int i2), .val (.int i3), .val (.int i4), .val (.long v0), .second, .val (.long v0), .second, .val (.long v1), .second, .val (.long v2), .second, .val (.long v3), .second, .val (.long v4), .second, .val (.ref b4), .val (.int f), .val (.int t), .val (.int (if r4 = 0 then t else (4 : Int32)))] [(.int r3)])) _
      refine XS.ifYes X26.here hx rfl (pc0 := 199) (pc' := 205) rfl (hb hby at_199) rfl ((if0 _ _).trans (teq hj).1) (by decide) (by decide) ?_
      exact Steps.refl _
    · rw [if_neg hj]
      show Steps p.tables e below (T26.setTop (mkF m 199 #[.val (.int i0), .val (.int i1), .val (.int i2), .val (.int i3), .val (.int i4), .val (.long v0), .second, .val (.long v0), .second, .val (.long v1), .second, .val (.long v2), .second, .val (.long v3), .second, .val (.long v4), .second, .val (.ref b4), .val (.int f), .val (.int t), .val (.int (if r4 = 0 then t else (4 : Int32)))] [(.int r3)])) _
      refine XS.ifNo X26.here hx rfl (hb hby at_199) rfl ((if0 _ _).trans (feq hj).1) ?_
      show Steps p.tables e below (T26.setTop (mkF m 202 #[.val (.int i0), .val (.int i1), .val (.int i2), .val (.int i3), .val (.int i4), .val (.long v0), .second, .val (.long v0), .second, .val (.long v1), .second, .val (.long v2), .second, .val (.long v3), .second, .val (.long v4), .second, .val (.ref b4), .val (.int f), .val (.int t), .val (.int (if r4 = 0 then t else (4 : Int32)))] [])) _
      refine XS.iconst X26.here hx rfl (hb hby at_202) ?_
      show Steps p.tables e below (T26.setTop (mkF m 203 #[.val (.int i0), .val (.int i1), .val (.int i2), .val (.int i3), .val (.int i4), .val (.long v0), .second, .val (.long v0), .second, .val (.long v1), .second, .val (.long v2), .second, .val (.long v3), .second, .val (.long v4), .second, .val (.ref b4), .val (.int f), .val (.int t), .val (.int (if r4 = 0 then t else (4 : Int32)))] [(.int (3 : Int32))])) _
      refine XS.istore X26.here hx rfl (hb hby at_203) rfl (l' := #[.val (.int i0), .val (.int i1), .val (.int i2), .val (.int i3), .val (.int i4), .val (.long v0), .second, .val (.long v0), .second, .val (.long v1), .second, .val (.long v2), .second, .val (.long v3), .second, .val (.long v4), .second, .val (.ref b4), .val (.int f), .val (.int t), .val (.int (3 : Int32))]) rfl ?_
      exact Steps.refl _
  have c28 : Steps p.tables e below S0 (T26.setTop (mkF m 212 #[.val (.int i0), .val (.int i1), .val (.int i2), .val (.int i3), .val (.int i4), .val (.long v0), .second, .val (.long v0), .second, .val (.long v1), .second, .val (.long v2), .second, .val (.long v3), .second, .val (.long v4), .second, .val (.ref b4), .val (.int f), .val (.int t), .val (.int (if r3 = 0 then (if r4 = 0 then t else (4 : Int32)) else (3 : Int32)))] [(.int (2 : Int32)), (.int t), (.int f), (.ref b4)])) := by
    refine c27.trans ?_
    show Steps p.tables e below (T26.setTop (mkF m 205 #[.val (.int i0), .val (.int i1), .val (.int i2), .val (.int i3), .val (.int i4), .val (.long v0), .second, .val (.long v0), .second, .val (.long v1), .second, .val (.long v2), .second, .val (.long v3), .second, .val (.long v4), .second, .val (.ref b4), .val (.int f), .val (.int t), .val (.int (if r3 = 0 then (if r4 = 0 then t else (4 : Int32)) else (3 : Int32)))] [])) _
    refine XS.aload X26.here hx rfl (hb hby at_205) rfl rfl ?_
    show Steps p.tables e below (T26.setTop (mkF m 207 #[.val (.int i0), .val (.int i1), .val (.int i2), .val (.int i3), .val (.int i4), .val (.long v0), .second, .val (.long v0), .second, .val (.long v1), .second, .val (.long v2), .second, .val (.long v3), .second, .val (.long v4), .second, .val (.ref b4), .val (.int f), .val (.int t), .val (.int (if r3 = 0 then (if r4 = 0 then t else (4 : Int32)) else (3 : Int32)))] [(.ref b4)])) _
    refine XS.iload X26.here hx rfl (hb hby at_207) rfl ?_
    show Steps p.tables e below (T26.setTop (mkF m 209 #[.val (.int i0), .val (.int i1), .val (.int i2), .val (.int i3), .val (.int i4), .val (.long v0), .second, .val (.long v0), .second, .val (.long v1), .second, .val (.long v2), .second, .val (.long v3), .second, .val (.long v4), .second, .val (.ref b4), .val (.int f), .val (.int t), .val (.int (if r3 = 0 then (if r4 = 0 then t else (4 : Int32)) else (3 : Int32)))] [(.int f), (.ref b4)])) _
    refine XS.iload X26.here hx rfl (hb hby at_209) rfl ?_
    show Steps p.tables e below (T26.setTop (mkF m 211 #[.val (.int i0), .val (.int i1), .val (.int i2), .val (.int i3), .val (.int i4), .val (.long v0), .second, .val (.long v0), .second, .val (.long v1), .second, .val (.long v2), .second, .val (.long v3), .second, .val (.long v4), .second, .val (.ref b4), .val (.int f), .val (.int t), .val (.int (if r3 = 0 then (if r4 = 0 then t else (4 : Int32)) else (3 : Int32)))] [(.int t), (.int f), (.ref b4)])) _
    refine XS.iconst X26.here hx rfl (hb hby at_211) ?_
    exact Steps.refl _
  obtain ⟨_, _, ⟨T29, L29, k29, n29⟩, -, X29, ⟨Lc29, hQ29, l29, y29, z29⟩, st29⟩ := Jvm.LawKit.callS X26 hx (y := (⟨"com/example/canvass/canvass/core/ScoreOrderEndOfTiePinLaw", "differs", "([DIII)Z"⟩ : MethodName)) hown (mvT hZ (hw _ (List.mem_of_getElem? (i := 6) rfl))) (mvT hZ (hw _ (List.mem_of_getElem? (i := 7) rfl))) (mvT hZ (hw _ (List.mem_of_getElem? (i := 3) rfl))) (mvT hZ (hw _ (List.mem_of_getElem? (i := 8) rfl))) (by decide) (backOf (W := 0) (rm4 l Z a0 hw [] b4 clz D f t (2 : Int32) h19 n0 Zb4 Arz Sz hDz hf0 hf5 (by decide) (by decide)) hZ (hw _ (List.mem_of_getElem? (i := 8) rfl)) (hw _ (List.mem_of_getElem? (i := 3) rfl)) (by decide) (by decide)) (g := (mkF m 212 #[.val (.int i0), .val (.int i1), .val (.int i2), .val (.int i3), .val (.int i4), .val (.long v0), .second, .val (.long v0), .second, .val (.long v1), .second, .val (.long v2), .second, .val (.long v3), .second, .val (.long v4), .second, .val (.ref b4), .val (.int f), .val (.int t), .val (.int (if r3 = 0 then (if r4 = 0 then t else (4 : Int32)) else (3 : Int32)))] [(.int (2 : Int32)), (.int t), (.int f), (.ref b4)])) rfl (by rw [hml]; rfl) (argsL := [(.ref b4), (.int f), (.int t), (.int (2 : Int32))]) (rest := []) (lenOf pd1 rfl) rfl (by show 2 * 0 + _ ≤ _; exact Nat.le_of_eq rfl) (hb hby at_212) (fun _ _ => ⟨rfl, ed3, (by decide : 1 + 0 ≤ _), (by decide : 5 + 0 ≤ _)⟩)
  dsimp only [Pt.U, Pt.locs, Pt.cells, Pt.slots] at X29 l29 y29 z29 st29 hQ29
  subst l29 y29 z29
  obtain ⟨rfl, Nd2, ed2⟩ := hQ29
  have c29 : Steps p.tables e below S0 (T29.setTop (mkF m 215 #[.val (.int i0), .val (.int i1), .val (.int i2), .val (.int i3), .val (.int i4), .val (.long v0), .second, .val (.long v0), .second, .val (.long v1), .second, .val (.long v2), .second, .val (.long v3), .second, .val (.long v4), .second, .val (.ref b4), .val (.int f), .val (.int t), .val (.int (if r3 = 0 then (if r4 = 0 then t else (4 : Int32)) else (3 : Int32)))] [(.int (if f < 2 ∧ 2 < t ∧ ¬ (cmpValue (FP.dcmp (D 2) (D f)) .l) = 0 then 1 else 0 : Int32))])) := by
    refine c28.trans ?_
    show Steps p.tables e below (T26.setTop (mkF m 212 #[.val (.int i0), .val (.int i1), .val (.int i2), .val (.int i3), .val (.int i4), .val (.long v0), .second, .val (.long v0), .second, .val (.long v1), .second, .val (.long v2), .second, .val (.long v3), .second, .val (.long v4), .second, .val (.ref b4), .val (.int f), .val (.int t), .val (.int (if r3 = 0 then (if r4 = 0 then t else (4 : Int32)) else (3 : Int32)))] [(.int (2 : Int32)), (.int t), (.int f), (.ref b4)])) _
    refine st29 _ ?_
    exact Steps.refl _
  have Ne2 := Fr.app Ne3 Nd2
  generalize hr2 : (if f < 2 ∧ 2 < t ∧ ¬ (cmpValue (FP.dcmp (D 2) (D f)) .l) = 0 then 1 else 0 : Int32) = r2 at c29
  have c30 : Steps p.tables e below S0 (T29.setTop (mkF m 221 #[.val (.int i0), .val (.int i1), .val (.int i2), .val (.int i3), .val (.int i4), .val (.long v0), .second, .val (.long v0), .second, .val (.long v1), .second, .val (.long v2), .second, .val (.long v3), .second, .val (.long v4), .second, .val (.ref b4), .val (.int f), .val (.int t), .val (.int (if r2 = 0 then (if r3 = 0 then (if r4 = 0 then t else (4 : Int32)) else (3 : Int32)) else (2 : Int32)))] [])) := by
    refine c29.trans ?_
    by_cases hj : r2 = 0
    · rw [if_pos hj]
      show Steps p.tables e below (T29.setTop (mkF m 215 #[.val (.int i0), .val (.int i1), .val (.int i2), .val (.int i3), .val (.int i4), .val (.long v0), .second, .val (.long v0), .second, .val (.long v1), .second, .val (.long v2), .second, .val (.long v3), .second, .val (.long v4), .second, .val (.ref b4), .val (.int f), .val (.int t), .val (.int (if r3 = 0 then (if r4 = 0 then t else (4 : Int32)) else (3 : Int32)))] [(.int r2)])) _
      refine XS.ifYes X29.here hx rfl (pc0 := 215) (pc' := 221) rfl (hb hby at_215) rfl ((if0 _ _).trans (teq hj).1) (by decide) (by decide) ?_
      exact Steps.refl _
    · rw [if_neg hj]
      show Steps p.tables e below (T29.setTop (mkF m 215 #[.val (.int i0), .val (.int i1), .val (.int i2), .val (.int i3), .val (.int i4), .val (.long v0), .second, .val (.long v0), .second, .val (.long v1), .second, .val (.long v2), .second, .val (.long v3), .second, .val (.long v4), .second, .val (.ref b4), .val (.int f), .val (.int t), .val (.int (if r3 = 0 then (if r4 = 0 then t else (4 : Int32)) else (3 : Int32)))] [(.int r2)])) _
      refine XS.ifNo X29.here hx rfl (hb hby at_215) rfl ((if0 _ _).trans (feq hj).1) ?_
      show Steps p.tables e below (T29.setTop (mkF m 218 #[.val (.int i0), .val (.int i1), .val (.int i2), .val (.int i3), .val (.int i4), .val (.long v0), .second, .val (.long v0), .second, .val (.long v1), .second, .val (.long v2), .second, .val (.long v3), .second, .val (.long v4), .second, .val (.ref b4), .val (.int f), .val (.int t), .val (.int (if r3 = 0 then (if r4 = 0 then t else (4 : Int32)) else (3 : Int32)))] [])) _
      refine XS.iconst X29.here hx rfl (hb hby at_218) ?_
      show Steps p.tables e below (T29.setTop (mkF m 219 #[.val (.int i0), .val (.int i1), .val (.int i2), .val (.int i3), .val (.int i4), .val (.long v0), .second, .val (.long v0), .second, .val (.long v1), .second, .val (.long v2), .second, .val (.long v3), .second, .val (.long v4), .second, .val (.ref b4), .val (.int f), .val (.int t), .val (.int (if r3 = 0 then (if r4 = 0 then t else (4 : Int32)) else (3 : Int32)))] [(.int (2 : Int32))])) _
      refine XS.istore X29.here hx rfl (hb hby at_219) rfl (l' := #[.val (.int i0), .val (.int i1), .val (.int i2), .val (.int i3), .val (.int i4), .val (.long v0), .second, .val (.long v0), .second, .val (.long v1), .second, .val (.long v2), .second, .val (.long v3), .second, .val (.long v4), .second, .val (.ref b4), .val (.int f), .val (.int t), .val (.int (2 : Int32))]) rfl ?_
      exact Steps.refl _
  have c31 : Steps p.tables e below S0 (T29.setTop (mkF m 228 #[.val (.int i0), .val (.int i1), .val (.int i2), .val (.int i3), .val (.int i4), .val (.long v0), .second, .val (.long v0), .second, .val (.long v1), .second, .val (.long v2), .second, .val (.long v3), .second, .val (.long v4), .second, .val (.ref b4), .val (.int f), .val (.int t), .val (.int (if r2 = 0 then (if r3 = 0 then (if r4 = 0 then t else (4 : Int32)) else (3 : Int32)) else (2 : Int32)))] [(.int (1 : Int32)), (.int t), (.int f), (.ref b4)])) := by
    refine c30.trans ?_
    show Steps p.tables e below (T29.setTop (mkF m 221 #[.val (.int i0), .val (.int i1), .val (.int i2), .val (.int i3), .val (.int i4), .val (.long v0), .second, .val (.long v0), .second, .val (.long v1), .second, .val (.long v2), .second, .val (.long v3), .second, .val (.long v4), .second, .val (.ref b4), .val (.int f), .val (.int t), .val (.int (if r2 = 0 then (if r3 = 0 then (if r4 = 0 then t else (4 : Int32)) else (3 : Int32)) else (2 : Int32)))] [])) _
    refine XS.aload X29.here hx rfl (hb hby at_221) rfl rfl ?_
    show Steps p.tables e below (T29.setTop (mkF m 223 #[.val (.int i0), .val (.int i1), .val (.int i2), .val (.int i3), .val (.int i4), .val (.long v0), .second, .val (.long v0), .second, .val (.long v1), .second, .val (.long v2), .second, .val (.long v3), .second, .val (.long v4), .second, .val (.ref b4), .val (.int f), .val (.int t), .val (.int (if r2 = 0 then (if r3 = 0 then (if r4 = 0 then t else (4 : Int32)) else (3 : Int32)) else (2 : Int32)))] [(.ref b4)])) _
    refine XS.iload X29.here hx rfl (hb hby at_223) rfl ?_
    show Steps p.tables e below (T29.setTop (mkF m 225 #[.val (.int i0), .val (.int i1), .val (.int i2), .val (.int i3), .val (.int i4), .val (.long v0), .second, .val (.long v0), .second, .val (.long v1), .second, .val (.long v2), .second, .val (.long v3), .second, .val (.long v4), .second, .val (.ref b4), .val (.int f), .val (.int t), .val (.int (if r2 = 0 then (if r3 = 0 then (if r4 = 0 then t else (4 : Int32)) else (3 : Int32)) else (2 : Int32)))] [(.int f), (.ref b4)])) _
    refine XS.iload X29.here hx rfl (hb hby at_225) rfl ?_
    show Steps p.tables e below (T29.setTop (mkF m 227 #[.val (.int i0), .val (.int i1), .val (.int i2), .val (.int i3), .val (.int i4), .val (.long v0), .second, .val (.long v0), .second, .val (.long v1), .second, .val (.long v2), .second, .val (.long v3), .second, .val (.long v4), .second, .val (.ref b4), .val (.int f), .val (.int t), .val (.int (if r2 = 0 then (if r3 = 0 then (if r4 = 0 then t else (4 : Int32)) else (3 : Int32)) else (2 : Int32)))] [(.int t), (.int f), (.ref b4)])) _
    refine XS.iconst X29.here hx rfl (hb hby at_227) ?_
    exact Steps.refl _
  obtain ⟨_, _, ⟨T32, L32, k32, n32⟩, -, X32, ⟨Lc32, hQ32, l32, y32, z32⟩, st32⟩ := Jvm.LawKit.callS X29 hx (y := (⟨"com/example/canvass/canvass/core/ScoreOrderEndOfTiePinLaw", "differs", "([DIII)Z"⟩ : MethodName)) hown (mvT hZ (hw _ (List.mem_of_getElem? (i := 6) rfl))) (mvT hZ (hw _ (List.mem_of_getElem? (i := 7) rfl))) (mvT hZ (hw _ (List.mem_of_getElem? (i := 3) rfl))) (mvT hZ (hw _ (List.mem_of_getElem? (i := 8) rfl))) (by decide) (backOf (W := 0) (rm4 l Z a0 hw [] b4 clz D f t (1 : Int32) h19 n0 Zb4 Arz Sz hDz hf0 hf5 (by decide) (by decide)) hZ (hw _ (List.mem_of_getElem? (i := 8) rfl)) (hw _ (List.mem_of_getElem? (i := 3) rfl)) (by decide) (by decide)) (g := (mkF m 228 #[.val (.int i0), .val (.int i1), .val (.int i2), .val (.int i3), .val (.int i4), .val (.long v0), .second, .val (.long v0), .second, .val (.long v1), .second, .val (.long v2), .second, .val (.long v3), .second, .val (.long v4), .second, .val (.ref b4), .val (.int f), .val (.int t), .val (.int (if r2 = 0 then (if r3 = 0 then (if r4 = 0 then t else (4 : Int32)) else (3 : Int32)) else (2 : Int32)))] [(.int (1 : Int32)), (.int t), (.int f), (.ref b4)])) rfl (by rw [hml]; rfl) (argsL := [(.ref b4), (.int f), (.int t), (.int (1 : Int32))]) (rest := []) (lenOf pd1 rfl) rfl (by show 2 * 0 + _ ≤ _; exact Nat.le_of_eq rfl) (hb hby at_228) (fun _ _ => ⟨rfl, ed2, (by decide : 1 + 0 ≤ _), (by decide : 5 + 0 ≤ _)⟩)
  dsimp only [Pt.U, Pt.locs, Pt.cells, Pt.slots] at X32 l32 y32 z32 st32 hQ32
  subst l32 y32 z32
  obtain ⟨rfl, Nd1, ed1⟩ := hQ32
  have c32 : Steps p.tables e below S0 (T32.setTop (mkF m 231 #[.val (.int i0), .val (.int i1), .val (.int i2), .val (.int i3), .val (.int i4), .val (.long v0), .second, .val (.long v0), .second, .val (.long v1), .second, .val (.long v2), .second, .val (.long v3), .second, .val (.long v4), .second, .val (.ref b4), .val (.int f), .val (.int t), .val (.int (if r2 = 0 then (if r3 = 0 then (if r4 = 0 then t else (4 : Int32)) else (3 : Int32)) else (2 : Int32)))] [(.int (if f < 1 ∧ 1 < t ∧ ¬ (cmpValue (FP.dcmp (D 1) (D f)) .l) = 0 then 1 else 0 : Int32))])) := by
    refine c31.trans ?_
    show Steps p.tables e below (T29.setTop (mkF m 228 #[.val (.int i0), .val (.int i1), .val (.int i2), .val (.int i3), .val (.int i4), .val (.long v0), .second, .val (.long v0), .second, .val (.long v1), .second, .val (.long v2), .second, .val (.long v3), .second, .val (.long v4), .second, .val (.ref b4), .val (.int f), .val (.int t), .val (.int (if r2 = 0 then (if r3 = 0 then (if r4 = 0 then t else (4 : Int32)) else (3 : Int32)) else (2 : Int32)))] [(.int (1 : Int32)), (.int t), (.int f), (.ref b4)])) _
    refine st32 _ ?_
    exact Steps.refl _
  have Ne1 := Fr.app Ne2 Nd1
  generalize hr1 : (if f < 1 ∧ 1 < t ∧ ¬ (cmpValue (FP.dcmp (D 1) (D f)) .l) = 0 then 1 else 0 : Int32) = r1 at c32
  have c33 : Steps p.tables e below S0 (T32.setTop (mkF m 237 #[.val (.int i0), .val (.int i1), .val (.int i2), .val (.int i3), .val (.int i4), .val (.long v0), .second, .val (.long v0), .second, .val (.long v1), .second, .val (.long v2), .second, .val (.long v3), .second, .val (.long v4), .second, .val (.ref b4), .val (.int f), .val (.int t), .val (.int (if r1 = 0 then (if r2 = 0 then (if r3 = 0 then (if r4 = 0 then t else (4 : Int32)) else (3 : Int32)) else (2 : Int32)) else (1 : Int32)))] [])) := by
    refine c32.trans ?_
    by_cases hj : r1 = 0
    · rw [if_pos hj]
      show Steps p.tables e below (T32.setTop (mkF m 231 #[.val (.int i0), .val (.int i1), .val (.int i2), .val (.int i3), .val (.int i4), .val (.long v0), .second, .val (.long v0), .second, .val (.long v1), .second, .val (.long v2), .second, .val (.long v3), .second, .val (.long v4), .second, .val (.ref b4), .val (.int f), .val (.int t), .val (.int (if r2 = 0 then (if r3 = 0 then (if r4 = 0 then t else (4 : Int32)) else (3 : Int32)) else (2 : Int32)))] [(.int r1)])) _
      refine XS.ifYes X32.here hx rfl (pc0 := 231) (pc' := 237) rfl (hb hby at_231) rfl ((if0 _ _).trans (teq hj).1) (by decide) (by decide) ?_
      exact Steps.refl _
    · rw [if_neg hj]
      show Steps p.tables e below (T32.setTop (mkF m 231 #[.val (.int i0), .val (.int i1), .val (.int i2), .val (.int i3), .val (.int i4), .val (.long v0), .second, .val (.long v0), .second, .val (.long v1), .second, .val (.long v2), .second, .val (.long v3), .second, .val (.long v4), .second, .val (.ref b4), .val (.int f), .val (.int t), .val (.int (if r2 = 0 then (if r3 = 0 then (if r4 = 0 then t else (4 : Int32)) else (3 : Int32)) else (2 : Int32)))] [(.int r1)])) _
      refine XS.ifNo X32.here hx rfl (hb hby at_231) rfl ((if0 _ _).trans (feq hj).1) ?_
      show Steps p.tables e below (T32.setTop (mkF m 234 #[.val (.int i0), .val (.int i1), .val (.int i2), .val (.int i3), .val (.int i4), .val (.long v0), .second, .val (.long v0), .second, .val (.long v1), .second, .val (.long v2), .second, .val (.long v3), .second, .val (.long v4), .second, .val (.ref b4), .val (.int f), .val (.int t), .val (.int (if r2 = 0 then (if r3 = 0 then (if r4 = 0 then t else (4 : Int32)) else (3 : Int32)) else (2 : Int32)))] [])) _
      refine XS.iconst X32.here hx rfl (hb hby at_234) ?_
      show Steps p.tables e below (T32.setTop (mkF m 235 #[.val (.int i0), .val (.int i1), .val (.int i2), .val (.int i3), .val (.int i4), .val (.long v0), .second, .val (.long v0), .second, .val (.long v1), .second, .val (.long v2), .second, .val (.long v3), .second, .val (.long v4), .second, .val (.ref b4), .val (.int f), .val (.int t), .val (.int (if r2 = 0 then (if r3 = 0 then (if r4 = 0 then t else (4 : Int32)) else (3 : Int32)) else (2 : Int32)))] [(.int (1 : Int32))])) _
      refine XS.istore X32.here hx rfl (hb hby at_235) rfl (l' := #[.val (.int i0), .val (.int i1), .val (.int i2), .val (.int i3), .val (.int i4), .val (.long v0), .second, .val (.long v0), .second, .val (.long v1), .second, .val (.long v2), .second, .val (.long v3), .second, .val (.long v4), .second, .val (.ref b4), .val (.int f), .val (.int t), .val (.int (1 : Int32))]) rfl ?_
      exact Steps.refl _
  have c34 : Steps p.tables e below S0 (T32.setTop (mkF m 243 #[.val (.int i0), .val (.int i1), .val (.int i2), .val (.int i3), .val (.int i4), .val (.long v0), .second, .val (.long v0), .second, .val (.long v1), .second, .val (.long v2), .second, .val (.long v3), .second, .val (.long v4), .second, .val (.ref b4), .val (.int f), .val (.int t), .val (.int (if r1 = 0 then (if r2 = 0 then (if r3 = 0 then (if r4 = 0 then t else (4 : Int32)) else (3 : Int32)) else (2 : Int32)) else (1 : Int32)))] [(.int t), (.int f), (.ref b4)])) := by
    refine c33.trans ?_
    show Steps p.tables e below (T32.setTop (mkF m 237 #[.val (.int i0), .val (.int i1), .val (.int i2), .val (.int i3), .val (.int i4), .val (.long v0), .second, .val (.long v0), .second, .val (.long v1), .second, .val (.long v2), .second, .val (.long v3), .second, .val (.long v4), .second, .val (.ref b4), .val (.int f), .val (.int t), .val (.int (if r1 = 0 then (if r2 = 0 then (if r3 = 0 then (if r4 = 0 then t else (4 : Int32)) else (3 : Int32)) else (2 : Int32)) else (1 : Int32)))] [])) _
    refine XS.aload X32.here hx rfl (hb hby at_237) rfl rfl ?_
    show Steps p.tables e below (T32.setTop (mkF m 239 #[.val (.int i0), .val (.int i1), .val (.int i2), .val (.int i3), .val (.int i4), .val (.long v0), .second, .val (.long v0), .second, .val (.long v1), .second, .val (.long v2), .second, .val (.long v3), .second, .val (.long v4), .second, .val (.ref b4), .val (.int f), .val (.int t), .val (.int (if r1 = 0 then (if r2 = 0 then (if r3 = 0 then (if r4 = 0 then t else (4 : Int32)) else (3 : Int32)) else (2 : Int32)) else (1 : Int32)))] [(.ref b4)])) _
    refine XS.iload X32.here hx rfl (hb hby at_239) rfl ?_
    show Steps p.tables e below (T32.setTop (mkF m 241 #[.val (.int i0), .val (.int i1), .val (.int i2), .val (.int i3), .val (.int i4), .val (.long v0), .second, .val (.long v0), .second, .val (.long v1), .second, .val (.long v2), .second, .val (.long v3), .second, .val (.long v4), .second, .val (.ref b4), .val (.int f), .val (.int t), .val (.int (if r1 = 0 then (if r2 = 0 then (if r3 = 0 then (if r4 = 0 then t else (4 : Int32)) else (3 : Int32)) else (2 : Int32)) else (1 : Int32)))] [(.int f), (.ref b4)])) _
    refine XS.iload X32.here hx rfl (hb hby at_241) rfl ?_
    exact Steps.refl _
  obtain ⟨_, _, ⟨T35, L35, k35, n35⟩, -, X35, ⟨Lc35, hQ35, l35, y35, z35⟩, st35⟩ := Jvm.LawKit.callS X32 hx (y := (⟨"com/example/canvass/canvass/core/ScoreOrder", "endOfTie", "([DII)I"⟩ : MethodName)) hown (mvT hZ (hw _ (List.mem_of_getElem? (i := 9) rfl))) (mvT hZ (hw _ (List.mem_of_getElem? (i := 10) rfl))) (mvT hZ (hw _ (List.mem_of_getElem? (i := 11) rfl))) (mvT hZ (hw _ (List.mem_of_getElem? (i := 12) rfl))) (by decide) (backOf (W := 0) (rm29 l Z a0 hw [] b4 clz D f t h19 n0 Zb4 Arz Sz hDz hf0 hf5 ht5) hZ (hw _ (List.mem_of_getElem? (i := 12) rfl)) (hw _ (List.mem_of_getElem? (i := 11) rfl)) (by decide) (by decide)) (g := (mkF m 243 #[.val (.int i0), .val (.int i1), .val (.int i2), .val (.int i3), .val (.int i4), .val (.long v0), .second, .val (.long v0), .second, .val (.long v1), .second, .val (.long v2), .second, .val (.long v3), .second, .val (.long v4), .second, .val (.ref b4), .val (.int f), .val (.int t), .val (.int (if r1 = 0 then (if r2 = 0 then (if r3 = 0 then (if r4 = 0 then t else (4 : Int32)) else (3 : Int32)) else (2 : Int32)) else (1 : Int32)))] [(.int t), (.int f), (.ref b4)])) rfl (by rw [hml]; rfl) (argsL := [(.ref b4), (.int f), (.int t)]) (rest := []) (lenOf pd2 rfl) rfl (by show 2 * 0 + _ ≤ _; exact Nat.le_of_eq rfl) (hb hby at_243) (fun _ _ => ⟨rfl, ed1, (by decide : 1 + 0 ≤ _), (by decide : 5 + 0 ≤ _)⟩)
  dsimp only [Pt.U, Pt.locs, Pt.cells, Pt.slots] at X35 l35 y35 z35 st35 hQ35
  subst l35 y35 z35
  obtain ⟨rfl, Nz, ez⟩ := hQ35
  have c35 : Steps p.tables e below S0 (T35.setTop (mkF m 246 #[.val (.int i0), .val (.int i1), .val (.int i2), .val (.int i3), .val (.int i4), .val (.long v0), .second, .val (.long v0), .second, .val (.long v1), .second, .val (.long v2), .second, .val (.long v3), .second, .val (.long v4), .second, .val (.ref b4), .val (.int f), .val (.int t), .val (.int (if r1 = 0 then (if r2 = 0 then (if r3 = 0 then (if r4 = 0 then t else (4 : Int32)) else (3 : Int32)) else (2 : Int32)) else (1 : Int32)))] [(.int (own_eot (fun k => decide (cmpValue (FP.dcmp (D k) (D f)) .l = 0)) t 5 (f + 1)))])) := by
    refine c34.trans ?_
    show Steps p.tables e below (T32.setTop (mkF m 243 #[.val (.int i0), .val (.int i1), .val (.int i2), .val (.int i3), .val (.int i4), .val (.long v0), .second, .val (.long v0), .second, .val (.long v1), .second, .val (.long v2), .second, .val (.long v3), .second, .val (.long v4), .second, .val (.ref b4), .val (.int f), .val (.int t), .val (.int (if r1 = 0 then (if r2 = 0 then (if r3 = 0 then (if r4 = 0 then t else (4 : Int32)) else (3 : Int32)) else (2 : Int32)) else (1 : Int32)))] [(.int t), (.int f), (.ref b4)])) _
    refine st35 _ ?_
    exact Steps.refl _
  have hlaw : (own_eot (fun k => decide (cmpValue (FP.dcmp (D k) (D f)) .l = 0)) t 5 (f + 1)) = (if r1 = 0 then (if r2 = 0 then (if r3 = 0 then (if r4 = 0 then t else (4 : Int32)) else (3 : Int32)) else (2 : Int32)) else (1 : Int32)) := by
    subst hr4 hr3 hr2 hr1
    exact own_law (fun k => decide (cmpValue (FP.dcmp (D k) (D f)) .l = 0)) (fun k => cmpValue (FP.dcmp (D k) (D f)) .l = 0) (fun k => decide_eq_true_iff) f t hf0 hft ht5
  have c36 : Steps p.tables e below S0 (T35.setTop (mkF m 256 #[.val (.int i0), .val (.int i1), .val (.int i2), .val (.int i3), .val (.int i4), .val (.long v0), .second, .val (.long v0), .second, .val (.long v1), .second, .val (.long v2), .second, .val (.long v3), .second, .val (.long v4), .second, .val (.ref b4), .val (.int f), .val (.int t), .val (.int (if r1 = 0 then (if r2 = 0 then (if r3 = 0 then (if r4 = 0 then t else (4 : Int32)) else (3 : Int32)) else (2 : Int32)) else (1 : Int32)))] [(.int (1 : Int32))])) := by
    refine c35.trans ?_
    show Steps p.tables e below (T35.setTop (mkF m 246 #[.val (.int i0), .val (.int i1), .val (.int i2), .val (.int i3), .val (.int i4), .val (.long v0), .second, .val (.long v0), .second, .val (.long v1), .second, .val (.long v2), .second, .val (.long v3), .second, .val (.long v4), .second, .val (.ref b4), .val (.int f), .val (.int t), .val (.int (if r1 = 0 then (if r2 = 0 then (if r3 = 0 then (if r4 = 0 then t else (4 : Int32)) else (3 : Int32)) else (2 : Int32)) else (1 : Int32)))] [(.int (own_eot (fun k => decide (cmpValue (FP.dcmp (D k) (D f)) .l = 0)) t 5 (f + 1)))])) _
    refine XS.iload X35.here hx rfl (hb hby at_246) rfl ?_
    show Steps p.tables e below (T35.setTop (mkF m 248 #[.val (.int i0), .val (.int i1), .val (.int i2), .val (.int i3), .val (.int i4), .val (.long v0), .second, .val (.long v0), .second, .val (.long v1), .second, .val (.long v2), .second, .val (.long v3), .second, .val (.long v4), .second, .val (.ref b4), .val (.int f), .val (.int t), .val (.int (if r1 = 0 then (if r2 = 0 then (if r3 = 0 then (if r4 = 0 then t else (4 : Int32)) else (3 : Int32)) else (2 : Int32)) else (1 : Int32)))] [(.int (if r1 = 0 then (if r2 = 0 then (if r3 = 0 then (if r4 = 0 then t else (4 : Int32)) else (3 : Int32)) else (2 : Int32)) else (1 : Int32))), (.int (own_eot (fun k => decide (cmpValue (FP.dcmp (D k) (D f)) .l = 0)) t 5 (f + 1)))])) _
    refine XS.icmpNo X35.here hx rfl (hb hby at_248) rfl (teq hlaw).2 ?_
    show Steps p.tables e below (T35.setTop (mkF m 251 #[.val (.int i0), .val (.int i1), .val (.int i2), .val (.int i3), .val (.int i4), .val (.long v0), .second, .val (.long v0), .second, .val (.long v1), .second, .val (.long v2), .second, .val (.long v3), .second, .val (.long v4), .second, .val (.ref b4), .val (.int f), .val (.int t), .val (.int (if r1 = 0 then (if r2 = 0 then (if r3 = 0 then (if r4 = 0 then t else (4 : Int32)) else (3 : Int32)) else (2 : Int32)) else (1 : Int32)))] [])) _
    refine XS.iconst X35.here hx rfl (hb hby at_251) ?_
    show Steps p.tables e below (T35.setTop (mkF m 252 #[.val (.int i0), .val (.int i1), .val (.int i2), .val (.int i3), .val (.int i4), .val (.long v0), .second, .val (.long v0), .second, .val (.long v1), .second, .val (.long v2), .second, .val (.long v3), .second, .val (.long v4), .second, .val (.ref b4), .val (.int f), .val (.int t), .val (.int (if r1 = 0 then (if r2 = 0 then (if r3 = 0 then (if r4 = 0 then t else (4 : Int32)) else (3 : Int32)) else (2 : Int32)) else (1 : Int32)))] [(.int (1 : Int32))])) _
    refine XS.goto X35.here hx rfl (pc0 := 252) (pc' := 256) rfl (hb hby at_252) (by decide) (by decide) ?_
    exact Steps.refl _
  obtain ⟨fs, hr, hrun, hended, hW, hsame⟩ := X35.leave (v := some (.int 1)) (fun h => by rw [Bd.returns] at h; cases h)
  refine ⟨_, _, c36.trans ?_, hrun, hended, _, _, rfl, ?_, ⟨_, rfl⟩, hW, hsame.mono (by decide) (by decide)⟩
  · show Steps p.tables e below (T35.setTop (mkF m 256 #[.val (.int i0), .val (.int i1), .val (.int i2), .val (.int i3), .val (.int i4), .val (.long v0), .second, .val (.long v0), .second, .val (.long v1), .second, .val (.long v2), .second, .val (.long v3), .second, .val (.long v4), .second, .val (.ref b4), .val (.int f), .val (.int t), .val (.int (if r1 = 0 then (if r2 = 0 then (if r3 = 0 then (if r4 = 0 then t else (4 : Int32)) else (3 : Int32)) else (2 : Int32)) else (1 : Int32)))] [(.int (1 : Int32))])) _
    exact retN X35 hx (t := .boolean) Bd.returns (by simp) (hb hby at_256) hr
  · show Q0 Z i0 i1 i2 i3 i4 h0 n0 _ T35.heap _
    rw [ez]
    exact ⟨rfl, Fr.app Ne1 Nz⟩
set_option maxRecDepth 65536 in
set_option maxHeartbeats 40000000 in
theorem comes_1 {Post : Tables → Env → Array Value → State → Outcome → State → Prop} (hpost : ∀ tb e args s v u, (limb_1_1.after args s (.returned v) u = true ∧ limb_1_2.after args s (.returned v) u = true ∧ True) → FrameEnd s (.returned v) u (Jvm.fieldLocs frame_1_writes args s ++ Jvm.arrayLocs frame_1_arrays args s ++ Jvm.staticLocs frame_1_statics s) 16 128 → Post tb e args s (.returned v) u) :
    ArmFor flags0 classFile x code maxLocals ret World_1 tables_1 room_1 Calls_1 rest_1 Pre_1 Post := by
  intro l hfl _ _ p e ha hc hk s m args below hf hA hF happ hP
  obtain ⟨hcalls, hrest, hpre⟩ := hP
  obtain ⟨-, -, -, hnamed, -, -, -, hat⟩ := (Spec.applies_iff hf).mp happ
  obtain ⟨hg, hn⟩ := and_e (Cond.before_iff.mp (show (Jvm.Cond.and given_1 narrow_1).before args s = true from hpre))
  obtain ⟨h1, g0⟩ := and_e hg
  obtain ⟨a0, g1⟩ := and_e g0
  obtain ⟨a1, g2⟩ := and_e g1
  obtain ⟨a2, g3⟩ := and_e g2
  obtain ⟨a3, g4⟩ := and_e g3
  have a4 := g4
  obtain ⟨w0, w1, w2, w3, w4, rfl⟩ : ∃ w0 w1 w2 w3 w4 : Value, args = #[w0, w1, w2, w3, w4] := by
    have hs : args.size = 5 := by simpa [Cond.value, given_1] using h1
    obtain ⟨L⟩ := args
    match L, hs with
    | [w0, w1, w2, w3, w4], _ => exact ⟨w0, w1, w2, w3, w4, rfl⟩
  have hw := fun d (hd : d ∈ tables_1) => atoms_spec (ws := Jvm.Cond.code x code maxLocals ret :: tables_1) hat d (List.mem_cons_of_mem _ hd)
  have hfit : Fit s := fun {y c} hc i hi => by
    obtain ⟨ha, rfl⟩ := Array.getElem?_eq_some_iff.mp hc
    have q := List.all_eq_true.mp ((Array.all_eq_true_iff_forall_mem.mp hF) _ (Array.getElem_mem ha)) i (List.mem_range.mpr hi)
    simpa [Array.getElem?_eq_getElem hi] using q
  obtain ⟨i0, e0⟩ := is_v a0
  obtain rfl : w0 = (.int i0) := Option.some.inj e0
  obtain ⟨i1, e1⟩ := is_v a1
  obtain rfl : w1 = (.int i1) := Option.some.inj e1
  obtain ⟨i2, e2⟩ := is_v a2
  obtain rfl : w2 = (.int i2) := Option.some.inj e2
  obtain ⟨i3, e3⟩ := is_v a3
  obtain rfl : w3 = (.int i3) := Option.some.inj e3
  obtain ⟨i4, e4⟩ := is_v a4
  obtain rfl : w4 = (.int i4) := Option.some.inj e4
  obtain ⟨n, o, h1, h2, h3, _, L, rfl, ⟨rfl, N⟩, hq⟩ := rm0 l s _ hw tables_1 i0 i1 i2 i3 i4 s.heap s.heap.size (Nat.le_refl _) p e ha hc hk s m _ below hf ((Spec.applies_iff_loose hf).mp happ).1 ⟨rfl, State.Warmed39.refl s, rfl⟩ trivial
  refine ⟨n, _, h1, h2, h3, hpost _ _ _ _ _ _ ⟨Cond.after_iff.mpr rfl, Cond.after_iff.mpr (eq_i res_at (Term.int_eval (1)) rfl), trivial⟩ ⟨hq.1, hq.2.1, (hq.2.2.sift fun y hy => Or.inr (N y hy)).mono (by decide) (by decide)⟩⟩
theorem main_1_1 : Claimed_1_1 := comes_1 fun _ _ _ _ _ _ h hF => ⟨h.1, hF⟩
theorem main_1_2 : Claimed_1_2 := comes_1 fun _ _ _ _ _ _ h hF => ⟨h.2.1, hF⟩
end Jvm.Pilot.@@N@@
namespace Jvm.Pilot.@@N@@
open Jvm Jvm.ClassFile Sem Op Lib Jvm.Free Jvm.Stand Jvm.Pilot.@@N@@.Jvm.D
/-! MADE BY PROGRAM (witnessworld.py) out of the Statement's table words and the real class files: 11 classes; the members and pool entries that the words name. The judged class is class 1, her method 1. -/
namespace start1
open Jvm.ClassFile
def u (s : String) : CpInfo := .utf8 (stringToUtf16 s)
/-- a pool by its gaps: so many unusable entries, then the entry; so many at the end -/
def gap : Nat → List CpInfo → List CpInfo
  | 0, r => r
  | n + 1, r => .unusable :: gap n r
def poolList (es : List (Nat × CpInfo)) (last : Nat) : List CpInfo := es.foldr (fun e r => gap e.1 (e.2 :: r)) (gap last [])
def pool (es : List (Nat × CpInfo)) (last : Nat) : Array CpInfo := ⟨poolList es last⟩
def fileOf (pool : Array CpInfo) (this : Nat) (attrs : Array Attribute := #[]) (ms : Array MethodInfo := #[]) (fl : Nat := 33) (sup : Nat := 0) (ifs : Array Nat := #[]) (fds : Array FieldInfo := #[]) : ClassFile where
  minorVersion := 0
  majorVersion := 65
  constantPool := pool
  accessFlags := fl
  thisClass := this
  superClass := sup
  interfaces := ifs
  fields := fds
  methods := ms
  attributes := attrs
def plain (name : String) (sup : Option ClassId) : Class where
  name := name
  kind := .ordinary
  loader := none
  accessFlags := 33
  super := sup
  interfaces := #[]
  cf := none
  fields := #[]
  methods := #[]
  instanceTypes := #[]
  staticTypes := #[]
  resolved := #[]
  callSites := []
  init := .initialized
  statics := none
  mirror := none

def pool0 : Array CpInfo := pool [(5, u "<init>"), (0, u "()V"), (1, .class_ 10), (1, u "java/lang/Object")] 113

def k0m0 : Method := { name := "<init>", desc := "()V", sig := { parameters := [], returnType := none }, accessFlags := 1, code := none }
/-- java/lang/Object -/
def k0 : Class := { plain "java/lang/Object" none with
  accessFlags := 33
  interfaces := #[]
  cf := some (fileOf pool0 8 #[] #[{ accessFlags := 1, nameIndex := 5, descriptorIndex := 6, attributes := #[] }] 33 0 #[] #[])
  fields := #[]
  methods := #[k0m0]
  instanceTypes := #[]
  staticTypes := #[]
  resolved := Array.replicate 124 none
  statics := none }

def pool1 : Array CpInfo := pool [(2, .class_ 4), (1, u "java/lang/Object"), (0, u "<init>"), (0, u "()V"), (0, .methodref 8 9), (0, .class_ 10), (0, .nameAndType 11 12), (0, u "com/example/canvass/canvass/core/ScoreOrderEndOfTiePinLaw"), (0, u "score"), (0, u "(JI)D"), (0, .integer 2147483647), (0, .methodref 8 15), (0, .nameAndType 16 17), (0, u "differs"), (0, u "([DIII)Z"), (0, .methodref 19 20), (0, .class_ 21), (0, .nameAndType 22 23), (0, u "com/example/canvass/canvass/core/ScoreOrder"), (0, u "endOfTie"), (0, u "([DII)I"), (0, .double 9223372036854775808), (3, u "law"), (0, u "(IIIII)Z")] 5

def k1m0 : Method := { name := "<init>", desc := "()V", sig := { parameters := [], returnType := none }, accessFlags := 1, code := none }
def k1c1 : Code := { maxStack := 6, maxLocals := 21, code := code, exceptionTable := #[], attributes := #[] }
def k1m1 : Method := { name := "law", desc := "(IIIII)Z", sig := { parameters := [.int, .int, .int, .int, .int], returnType := some .boolean }, accessFlags := 9, code := some k1c1 }
def k1c2 : Code := { maxStack := 4, maxLocals := 3, code := method_3_code, exceptionTable := #[], attributes := #[] }
def k1m2 : Method := { name := "score", desc := "(JI)D", sig := { parameters := [.long, .int], returnType := some .double }, accessFlags := 10, code := some k1c2 }
def k1c3 : Code := { maxStack := 4, maxLocals := 4, code := method_4_code, exceptionTable := #[], attributes := #[] }
def k1m3 : Method := { name := "differs", desc := "([DIII)Z", sig := { parameters := [(.array .double), .int, .int, .int], returnType := some .boolean }, accessFlags := 10, code := some k1c3 }
/-- com/example/canvass/canvass/core/ScoreOrderEndOfTiePinLaw -/
def k1 : Class := { plain "com/example/canvass/canvass/core/ScoreOrderEndOfTiePinLaw" (some 0) with
  accessFlags := 49
  interfaces := #[]
  cf := some (fileOf pool1 8 #[] #[{ accessFlags := 1, nameIndex := 5, descriptorIndex := 6, attributes := #[] }, { accessFlags := 9, nameIndex := 28, descriptorIndex := 29, attributes := #[] }, { accessFlags := 10, nameIndex := 11, descriptorIndex := 12, attributes := #[] }, { accessFlags := 10, nameIndex := 16, descriptorIndex := 17, attributes := #[] }] 49 2 #[] #[])
  fields := #[]
  methods := #[k1m0, k1m1, k1m2, k1m3]
  instanceTypes := #[]
  staticTypes := #[]
  resolved := Array.replicate 35 none
  statics := none }

def pool2 : Array CpInfo := pool [(2, .class_ 4), (1, u "java/lang/Object"), (0, u "<init>"), (0, u "()V"), (1, .class_ 10), (1, u "com/example/canvass/canvass/core/ScoreOrder"), (9, u "([DII)I"), (1, u "endOfTie")] 2

def k2m0 : Method := { name := "<init>", desc := "()V", sig := { parameters := [], returnType := none }, accessFlags := 2, code := none }
def k2c1 : Code := { maxStack := 4, maxLocals := 4, code := prog_29_method_4_code, exceptionTable := #[], attributes := #[] }
def k2m1 : Method := { name := "endOfTie", desc := "([DII)I", sig := { parameters := [(.array .double), .int, .int], returnType := some .int }, accessFlags := 9, code := some k2c1 }
/-- com/example/canvass/canvass/core/ScoreOrder -/
def k2 : Class := { plain "com/example/canvass/canvass/core/ScoreOrder" (some 0) with
  accessFlags := 49
  interfaces := #[]
  cf := some (fileOf pool2 8 #[] #[{ accessFlags := 2, nameIndex := 5, descriptorIndex := 6, attributes := #[] }, { accessFlags := 9, nameIndex := 22, descriptorIndex := 20, attributes := #[] }] 49 2 #[] #[])
  fields := #[]
  methods := #[k2m0, k2m1]
  instanceTypes := #[]
  staticTypes := #[]
  resolved := Array.replicate 25 none
  statics := none }

def pool3 : Array CpInfo := pool [(1, u "java/lang/Cloneable"), (0, .class_ 1), (0, u "java/lang/Object"), (0, .class_ 3)] 3

/-- java/lang/Cloneable -/
def k3 : Class := { plain "java/lang/Cloneable" (some 0) with
  accessFlags := 1537
  interfaces := #[]
  cf := some (fileOf pool3 2 #[] #[] 1537 4 #[] #[])
  fields := #[]
  methods := #[]
  instanceTypes := #[]
  staticTypes := #[]
  resolved := Array.replicate 8 none
  statics := none }

def pool4 : Array CpInfo := pool [(1, u "java/io/Serializable"), (0, .class_ 1), (0, u "java/lang/Object"), (0, .class_ 3)] 3

/-- java/io/Serializable -/
def k4 : Class := { plain "java/io/Serializable" (some 0) with
  accessFlags := 1537
  interfaces := #[]
  cf := some (fileOf pool4 2 #[] #[] 1537 4 #[] #[])
  fields := #[]
  methods := #[]
  instanceTypes := #[]
  staticTypes := #[]
  resolved := Array.replicate 8 none
  statics := none }

/-- the primitive byte -/
def k5 : Class := { plain "byte" none with kind := .primitive 'B', accessFlags := 0x411 }
/-- [B -/
def k6 : Class := { plain "[B" (some 0) with kind := .array 5 .byte, interfaces := #[3, 4], accessFlags := 1041 }

/-- the primitive double -/
def k7 : Class := { plain "double" none with kind := .primitive 'D', accessFlags := 0x411 }
/-- [D -/
def k8 : Class := { plain "[D" (some 0) with kind := .array 7 .double, interfaces := #[3, 4], accessFlags := 1041 }

/-- the primitive int -/
def k9 : Class := { plain "int" none with kind := .primitive 'I', accessFlags := 0x411 }
/-- [I -/
def k10 : Class := { plain "[I" (some 0) with kind := .array 9 .int, interfaces := #[3, 4], accessFlags := 1041 }

def heap : Heap := #[]
def classes : Array Class := #[k0, k1, k2, k3, k4, k5, k6, k7, k8, k9, k10]
def interned : List (Array UInt16 × Addr) := []
def slotsUsed : Nat := 0
def theMethod : MethodId := ⟨1, 1⟩
def args0 : Array Value := #[.int 5, .int 6, .int 3, .int 3, .int 3]
def aboutOver (below : List Frame) : State where
  vm := { classes := classes, interned := interned.toArray }
  heap := heap
  slotsUsed := slotsUsed
  threads := #[{ frames := .invoking theMethod args0 :: below }]
def below0 : List Frame := [.native { method := ⟨0, 0⟩, args := #[] }]
def about1 : State := aboutOver below0
def p0 : Program := .bare "" "" ""
def e0 : Env := launch0.env 0 0 0
theorem w_frames : about1.frames = Frame.invoking theMethod args0 :: below0 := rfl
set_option maxRecDepth 65536 in
theorem w_args : argsFit about1.vm theMethod args0 = true := by decide +kernel
set_option maxRecDepth 65536 in
theorem w_heap : heapFits about1 = true := by decide +kernel
set_option maxRecDepth 65536 in
theorem w_runnable : about1.curStatus? = some .runnable := by decide +kernel
set_option maxRecDepth 65536 in
theorem w_alone : about1.alone = true := by decide +kernel
set_option maxRecDepth 65536 in
theorem w_named : about1.methodNamed? x = some theMethod := by decide +kernel
set_option maxRecDepth 65536 in
theorem w_hears : about1.hears theMethod below0 = true := by decide +kernel
set_option maxRecDepth 65536 in
theorem w_ripe : about1.ripe theMethod args0 below0 = true := by decide +kernel
theorem w_running : about1.status = .running := rfl
set_option maxRecDepth 65536 in
theorem w_room : about1.hasRoom e0.platform room_1 = true :=
  launch0.hasRoom_least _ room_1 (by decide +kernel) (by decide +kernel) (by decide +kernel) (by decide +kernel) (by decide +kernel) (by decide +kernel)
theorem allAtoms_all (ts : List Jvm.Cond) (a : Array Jvm.Value) (st : Jvm.State) : (allAtoms ts).before a st = ts.all (fun c => c.before a st) := by
  induction ts with
  | nil => rfl
  | cons c t ih =>
    show (Jvm.Cond.and c (allAtoms t)).before a st = _
    rw [Jvm.Cond.before_and, ih, List.all_cons]
def words1 : List Jvm.Cond := Jvm.Cond.code x code maxLocals ret :: tables_1
/-- a 'code' word, met by the world's own term for the bytes: nothing is compared byte by byte -/
theorem code_word {y : MethodName} {bytes : ByteArray} {mx : Nat} {rt : Option FieldType} {a : Array Value} {s : State} {m : MethodId} {meth : Method} {c : Code} (h1 : s.methodNamed? y = some m) (h2 : s.vm.method? m = some meth) (h3 : meth.code = some c) (h4 : c.code = bytes)
    (h5 : (c.maxLocals == mx && c.exceptionTable.isEmpty && decide (c.maxStack ≤ mostOperands) && decide (meth.sig.returnType = rt) && !meth.locks && decide (parseMethodDescriptor y.desc = some meth.sig)) = true) : (Jvm.Cond.code y bytes mx rt).before a s = true := by
  simp only [Bool.and_eq_true, beq_iff_eq, Bool.not_eq_true', decide_eq_true_eq] at h5
  obtain ⟨⟨⟨⟨⟨g1, g2⟩, g3⟩, g4⟩, g5⟩, g6⟩ := h5
  simp [Cond.before, Cond.holds, Cond.value, h1, h2, h3, h4, g1, g2, g3, g4, g5, g6]
def isCode : Jvm.Cond → Bool
  | .code _ _ _ _ => true
  | _ => false
theorem all_split {L : List Jvm.Cond} {P : Jvm.Cond → Bool} (h1 : L.all (fun c => isCode c || P c) = true) (h2 : ∀ c ∈ L.filter isCode, P c = true) : L.all P = true := by
  refine List.all_eq_true.mpr fun c hc => ?_
  have h := List.all_eq_true.mp h1 c hc
  rcases Bool.eq_false_or_eq_true (isCode c) with hi | hi
  · exact h2 c (List.mem_filter.mpr ⟨hc, hi⟩)
  · simpa [hi] using h
set_option maxRecDepth 65536 in
theorem w_c0 : (Jvm.Cond.code x code maxLocals ret).before args0 about1 = true := code_word (m := ⟨1, 1⟩) (meth := k1m1) (c := k1c1) (by decide +kernel) rfl rfl rfl (by decide +kernel)
set_option maxRecDepth 65536 in
theorem w_c1 : (Jvm.Cond.code ({ cls := "com/example/canvass/canvass/core/ScoreOrderEndOfTiePinLaw", name := "score", desc := "(JI)D" } : Jvm.MethodName) method_3_code (3 : Nat) (Option.some Jvm.ClassFile.FieldType.double)).before args0 about1 = true := code_word (m := ⟨1, 2⟩) (meth := k1m2) (c := k1c2) (by decide +kernel) rfl rfl rfl (by decide +kernel)
set_option maxRecDepth 65536 in
theorem w_c2 : (Jvm.Cond.code ({ cls := "com/example/canvass/canvass/core/ScoreOrderEndOfTiePinLaw", name := "differs", desc := "([DIII)Z" } : Jvm.MethodName) method_4_code (4 : Nat) (Option.some Jvm.ClassFile.FieldType.boolean)).before args0 about1 = true := code_word (m := ⟨1, 3⟩) (meth := k1m3) (c := k1c3) (by decide +kernel) rfl rfl rfl (by decide +kernel)
set_option maxRecDepth 65536 in
theorem w_c3 : (Jvm.Cond.code ({ cls := "com/example/canvass/canvass/core/ScoreOrder", name := "endOfTie", desc := "([DII)I" } : Jvm.MethodName) prog_29_method_4_code (4 : Nat) (Option.some Jvm.ClassFile.FieldType.int)).before args0 about1 = true := code_word (m := ⟨2, 1⟩) (meth := k2m1) (c := k2c1) (by decide +kernel) rfl rfl rfl (by decide +kernel)
def codes1 : List Jvm.Cond := [Jvm.Cond.code x code maxLocals ret, Jvm.Cond.code ({ cls := "com/example/canvass/canvass/core/ScoreOrderEndOfTiePinLaw", name := "score", desc := "(JI)D" } : Jvm.MethodName) method_3_code (3 : Nat) (Option.some Jvm.ClassFile.FieldType.double), Jvm.Cond.code ({ cls := "com/example/canvass/canvass/core/ScoreOrderEndOfTiePinLaw", name := "differs", desc := "([DIII)Z" } : Jvm.MethodName) method_4_code (4 : Nat) (Option.some Jvm.ClassFile.FieldType.boolean), Jvm.Cond.code ({ cls := "com/example/canvass/canvass/core/ScoreOrder", name := "endOfTie", desc := "([DII)I" } : Jvm.MethodName) prog_29_method_4_code (4 : Nat) (Option.some Jvm.ClassFile.FieldType.int)]
set_option maxRecDepth 65536 in
theorem codes_eq : words1.filter isCode = codes1 := rfl
theorem w_codes : ∀ c ∈ words1.filter isCode, c.before args0 about1 = true := by
  rw [codes_eq]
  intro c hc
  simp only [codes1, List.mem_cons, List.not_mem_nil, or_false] at hc
  rcases hc with rfl | rfl | rfl | rfl
  · exact w_c0
  · exact w_c1
  · exact w_c2
  · exact w_c3
set_option maxRecDepth 65536 in
theorem w_t1 : words1.all (fun c => isCode c || c.before args0 about1) = true := by decide +kernel
theorem w_tables : (allAtoms (Jvm.Cond.code x code maxLocals ret :: tables_1)).before args0 about1 = true := by
  rw [allAtoms_all]
  show words1.all (fun c => c.before args0 about1) = true
  refine all_split ?_ w_codes
  rw [w_t1]
set_option maxRecDepth 65536 in
theorem w_case : (Jvm.Cond.and given_1 narrow_1).before args0 about1 = true := by decide +kernel
theorem w_applies : (headSpec (Jvm.Cond.code x code maxLocals ret :: tables_1) room_1).applies x e0.platform about1 = true :=
  (Spec.applies_iff w_frames).mpr ⟨w_running, w_runnable, w_alone, w_named, w_hears, w_ripe, w_room, w_tables⟩
theorem atStart : AtStart classFile x code maxLocals ret World_1 tables_1 room_1 Calls_1 rest_1 Pre_1 launch0 p0 e0 about1 theMethod args0 below0 :=
  ⟨lists_1, trivial, launch0.admits_env _ _ _, launch0.least_env, fairChoices_fair.cas, fairChoices_fair.clock, w_frames, w_args, w_heap, w_applies, trivial, trivial, w_case⟩
end start1
theorem witness_1 : WitnessClaimed_1 := ⟨start1.p0, start1.e0, start1.about1, start1.theMethod, start1.args0, start1.below0, start1.atStart⟩
end Jvm.Pilot.@@N@@
