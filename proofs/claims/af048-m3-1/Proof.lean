import JvmDerived
import JvmDerived.Pilot.@@N@@Statement
import JvmDerived.Pilot.@@N@@Code
set_option linter.unusedVariables false
set_option linter.unusedSimpArgs false
@@BLOCK:NumsL.lean.txt@@
namespace Jvm.RoadKit
open Sem ClassFile Op Lib Jvm.Stand Jvm.Free Jvm.LawKit
section New
variable {p : Program} {l : Launch} {e : Env} {R : Room} {s : State} {m : MethodId} {args : Array Value} {below : List Frame} {meth : Method} {c : Code} {T : State} {locs : List Loc} {cells slots : Nat}
theorem retI (X : Stand p l e R s m args below meth c T locs cells slots) (hx : p.tables.exec = Jvm.exec) {pc : Nat} {Ls : Array Slot} {z : Int32} {rest : List Value} (hret : meth.sig.returnType = some .int) (hd : decode c.code pc = .ok (.ireturn, 1)) {fs : List Frame}
    (hl : ∀ (f : JFrame) (acts : List Action), f.method = m → f.locked = none → f.entered = [] → (doReturn e (T.setTop f) acts (some (.int z))).1 = T.setFrames fs) : Steps p.tables e below (T.setTop (mkF m pc Ls (.int z :: rest))) (T.setFrames fs) := by
  have hm' : T.vm.method? m = some meth := X.method'
  have hn : narrow .int (.int z) = .int z := rfl
  show Steps p.tables e below (T.setTop { method := m, pc := pc, locals := Ls, stack := _ :: rest, locked := none }) _
  jvm_step X.here [X.here.top, hx, hd, hm', hret, hn]
  first | (intro acts; rw [hl _ acts rfl rfl rfl]) | rw [hl _ _ rfl rfl rfl]
  exact Steps.refl _
theorem retD (X : Stand p l e R s m args below meth c T locs cells slots) (hx : p.tables.exec = Jvm.exec) {pc : Nat} {Ls : Array Slot} {z : UInt64} {rest : List Value} (hret : meth.sig.returnType = some .double) (hd : decode c.code pc = .ok (.dreturn, 1)) {fs : List Frame}
    (hl : ∀ (f : JFrame) (acts : List Action), f.method = m → f.locked = none → f.entered = [] → (doReturn e (T.setTop f) acts (some (.double z))).1 = T.setFrames fs) : Steps p.tables e below (T.setTop (mkF m pc Ls (.double z :: rest))) (T.setFrames fs) := by
  have hm' : T.vm.method? m = some meth := X.method'
  show Steps p.tables e below (T.setTop { method := m, pc := pc, locals := Ls, stack := _ :: rest, locked := none }) _
  jvm_step X.here [X.here.top, hx, hd, hm', hret, narrow]
  first | (intro acts; rw [hl _ acts rfl rfl rfl]) | (refine ⟨meth, hm', ⟨_, hret, rfl⟩, fun acts => ?_⟩; rw [hl _ acts rfl rfl rfl])
  exact Steps.refl _
theorem retA (X : Stand p l e R s m args below meth c T locs cells slots) (hx : p.tables.exec = Jvm.exec) {pc : Nat} {Ls : Array Slot} {v : Value} {rest : List Value} {t : FieldType} (hret : meth.sig.returnType = some t) (ht : t.isReference = true) (hv : v.isRef = true) (hd : decode c.code pc = .ok (.areturn, 1)) {fs : List Frame}
    (hl : ∀ (f : JFrame) (acts : List Action), f.method = m → f.locked = none → f.entered = [] → (doReturn e (T.setTop f) acts (some v)).1 = T.setFrames fs) : Steps p.tables e below (T.setTop (mkF m pc Ls (v :: rest))) (T.setFrames fs) := by
  have hm' : T.vm.method? m = some meth := X.method'
  show Steps p.tables e below (T.setTop { method := m, pc := pc, locals := Ls, stack := _ :: rest, locked := none }) _
  jvm_step X.here [X.here.top, hx, hd, hm', hret, hv, ht]
  first | (intro acts; rw [hl _ acts rfl rfl rfl]) | (refine ⟨meth, hm', ⟨_, hret, rfl⟩, fun acts => ?_⟩; rw [hl _ acts rfl rfl rfl])
  exact Steps.refl _
end New
end Jvm.RoadKit
namespace Jvm.Pilot.@@N@@
open Jvm Jvm.ClassFile Sem Op Lib Jvm.Free Jvm.Stand Jvm.LawKit Jvm.RoadKit Bundle Jvm.Pilot.@@N@@.Jvm.D
theorem d1_0 : decode prog_37_method_4_code 0 = .ok (.dload_n 0, 1) := by decide +kernel
theorem d1_1 : decode prog_37_method_4_code 1 = .ok (.dconst 0, 1) := by decide +kernel
theorem d1_2 : decode prog_37_method_4_code 2 = .ok (.dcmp .l, 1) := by decide +kernel
theorem d1_3 : decode prog_37_method_4_code 3 = .ok (.ifCond .lt 11, 3) := by decide +kernel
theorem d1_6 : decode prog_37_method_4_code 6 = .ok (.dload_n 0, 1) := by decide +kernel
theorem d1_7 : decode prog_37_method_4_code 7 = .ok (.ldc2_w 39, 3) := by decide +kernel
theorem d1_10 : decode prog_37_method_4_code 10 = .ok (.dcmp .l, 1) := by decide +kernel
theorem d1_11 : decode prog_37_method_4_code 11 = .ok (.ifCond .ne 17, 3) := by decide +kernel
theorem d1_28 : decode prog_37_method_4_code 28 = .ok (.dload_n 0, 1) := by decide +kernel
theorem d1_29 : decode prog_37_method_4_code 29 = .ok (.dreturn, 1) := by decide +kernel
theorem pn0 : plainName "com/example/canvass/canvass/core/Weighting" = true := by first | (simp [plainName, overriddenIn]; done) | decide +kernel
theorem pn1 : plainName "com/example/canvass/canvass/core/WeightingCheckBetaPinLaw" = true := by first | (simp [plainName, overriddenIn]; done) | decide +kernel
theorem pd0 : parseMethodDescriptor "(D)D" = some ⟨[.double], some .double⟩ := by decide +kernel
theorem own_den (i1 : Int32) : 0 < ((1 : Int32) + (i1 &&& (1023 : Int32))).toInt := by
  have e1 : (i1 &&& 1023).toInt = i1.toInt % 2 ^ 10 := Jvm.Kit.i32_mask i1 1023 (k := 10) (by decide) (by decide)
  have e2 : ((1 : Int32) + (i1 &&& 1023)).toInt = (1 : Int32).toInt + (i1 &&& 1023).toInt := Jvm.Kit.i32_add (by show -2147483648 ≤ (1 : Int) + _; omega) (by show (1 : Int) + _ < 2147483648; omega)
  rw [e2, show (1 : Int32).toInt = 1 from rfl]; omega
theorem own_num (i0 : Int32) : 0 ≤ (i0 &&& (2147483647 : Int32)).toInt := by
  have e1 : (i0 &&& 2147483647).toInt = i0.toInt % 2 ^ 31 := Jvm.Kit.i32_mask i0 2147483647 (k := 31) (by decide) (by decide)
  omega
theorem own_noNaN (i0 i1 : Int32) : Jvm.Free.Fl.NoNaN64 (FP.ddiv (FP.i2d (i0 &&& (2147483647 : Int32))) (FP.i2d ((1 : Int32) + (i1 &&& (1023 : Int32))))) := by
  refine Jvm.Free.Fl.ddiv_out (Jvm.Free.Fl.i2d_fin _).noNaN (Jvm.Free.Fl.i2d_fin _) ?_
  rw [Jvm.Free.Fl.nz64_iff]
  have := (Jvm.FP.Core.i2d_big (v := (1 : Int32) + (i1 &&& (1023 : Int32))) (by have := own_den i1; omega)).1
  have h : (2 : Nat) ^ 63 = 9223372036854775808 := by decide
  rw [h] at this
  intro hz
  rw [show (FP.i2d ((1 : Int32) + (i1 &&& (1023 : Int32)))) = Jvm.FP.Core.i2d ((1 : Int32) + (i1 &&& (1023 : Int32))) from rfl] at hz
  omega
theorem own_fin (i0 i1 : Int32) : Jvm.Free.Fl.Fin64 (FP.ddiv (FP.i2d (i0 &&& (2147483647 : Int32))) (FP.i2d ((1 : Int32) + (i1 &&& (1023 : Int32))))) := by
  have h1 : Jvm.Free.Fl.Mag64 1056 (FP.i2d (i0 &&& (2147483647 : Int32))) := Jvm.FP.Core.i2d_mag _
  have h2 : Big64 1023 (FP.i2d ((1 : Int32) + (i1 &&& (1023 : Int32)))) := Jvm.FP.Core.i2d_big (by have := own_den i1; omega)
  exact (ddiv_mag h1 h2 (by decide) (by decide)).fin (by decide)
theorem own_shape (v : Int32) : ∃ c q, Jvm.FP.Core.val64 (FP.i2d v) = .fin (decide (v.toInt < 0)) c q := by
  have h := Jvm.FP.Core.l2d_shape v.toInt64
  rw [← Jvm.FP.Core.i2d_l2d, show v.toInt64.toInt = v.toInt from Int32.toInt_toInt64 v] at h
  exact h
theorem own_nonneg (i0 i1 : Int32) : ¬ cmpValue (FP.dcmp (FP.ddiv (FP.i2d (i0 &&& (2147483647 : Int32))) (FP.i2d ((1 : Int32) + (i1 &&& (1023 : Int32))))) 0) .l < 0 := by
  have hv : Jvm.FP.Core.val64 (FP.ddiv (FP.i2d (i0 &&& (2147483647 : Int32))) (FP.i2d ((1 : Int32) + (i1 &&& (1023 : Int32))))) ≠ .nan := Jvm.Free.Fl.val64_no.mp (own_noNaN i0 i1)
  obtain ⟨c, q, hc⟩ := own_shape (i0 &&& (2147483647 : Int32))
  obtain ⟨d, r, hd⟩ := own_shape ((1 : Int32) + (i1 &&& (1023 : Int32)))
  have hn := own_num i0
  have hdn := own_den i1
  rw [decide_eq_false (by omega)] at hc hd
  have hs : Jvm.FP.Core.sgn (Jvm.FP.Core.val64 (FP.ddiv (FP.i2d (i0 &&& (2147483647 : Int32))) (FP.i2d ((1 : Int32) + (i1 &&& (1023 : Int32)))))) = false := by
    rw [show Jvm.FP.Core.val64 (FP.ddiv (FP.i2d (i0 &&& (2147483647 : Int32))) (FP.i2d ((1 : Int32) + (i1 &&& (1023 : Int32))))) = _ from Jvm.FP.Core.val64_ddiv _ _, show Jvm.FP.Core.val64 (Jvm.FP.Core.i2d _) = _ from hc, show Jvm.FP.Core.val64 (Jvm.FP.Core.i2d _) = _ from hd]
    unfold Jvm.FP.Core.quotient
    simp only
    split
    · split <;> rfl
    · rw [Jvm.FP.Core.sgn_roundRatio]; rfl
  have h0 : FP.dcmp (FP.ddiv (FP.i2d (i0 &&& (2147483647 : Int32))) (FP.i2d ((1 : Int32) + (i1 &&& (1023 : Int32))))) 0 = Jvm.FP.Core.order (Jvm.FP.Core.val64 (FP.ddiv (FP.i2d (i0 &&& (2147483647 : Int32))) (FP.i2d ((1 : Int32) + (i1 &&& (1023 : Int32)))))) (.fin false 0 Jvm.FP.Core.b64.qmin) := by
    rw [← Jvm.FP.Core.val64_dconst0]; rfl
  rw [h0]
  generalize Jvm.FP.Core.val64 (FP.ddiv (FP.i2d (i0 &&& (2147483647 : Int32))) (FP.i2d ((1 : Int32) + (i1 &&& (1023 : Int32))))) = D at hv hs
  cases D with
  | nan => exact absurd rfl hv
  | inf s => have : s = false := hs
             subst this; decide
  | fin s c q =>
    have : s = false := hs
    subst this
    unfold Jvm.FP.Core.order
    simp only [Jvm.FP.Core.signed, Jvm.FP.Core.inUnits, Nat.zero_mul]
    have hk : ¬ ((c * 2 ^ (q - min q Jvm.FP.Core.b64.qmin).toNat : Nat) : Int) < 0 := by omega
    generalize ((c * 2 ^ (q - min q Jvm.FP.Core.b64.qmin).toNat : Nat) : Int) = k at hk
    have : compare k ((0 : Nat) : Int) = .eq ∨ compare k ((0 : Nat) : Int) = .gt := by
      rw [Jvm.FP.Core.compare_ite]
      split
      · omega
      · split
        · exact Or.inl rfl
        · exact Or.inr rfl
    rcases this with h | h
    · show ¬ cmpValue (some (compare k ((0 : Nat) : Int))) .l < 0
      rw [h]; decide
    · show ¬ cmpValue (some (compare k ((0 : Nat) : Int))) .l < 0
      rw [h]; decide

def Q1 (Z : State) (b : UInt64) (h0 : Heap) (n0 : Nat) (v : Option Value) (h : Heap) (L : List Loc) : Prop := v = some (.double b) ∧ Fr n0 L ∧ h = h0
theorem ef1 (m : MethodId) (b : UInt64) : entryFrame m #[(.double b)] 2 = mkF m 0 #[.val (.double b), .second] [] := by first | (simp [entryFrame, mkF, argsToLocals, Value.category, List.replicate]; done) | rfl
set_option maxRecDepth 65536 in
set_option maxHeartbeats 40000000 in
theorem rm1 (l : Launch) (Z : State) (a0 : Array Value) (hw : ∀ d ∈ tables_1, d.before a0 Z = true) (ws : List Jvm.Cond) (b : UInt64) (h0 : Heap) (n0 : Nat) (Z0 : n0 ≤ h0.size) (hlo : ¬ cmpValue (FP.dcmp b 0) .l < 0) (hfin : Jvm.Free.Fl.Fin64 b) :
    MetFree l (⟨"com/example/canvass/canvass/core/Weighting", "checkBeta", "(D)D"⟩ : MethodName) (head1 (Jvm.Cond.code (⟨"com/example/canvass/canvass/core/Weighting", "checkBeta", "(D)D"⟩ : MethodName) prog_37_method_4_code 2 (some .double) :: ws) ({ frames := 0, cells := 0, slots := 0, locals := 0 } : Room)) (fun a U => a = #[(.double b)] ∧ Z.Warmed39 U.vm ∧ U.heap = h0) (fun _ _ _ _ _ => True) (fun _ U o U' => ∃ v L, o = .returned v ∧ Q1 Z b h0 n0 v U'.heap L ∧ FrameEnd U o U' L ({ frames := 0, cells := 0, slots := 0, locals := 0 } : Room).cells ({ frames := 0, cells := 0, slots := 0, locals := 0 } : Room).slots) := by
  refine MetFree.of_bodySF (plainFor_of_name pn0) hisR ?_
  intro p e s m args below meth c s₁ Bd hml0 hP hK
  obtain ⟨rfl, hZ, hh⟩ := hP
  have hx := Bd.exec
  have hby := Bd.bytes
  have hml : c.maxLocals = 2 := hml0
  have hown : s.vm.findClass "com/example/canvass/canvass/core/Weighting" = some m.cls := findClass_of_methodNamed Bd.named
  have hnm := (name_of_methodNamed Bd.named Bd.method).1
  have X0 : Stand p l e ({ frames := 0, cells := 0, slots := 0, locals := 0 } : Room) s m #[(.double b)] below meth c s₁ [] 0 0 := Stand.of_body Bd
  have e0 : s₁.heap = h0 := by rw [← hh, Bd.state]; rfl
  have N0 := Fr.nil n0
  have c0 : Steps p.tables e below (s₁.setTop (entryFrame m #[(.double b)] 2)) (s₁.setTop (mkF m 0 #[.val (.double b), .second] [])) := castTop (ef1 m b) (Steps.refl _)
  show ∃ s₂ o, Steps p.tables e below (s₁.setTop (entryFrame m #[(.double b)] 2)) s₂ ∧ _ ∧ _ ∧ _
  generalize s₁.setTop (entryFrame m #[(.double b)] 2) = S0 at c0 ⊢
  have hinf : ¬ cmpValue (FP.dcmp b 9218868437227405312) .l = 0 := by rw [dcmp_pinf hfin]; decide
  have c1 : Steps p.tables e below S0 (s₁.setTop (mkF m 28 #[.val (.double b), .second] [])) := by
    refine c0.trans ?_
    show Steps p.tables e below (s₁.setTop (mkF m 0 #[.val (.double b), .second] [])) _
    refine XS.dloadN X0.here hx rfl (hb hby d1_0) rfl ?_
    show Steps p.tables e below (s₁.setTop (mkF m 1 #[.val (.double b), .second] [(.double b)])) _
    refine XS.dconst0 X0.here hx rfl (v := 0) (hb hby d1_1) rfl ?_
    show Steps p.tables e below (s₁.setTop (mkF m 2 #[.val (.double b), .second] [(.double (0 : UInt64)), (.double b)])) _
    refine XS.dcmpS X0.here hx rfl (v := (cmpValue (FP.dcmp b (0 : UInt64)) .l)) (hb hby d1_2) rfl rfl ?_
    show Steps p.tables e below (s₁.setTop (mkF m 3 #[.val (.double b), .second] [(.int (cmpValue (FP.dcmp b (0 : UInt64)) .l))])) _
    refine XS.ifNo X0.here hx rfl (hb hby d1_3) rfl ((if0 _ _).trans (flt hlo).1) ?_
    show Steps p.tables e below (s₁.setTop (mkF m 6 #[.val (.double b), .second] [])) _
    refine XS.dloadN X0.here hx rfl (hb hby d1_6) rfl ?_
    show Steps p.tables e below (s₁.setTop (mkF m 7 #[.val (.double b), .second] [(.double b)])) _
    refine X0.ldc2DoubleC hx hown (mvT hZ (hw _ (List.mem_of_getElem? (i := 5) rfl))) (g := (mkF m 7 #[.val (.double b), .second] [(.double b)])) rfl (hb hby d1_7) _ ?_
    show Steps p.tables e below (s₁.setTop (mkF m 10 #[.val (.double b), .second] [(.double (9218868437227405312 : UInt64)), (.double b)])) _
    refine XS.dcmpS X0.here hx rfl (v := (cmpValue (FP.dcmp b (9218868437227405312 : UInt64)) .l)) (hb hby d1_10) rfl rfl ?_
    show Steps p.tables e below (s₁.setTop (mkF m 11 #[.val (.double b), .second] [(.int (cmpValue (FP.dcmp b (9218868437227405312 : UInt64)) .l))])) _
    refine XS.ifYes X0.here hx rfl (pc0 := 11) (pc' := 28) rfl (hb hby d1_11) rfl ((if0 _ _).trans (feq hinf).2) (by decide) (by decide) ?_
    exact Steps.refl _
  have c2 : Steps p.tables e below S0 (s₁.setTop (mkF m 29 #[.val (.double b), .second] [(.double b)])) := by
    refine c1.trans ?_
    show Steps p.tables e below (s₁.setTop (mkF m 28 #[.val (.double b), .second] [])) _
    refine XS.dloadN X0.here hx rfl (hb hby d1_28) rfl ?_
    exact Steps.refl _
  obtain ⟨fs, hr, hrun, hended, hW, hsame⟩ := X0.leave (v := some (.double b)) (fun h => by rw [Bd.returns] at h; cases h)
  refine ⟨_, _, c2.trans ?_, hrun, hended, _, _, rfl, ?_, ⟨_, rfl⟩, hW, hsame.mono (by decide) (by decide)⟩
  · show Steps p.tables e below (s₁.setTop (mkF m 29 #[.val (.double b), .second] [(.double b)])) _
    exact retD X0 hx Bd.returns (hb hby d1_29) hr
  · show Q1 Z b h0 n0 _ s₁.heap _
    rw [e0]
    exact ⟨rfl, N0, rfl⟩
def Q0 (Z : State) (i0 : Int32) (i1 : Int32) (h0 : Heap) (n0 : Nat) (v : Option Value) (h : Heap) (L : List Loc) : Prop := v = some (.int 1) ∧ Fr n0 L
theorem ef0 (m : MethodId) (i0 : Int32) (i1 : Int32) : entryFrame m #[(.int i0), (.int i1)] maxLocals = mkF m 0 #[.val (.int i0), .val (.int i1), .unset, .unset, .unset, .unset, .unset, .unset, .unset, .unset] [] := by first | (simp [entryFrame, mkF, argsToLocals, Value.category, maxLocals]; done) | rfl
set_option maxRecDepth 65536 in
set_option maxHeartbeats 40000000 in
theorem rm0 (l : Launch) (Z : State) (a0 : Array Value) (hw : ∀ d ∈ tables_1, d.before a0 Z = true) (ws : List Jvm.Cond) (i0 : Int32) (i1 : Int32) (h0 : Heap) (n0 : Nat) (Z0 : n0 ≤ h0.size)  :
    MetFree l x (head1 (Jvm.Cond.code x code maxLocals ret :: ws) room_1) (fun a U => a = #[(.int i0), (.int i1)] ∧ Z.Warmed39 U.vm ∧ U.heap = h0) (fun _ _ _ _ _ => True) (fun _ U o U' => ∃ v L, o = .returned v ∧ Q0 Z i0 i1 h0 n0 v U'.heap L ∧ FrameEnd U o U' L 0 0) := by
  refine MetFree.of_bodySF (plainFor_of_name pn1) hisR ?_
  intro p e s m args below meth c s₁ Bd hml0 hP hK
  obtain ⟨rfl, hZ, hh⟩ := hP
  have hx := Bd.exec
  have hby := Bd.bytes
  have hml : c.maxLocals = 10 := hml0
  have hown : s.vm.findClass "com/example/canvass/canvass/core/WeightingCheckBetaPinLaw" = some m.cls := findClass_of_methodNamed Bd.named
  have hnm := (name_of_methodNamed Bd.named Bd.method).1
  have X0 : Stand p l e room_1 s m #[(.int i0), (.int i1)] below meth c s₁ [] 0 0 := Stand.of_body Bd
  have e0 : s₁.heap = h0 := by rw [← hh, Bd.state]; rfl
  have N0 := Fr.nil n0
  have c0 : Steps p.tables e below (s₁.setTop (entryFrame m #[(.int i0), (.int i1)] maxLocals)) (s₁.setTop (mkF m 0 #[.val (.int i0), .val (.int i1), .unset, .unset, .unset, .unset, .unset, .unset, .unset, .unset] [])) := castTop (ef0 m i0 i1) (Steps.refl _)
  show ∃ s₂ o, Steps p.tables e below (s₁.setTop (entryFrame m #[(.int i0), (.int i1)] maxLocals)) s₂ ∧ _ ∧ _ ∧ _
  generalize s₁.setTop (entryFrame m #[(.int i0), (.int i1)] maxLocals) = S0 at c0 ⊢
  have hnn := own_noNaN i0 i1
  have c1 : Steps p.tables e below S0 (s₁.setTop (mkF m 24 #[.val (.int i0), .val (.int i1), .val (.double (FP.i2d (i0 &&& (2147483647 : Int32)))), .second, .val (.double (FP.i2d ((1 : Int32) + (i1 &&& (1023 : Int32))))), .second, .val (.double (FP.ddiv (FP.i2d (i0 &&& (2147483647 : Int32))) (FP.i2d ((1 : Int32) + (i1 &&& (1023 : Int32)))))), .second, .unset, .unset] [(.double (FP.ddiv (FP.i2d (i0 &&& (2147483647 : Int32))) (FP.i2d ((1 : Int32) + (i1 &&& (1023 : Int32))))))])) := by
    refine c0.trans ?_
    show Steps p.tables e below (s₁.setTop (mkF m 0 #[.val (.int i0), .val (.int i1), .unset, .unset, .unset, .unset, .unset, .unset, .unset, .unset] [])) _
    refine XS.iloadN X0.here hx rfl (hb hby at_0) rfl ?_
    show Steps p.tables e below (s₁.setTop (mkF m 1 #[.val (.int i0), .val (.int i1), .unset, .unset, .unset, .unset, .unset, .unset, .unset, .unset] [(.int i0)])) _
    refine X0.ldcInt hx hown (mvT hZ (hw _ (List.mem_of_getElem? (i := 0) rfl))) (g := (mkF m 1 #[.val (.int i0), .val (.int i1), .unset, .unset, .unset, .unset, .unset, .unset, .unset, .unset] [(.int i0)])) rfl (hb hby at_1) _ ?_
    show Steps p.tables e below (s₁.setTop (mkF m 3 #[.val (.int i0), .val (.int i1), .unset, .unset, .unset, .unset, .unset, .unset, .unset, .unset] [(.int (2147483647 : Int32)), (.int i0)])) _
    refine XS.iand X0.here hx rfl (hb hby at_3) rfl ?_
    show Steps p.tables e below (s₁.setTop (mkF m 4 #[.val (.int i0), .val (.int i1), .unset, .unset, .unset, .unset, .unset, .unset, .unset, .unset] [(.int (i0 &&& (2147483647 : Int32)))])) _
    refine XS.i2dS X0.here hx rfl (v := (FP.i2d (i0 &&& (2147483647 : Int32)))) (hb hby at_4) rfl rfl ?_
    show Steps p.tables e below (s₁.setTop (mkF m 5 #[.val (.int i0), .val (.int i1), .unset, .unset, .unset, .unset, .unset, .unset, .unset, .unset] [(.double (FP.i2d (i0 &&& (2147483647 : Int32))))])) _
    refine XS.dstoreN X0.here hx rfl (hb hby at_5) rfl (l' := #[.val (.int i0), .val (.int i1), .val (.double (FP.i2d (i0 &&& (2147483647 : Int32)))), .second, .unset, .unset, .unset, .unset, .unset, .unset]) rfl ?_
    show Steps p.tables e below (s₁.setTop (mkF m 6 #[.val (.int i0), .val (.int i1), .val (.double (FP.i2d (i0 &&& (2147483647 : Int32)))), .second, .unset, .unset, .unset, .unset, .unset, .unset] [])) _
    refine XS.iconst X0.here hx rfl (hb hby at_6) ?_
    show Steps p.tables e below (s₁.setTop (mkF m 7 #[.val (.int i0), .val (.int i1), .val (.double (FP.i2d (i0 &&& (2147483647 : Int32)))), .second, .unset, .unset, .unset, .unset, .unset, .unset] [(.int (1 : Int32))])) _
    refine XS.iloadN X0.here hx rfl (hb hby at_7) rfl ?_
    show Steps p.tables e below (s₁.setTop (mkF m 8 #[.val (.int i0), .val (.int i1), .val (.double (FP.i2d (i0 &&& (2147483647 : Int32)))), .second, .unset, .unset, .unset, .unset, .unset, .unset] [(.int i1), (.int (1 : Int32))])) _
    refine XS.sipush X0.here hx rfl (hb hby at_8) ?_
    show Steps p.tables e below (s₁.setTop (mkF m 11 #[.val (.int i0), .val (.int i1), .val (.double (FP.i2d (i0 &&& (2147483647 : Int32)))), .second, .unset, .unset, .unset, .unset, .unset, .unset] [(.int (1023 : Int32)), (.int i1), (.int (1 : Int32))])) _
    refine XS.iand X0.here hx rfl (hb hby at_11) rfl ?_
    show Steps p.tables e below (s₁.setTop (mkF m 12 #[.val (.int i0), .val (.int i1), .val (.double (FP.i2d (i0 &&& (2147483647 : Int32)))), .second, .unset, .unset, .unset, .unset, .unset, .unset] [(.int (i1 &&& (1023 : Int32))), (.int (1 : Int32))])) _
    refine XS.iadd X0.here hx rfl (hb hby at_12) rfl ?_
    show Steps p.tables e below (s₁.setTop (mkF m 13 #[.val (.int i0), .val (.int i1), .val (.double (FP.i2d (i0 &&& (2147483647 : Int32)))), .second, .unset, .unset, .unset, .unset, .unset, .unset] [(.int ((1 : Int32) + (i1 &&& (1023 : Int32))))])) _
    refine XS.i2dS X0.here hx rfl (v := (FP.i2d ((1 : Int32) + (i1 &&& (1023 : Int32))))) (hb hby at_13) rfl rfl ?_
    show Steps p.tables e below (s₁.setTop (mkF m 14 #[.val (.int i0), .val (.int i1), .val (.double (FP.i2d (i0 &&& (2147483647 : Int32)))), .second, .unset, .unset, .unset, .unset, .unset, .unset] [(.double (FP.i2d ((1 : Int32) + (i1 &&& (1023 : Int32)))))])) _
    refine XS.dstore X0.here hx rfl (hb hby at_14) rfl (l' := #[.val (.int i0), .val (.int i1), .val (.double (FP.i2d (i0 &&& (2147483647 : Int32)))), .second, .val (.double (FP.i2d ((1 : Int32) + (i1 &&& (1023 : Int32))))), .second, .unset, .unset, .unset, .unset]) rfl ?_
    show Steps p.tables e below (s₁.setTop (mkF m 16 #[.val (.int i0), .val (.int i1), .val (.double (FP.i2d (i0 &&& (2147483647 : Int32)))), .second, .val (.double (FP.i2d ((1 : Int32) + (i1 &&& (1023 : Int32))))), .second, .unset, .unset, .unset, .unset] [])) _
    refine XS.dloadN X0.here hx rfl (hb hby at_16) rfl ?_
    show Steps p.tables e below (s₁.setTop (mkF m 17 #[.val (.int i0), .val (.int i1), .val (.double (FP.i2d (i0 &&& (2147483647 : Int32)))), .second, .val (.double (FP.i2d ((1 : Int32) + (i1 &&& (1023 : Int32))))), .second, .unset, .unset, .unset, .unset] [(.double (FP.i2d (i0 &&& (2147483647 : Int32))))])) _
    refine XS.dload X0.here hx rfl (hb hby at_17) rfl ?_
    show Steps p.tables e below (s₁.setTop (mkF m 19 #[.val (.int i0), .val (.int i1), .val (.double (FP.i2d (i0 &&& (2147483647 : Int32)))), .second, .val (.double (FP.i2d ((1 : Int32) + (i1 &&& (1023 : Int32))))), .second, .unset, .unset, .unset, .unset] [(.double (FP.i2d ((1 : Int32) + (i1 &&& (1023 : Int32))))), (.double (FP.i2d (i0 &&& (2147483647 : Int32))))])) _
    refine XS.ddivS X0.here hx rfl (v := (FP.ddiv (FP.i2d (i0 &&& (2147483647 : Int32))) (FP.i2d ((1 : Int32) + (i1 &&& (1023 : Int32)))))) (hb hby at_19) rfl hnn rfl ?_
    show Steps p.tables e below (s₁.setTop (mkF m 20 #[.val (.int i0), .val (.int i1), .val (.double (FP.i2d (i0 &&& (2147483647 : Int32)))), .second, .val (.double (FP.i2d ((1 : Int32) + (i1 &&& (1023 : Int32))))), .second, .unset, .unset, .unset, .unset] [(.double (FP.ddiv (FP.i2d (i0 &&& (2147483647 : Int32))) (FP.i2d ((1 : Int32) + (i1 &&& (1023 : Int32))))))])) _
    refine XS.dstore X0.here hx rfl (hb hby at_20) rfl (l' := #[.val (.int i0), .val (.int i1), .val (.double (FP.i2d (i0 &&& (2147483647 : Int32)))), .second, .val (.double (FP.i2d ((1 : Int32) + (i1 &&& (1023 : Int32))))), .second, .val (.double (FP.ddiv (FP.i2d (i0 &&& (2147483647 : Int32))) (FP.i2d ((1 : Int32) + (i1 &&& (1023 : Int32)))))), .second, .unset, .unset]) rfl ?_
    show Steps p.tables e below (s₁.setTop (mkF m 22 #[.val (.int i0), .val (.int i1), .val (.double (FP.i2d (i0 &&& (2147483647 : Int32)))), .second, .val (.double (FP.i2d ((1 : Int32) + (i1 &&& (1023 : Int32))))), .second, .val (.double (FP.ddiv (FP.i2d (i0 &&& (2147483647 : Int32))) (FP.i2d ((1 : Int32) + (i1 &&& (1023 : Int32)))))), .second, .unset, .unset] [])) _
    refine XS.dload X0.here hx rfl (hb hby at_22) rfl ?_
    exact Steps.refl _
  obtain ⟨_, _, ⟨T2, L2, k2, n2⟩, -, X2, ⟨Lc2, hQ2, l2, y2, z2⟩, st2⟩ := Jvm.LawKit.callS X0 hx (y := (⟨"com/example/canvass/canvass/core/Weighting", "checkBeta", "(D)D"⟩ : MethodName)) hown (mvT hZ (hw _ (List.mem_of_getElem? (i := 1) rfl))) (mvT hZ (hw _ (List.mem_of_getElem? (i := 2) rfl))) (mvT hZ (hw _ (List.mem_of_getElem? (i := 3) rfl))) (mvT hZ (hw _ (List.mem_of_getElem? (i := 4) rfl))) (by decide) (backOf (W := 0) (rm1 l Z a0 hw [] (FP.ddiv (FP.i2d (i0 &&& (2147483647 : Int32))) (FP.i2d ((1 : Int32) + (i1 &&& (1023 : Int32))))) h0 n0 Z0 (own_nonneg i0 i1) (own_fin i0 i1)) hZ (hw _ (List.mem_of_getElem? (i := 4) rfl)) (hw _ (List.mem_of_getElem? (i := 3) rfl)) (by decide) (by decide)) (g := (mkF m 24 #[.val (.int i0), .val (.int i1), .val (.double (FP.i2d (i0 &&& (2147483647 : Int32)))), .second, .val (.double (FP.i2d ((1 : Int32) + (i1 &&& (1023 : Int32))))), .second, .val (.double (FP.ddiv (FP.i2d (i0 &&& (2147483647 : Int32))) (FP.i2d ((1 : Int32) + (i1 &&& (1023 : Int32)))))), .second, .unset, .unset] [(.double (FP.ddiv (FP.i2d (i0 &&& (2147483647 : Int32))) (FP.i2d ((1 : Int32) + (i1 &&& (1023 : Int32))))))])) rfl (by rw [hml]; rfl) (argsL := [(.double (FP.ddiv (FP.i2d (i0 &&& (2147483647 : Int32))) (FP.i2d ((1 : Int32) + (i1 &&& (1023 : Int32))))))]) (rest := []) (lenOf pd0 rfl) rfl (by show 2 * 0 + _ ≤ _; exact Nat.le_of_eq rfl) (hb hby at_24) (fun _ _ => ⟨rfl, e0, (by decide : 0 + 0 ≤ _), (by decide : 0 + 0 ≤ _)⟩)
  dsimp only [Pt.U, Pt.locs, Pt.cells, Pt.slots] at X2 l2 y2 z2 st2 hQ2
  subst l2 y2 z2
  obtain ⟨rfl, N1, e1⟩ := hQ2
  have c2 : Steps p.tables e below S0 (T2.setTop (mkF m 27 #[.val (.int i0), .val (.int i1), .val (.double (FP.i2d (i0 &&& (2147483647 : Int32)))), .second, .val (.double (FP.i2d ((1 : Int32) + (i1 &&& (1023 : Int32))))), .second, .val (.double (FP.ddiv (FP.i2d (i0 &&& (2147483647 : Int32))) (FP.i2d ((1 : Int32) + (i1 &&& (1023 : Int32)))))), .second, .unset, .unset] [(.double (FP.ddiv (FP.i2d (i0 &&& (2147483647 : Int32))) (FP.i2d ((1 : Int32) + (i1 &&& (1023 : Int32))))))])) := by
    refine c1.trans ?_
    show Steps p.tables e below (s₁.setTop (mkF m 24 #[.val (.int i0), .val (.int i1), .val (.double (FP.i2d (i0 &&& (2147483647 : Int32)))), .second, .val (.double (FP.i2d ((1 : Int32) + (i1 &&& (1023 : Int32))))), .second, .val (.double (FP.ddiv (FP.i2d (i0 &&& (2147483647 : Int32))) (FP.i2d ((1 : Int32) + (i1 &&& (1023 : Int32)))))), .second, .unset, .unset] [(.double (FP.ddiv (FP.i2d (i0 &&& (2147483647 : Int32))) (FP.i2d ((1 : Int32) + (i1 &&& (1023 : Int32))))))])) _
    refine st2 _ ?_
    exact Steps.refl _
  have c3 : Steps p.tables e below S0 (T2.setTop (mkF m 42 #[.val (.int i0), .val (.int i1), .val (.double (FP.i2d (i0 &&& (2147483647 : Int32)))), .second, .val (.double (FP.i2d ((1 : Int32) + (i1 &&& (1023 : Int32))))), .second, .val (.double (FP.ddiv (FP.i2d (i0 &&& (2147483647 : Int32))) (FP.i2d ((1 : Int32) + (i1 &&& (1023 : Int32)))))), .second, .val (.double (FP.ddiv (FP.i2d (i0 &&& (2147483647 : Int32))) (FP.i2d ((1 : Int32) + (i1 &&& (1023 : Int32)))))), .second] [(.int (1 : Int32))])) := by
    refine c2.trans ?_
    show Steps p.tables e below (T2.setTop (mkF m 27 #[.val (.int i0), .val (.int i1), .val (.double (FP.i2d (i0 &&& (2147483647 : Int32)))), .second, .val (.double (FP.i2d ((1 : Int32) + (i1 &&& (1023 : Int32))))), .second, .val (.double (FP.ddiv (FP.i2d (i0 &&& (2147483647 : Int32))) (FP.i2d ((1 : Int32) + (i1 &&& (1023 : Int32)))))), .second, .unset, .unset] [(.double (FP.ddiv (FP.i2d (i0 &&& (2147483647 : Int32))) (FP.i2d ((1 : Int32) + (i1 &&& (1023 : Int32))))))])) _
    refine XS.dstore X2.here hx rfl (hb hby at_27) rfl (l' := #[.val (.int i0), .val (.int i1), .val (.double (FP.i2d (i0 &&& (2147483647 : Int32)))), .second, .val (.double (FP.i2d ((1 : Int32) + (i1 &&& (1023 : Int32))))), .second, .val (.double (FP.ddiv (FP.i2d (i0 &&& (2147483647 : Int32))) (FP.i2d ((1 : Int32) + (i1 &&& (1023 : Int32)))))), .second, .val (.double (FP.ddiv (FP.i2d (i0 &&& (2147483647 : Int32))) (FP.i2d ((1 : Int32) + (i1 &&& (1023 : Int32)))))), .second]) rfl ?_
    show Steps p.tables e below (T2.setTop (mkF m 29 #[.val (.int i0), .val (.int i1), .val (.double (FP.i2d (i0 &&& (2147483647 : Int32)))), .second, .val (.double (FP.i2d ((1 : Int32) + (i1 &&& (1023 : Int32))))), .second, .val (.double (FP.ddiv (FP.i2d (i0 &&& (2147483647 : Int32))) (FP.i2d ((1 : Int32) + (i1 &&& (1023 : Int32)))))), .second, .val (.double (FP.ddiv (FP.i2d (i0 &&& (2147483647 : Int32))) (FP.i2d ((1 : Int32) + (i1 &&& (1023 : Int32)))))), .second] [])) _
    refine XS.dload X2.here hx rfl (hb hby at_29) rfl ?_
    show Steps p.tables e below (T2.setTop (mkF m 31 #[.val (.int i0), .val (.int i1), .val (.double (FP.i2d (i0 &&& (2147483647 : Int32)))), .second, .val (.double (FP.i2d ((1 : Int32) + (i1 &&& (1023 : Int32))))), .second, .val (.double (FP.ddiv (FP.i2d (i0 &&& (2147483647 : Int32))) (FP.i2d ((1 : Int32) + (i1 &&& (1023 : Int32)))))), .second, .val (.double (FP.ddiv (FP.i2d (i0 &&& (2147483647 : Int32))) (FP.i2d ((1 : Int32) + (i1 &&& (1023 : Int32)))))), .second] [(.double (FP.ddiv (FP.i2d (i0 &&& (2147483647 : Int32))) (FP.i2d ((1 : Int32) + (i1 &&& (1023 : Int32))))))])) _
    refine XS.dload X2.here hx rfl (hb hby at_31) rfl ?_
    show Steps p.tables e below (T2.setTop (mkF m 33 #[.val (.int i0), .val (.int i1), .val (.double (FP.i2d (i0 &&& (2147483647 : Int32)))), .second, .val (.double (FP.i2d ((1 : Int32) + (i1 &&& (1023 : Int32))))), .second, .val (.double (FP.ddiv (FP.i2d (i0 &&& (2147483647 : Int32))) (FP.i2d ((1 : Int32) + (i1 &&& (1023 : Int32)))))), .second, .val (.double (FP.ddiv (FP.i2d (i0 &&& (2147483647 : Int32))) (FP.i2d ((1 : Int32) + (i1 &&& (1023 : Int32)))))), .second] [(.double (FP.ddiv (FP.i2d (i0 &&& (2147483647 : Int32))) (FP.i2d ((1 : Int32) + (i1 &&& (1023 : Int32)))))), (.double (FP.ddiv (FP.i2d (i0 &&& (2147483647 : Int32))) (FP.i2d ((1 : Int32) + (i1 &&& (1023 : Int32))))))])) _
    refine XS.dcmpS X2.here hx rfl (v := (0 : Int32)) (hb hby at_33) rfl (dcmpV_self hnn _) ?_
    show Steps p.tables e below (T2.setTop (mkF m 34 #[.val (.int i0), .val (.int i1), .val (.double (FP.i2d (i0 &&& (2147483647 : Int32)))), .second, .val (.double (FP.i2d ((1 : Int32) + (i1 &&& (1023 : Int32))))), .second, .val (.double (FP.ddiv (FP.i2d (i0 &&& (2147483647 : Int32))) (FP.i2d ((1 : Int32) + (i1 &&& (1023 : Int32)))))), .second, .val (.double (FP.ddiv (FP.i2d (i0 &&& (2147483647 : Int32))) (FP.i2d ((1 : Int32) + (i1 &&& (1023 : Int32)))))), .second] [(.int (0 : Int32))])) _
    refine XS.ifNo X2.here hx rfl (hb hby at_34) rfl ((if0 _ _).trans (teq rfl).2) ?_
    show Steps p.tables e below (T2.setTop (mkF m 37 #[.val (.int i0), .val (.int i1), .val (.double (FP.i2d (i0 &&& (2147483647 : Int32)))), .second, .val (.double (FP.i2d ((1 : Int32) + (i1 &&& (1023 : Int32))))), .second, .val (.double (FP.ddiv (FP.i2d (i0 &&& (2147483647 : Int32))) (FP.i2d ((1 : Int32) + (i1 &&& (1023 : Int32)))))), .second, .val (.double (FP.ddiv (FP.i2d (i0 &&& (2147483647 : Int32))) (FP.i2d ((1 : Int32) + (i1 &&& (1023 : Int32)))))), .second] [])) _
    refine XS.iconst X2.here hx rfl (hb hby at_37) ?_
    show Steps p.tables e below (T2.setTop (mkF m 38 #[.val (.int i0), .val (.int i1), .val (.double (FP.i2d (i0 &&& (2147483647 : Int32)))), .second, .val (.double (FP.i2d ((1 : Int32) + (i1 &&& (1023 : Int32))))), .second, .val (.double (FP.ddiv (FP.i2d (i0 &&& (2147483647 : Int32))) (FP.i2d ((1 : Int32) + (i1 &&& (1023 : Int32)))))), .second, .val (.double (FP.ddiv (FP.i2d (i0 &&& (2147483647 : Int32))) (FP.i2d ((1 : Int32) + (i1 &&& (1023 : Int32)))))), .second] [(.int (1 : Int32))])) _
    refine XS.goto X2.here hx rfl (pc0 := 38) (pc' := 42) rfl (hb hby at_38) (by decide) (by decide) ?_
    exact Steps.refl _
  obtain ⟨fs, hr, hrun, hended, hW, hsame⟩ := X2.leave (v := some (.int 1)) (fun h => by rw [Bd.returns] at h; cases h)
  refine ⟨_, _, c3.trans ?_, hrun, hended, _, _, rfl, ?_, ⟨_, rfl⟩, hW, hsame.mono (by decide) (by decide)⟩
  · show Steps p.tables e below (T2.setTop (mkF m 42 #[.val (.int i0), .val (.int i1), .val (.double (FP.i2d (i0 &&& (2147483647 : Int32)))), .second, .val (.double (FP.i2d ((1 : Int32) + (i1 &&& (1023 : Int32))))), .second, .val (.double (FP.ddiv (FP.i2d (i0 &&& (2147483647 : Int32))) (FP.i2d ((1 : Int32) + (i1 &&& (1023 : Int32)))))), .second, .val (.double (FP.ddiv (FP.i2d (i0 &&& (2147483647 : Int32))) (FP.i2d ((1 : Int32) + (i1 &&& (1023 : Int32)))))), .second] [(.int (1 : Int32))])) _
    exact retN X2 hx (t := .boolean) Bd.returns (by simp) (hb hby at_42) hr
  · show Q0 Z i0 i1 h0 n0 _ T2.heap _
    rw [e1]
    exact ⟨rfl, Fr.app N0 N1⟩
set_option maxRecDepth 65536 in
set_option maxHeartbeats 40000000 in
theorem comes_1 {Post : Tables → Env → Array Value → State → Outcome → State → Prop} (hpost : ∀ tb e args s v u, (limb_1_1.after args s (.returned v) u = true ∧ limb_1_2.after args s (.returned v) u = true ∧ True) → FrameEnd s (.returned v) u (Jvm.fieldLocs frame_1_writes args s ++ Jvm.arrayLocs frame_1_arrays args s ++ Jvm.staticLocs frame_1_statics s) 0 0 → Post tb e args s (.returned v) u) :
    ArmFor flags0 classFile x code maxLocals ret World_1 tables_1 room_1 Calls_1 rest_1 Pre_1 Post := by
  intro l hfl _ _ p e ha hc hk s m args below hf hA hF happ hP
  obtain ⟨hcalls, hrest, hpre⟩ := hP
  obtain ⟨-, -, -, hnamed, -, -, -, hat⟩ := (Spec.applies_iff hf).mp happ
  obtain ⟨hg, hn⟩ := and_e (Cond.before_iff.mp (show (Jvm.Cond.and given_1 narrow_1).before args s = true from hpre))
  obtain ⟨h1, g0⟩ := and_e hg
  obtain ⟨a0, g1⟩ := and_e g0
  have a1 := g1
  obtain ⟨w0, w1, rfl⟩ : ∃ w0 w1 : Value, args = #[w0, w1] := by
    have hs : args.size = 2 := by simpa [Cond.value, given_1] using h1
    obtain ⟨L⟩ := args
    match L, hs with
    | [w0, w1], _ => exact ⟨w0, w1, rfl⟩
  have hw := fun d (hd : d ∈ tables_1) => atoms_spec (ws := Jvm.Cond.code x code maxLocals ret :: tables_1) hat d (List.mem_cons_of_mem _ hd)
  have hfit : Fit s := fun {y c} hc i hi => by
    obtain ⟨ha, rfl⟩ := Array.getElem?_eq_some_iff.mp hc
    have q := List.all_eq_true.mp ((Array.all_eq_true_iff_forall_mem.mp hF) _ (Array.getElem_mem ha)) i (List.mem_range.mpr hi)
    simpa [Array.getElem?_eq_getElem hi] using q
  obtain ⟨i0, e0⟩ := is_v a0
  obtain rfl : w0 = (.int i0) := Option.some.inj e0
  obtain ⟨i1, e1⟩ := is_v a1
  obtain rfl : w1 = (.int i1) := Option.some.inj e1
  obtain ⟨n, o, h1, h2, h3, _, L, rfl, ⟨rfl, N⟩, hq⟩ := rm0 l s _ hw tables_1 i0 i1 s.heap s.heap.size (Nat.le_refl _) p e ha hc hk s m _ below hf ((Spec.applies_iff_loose hf).mp happ).1 ⟨rfl, State.Warmed39.refl s, rfl⟩ trivial
  refine ⟨n, _, h1, h2, h3, hpost _ _ _ _ _ _ ⟨Cond.after_iff.mpr rfl, Cond.after_iff.mpr (eq_i res_at (Term.int_eval (1)) rfl), trivial⟩ ⟨hq.1, hq.2.1, (hq.2.2.sift fun y hy => Or.inr (N y hy)).mono (by decide) (by decide)⟩⟩
theorem main_1_1 : Claimed_1_1 := comes_1 fun _ _ _ _ _ _ h hF => ⟨h.1, hF⟩
theorem main_1_2 : Claimed_1_2 := comes_1 fun _ _ _ _ _ _ h hF => ⟨h.2.1, hF⟩
end Jvm.Pilot.@@N@@
namespace Jvm.Pilot.@@N@@
open Jvm Jvm.ClassFile Sem Op Lib Jvm.Free Jvm.Stand Jvm.Pilot.@@N@@.Jvm.D
/-! MADE BY PROGRAM (witnessworld.py) out of the Statement's table words and the real class files: 9 classes; the members and pool entries that the words name. The judged class is class 1, her method 1. -/
namespace start1
open Jvm.ClassFile
def u (s : String) : CpInfo := .utf8 (stringToUtf16 s)
/-- a pool by its gaps: so many unusable entries, then the entry; so many at the end -/
def gap : Nat → List CpInfo → List CpInfo
  | 0, r => r
  | n + 1, r => .unusable :: gap n r
def poolList (es : List (Nat × CpInfo)) (last : Nat) : List CpInfo := es.foldr (fun e r => gap e.1 (e.2 :: r)) (gap last [])
def pool (es : List (Nat × CpInfo)) (last : Nat) : Array CpInfo := ⟨poolList es last⟩
def fileOf (pool : Array CpInfo) (this : Nat) (attrs : Array Attribute := #[]) (ms : Array MethodInfo := #[]) (fl : Nat := 33) (sup : Nat := 0) (ifs : Array Nat := #[]) (fds : Array FieldInfo := #[]) : ClassFile where
  minorVersion := 0
  majorVersion := 65
  constantPool := pool
  accessFlags := fl
  thisClass := this
  superClass := sup
  interfaces := ifs
  fields := fds
  methods := ms
  attributes := attrs
def plain (name : String) (sup : Option ClassId) : Class where
  name := name
  kind := .ordinary
  loader := none
  accessFlags := 33
  super := sup
  interfaces := #[]
  cf := none
  fields := #[]
  methods := #[]
  instanceTypes := #[]
  staticTypes := #[]
  resolved := #[]
  callSites := []
  init := .initialized
  statics := none
  mirror := none

def pool0 : Array CpInfo := pool [(5, u "<init>"), (0, u "()V"), (1, .class_ 10), (1, u "java/lang/Object")] 113

def k0m0 : Method := { name := "<init>", desc := "()V", sig := { parameters := [], returnType := none }, accessFlags := 1, code := none }
/-- java/lang/Object -/
def k0 : Class := { plain "java/lang/Object" none with
  accessFlags := 33
  interfaces := #[]
  cf := some (fileOf pool0 8 #[] #[{ accessFlags := 1, nameIndex := 5, descriptorIndex := 6, attributes := #[] }] 33 0 #[] #[])
  fields := #[]
  methods := #[k0m0]
  instanceTypes := #[]
  staticTypes := #[]
  resolved := Array.replicate 124 none
  statics := none }

def pool1 : Array CpInfo := pool [(2, .class_ 4), (1, u "java/lang/Object"), (0, u "<init>"), (0, u "()V"), (0, .integer 2147483647), (0, .methodref 9 10), (0, .class_ 11), (0, .nameAndType 12 13), (0, u "com/example/canvass/canvass/core/Weighting"), (0, u "checkBeta"), (0, u "(D)D"), (0, .class_ 15), (0, u "com/example/canvass/canvass/core/WeightingCheckBetaPinLaw"), (2, u "law"), (0, u "(II)Z")] 3

def k1m0 : Method := { name := "<init>", desc := "()V", sig := { parameters := [], returnType := none }, accessFlags := 1, code := none }
def k1c1 : Code := { maxStack := 4, maxLocals := 10, code := code, exceptionTable := #[], attributes := #[] }
def k1m1 : Method := { name := "law", desc := "(II)Z", sig := { parameters := [.int, .int], returnType := some .boolean }, accessFlags := 9, code := some k1c1 }
/-- com/example/canvass/canvass/core/WeightingCheckBetaPinLaw -/
def k1 : Class := { plain "com/example/canvass/canvass/core/WeightingCheckBetaPinLaw" (some 0) with
  accessFlags := 49
  interfaces := #[]
  cf := some (fileOf pool1 14 #[] #[{ accessFlags := 1, nameIndex := 5, descriptorIndex := 6, attributes := #[] }, { accessFlags := 9, nameIndex := 18, descriptorIndex := 19, attributes := #[] }] 49 2 #[] #[])
  fields := #[]
  methods := #[k1m0, k1m1]
  instanceTypes := #[]
  staticTypes := #[]
  resolved := Array.replicate 23 none
  statics := none }

def pool2 : Array CpInfo := pool [(2, .class_ 4), (1, u "java/lang/Object"), (3, .class_ 10), (1, u "com/example/canvass/canvass/core/Weighting"), (0, u "form"), (0, u "Lcom/example/canvass/canvass/core/Weighting$Form;"), (2, u "beta"), (0, u "D"), (2, u "ties"), (0, u "Lcom/example/canvass/canvass/core/Weighting$Ties;"), (1, .class_ 24), (1, u "com/example/canvass/canvass/core/Weighting$Form"), (10, u "checkBeta"), (0, u "(D)D"), (2, .double 9218868437227405312), (12, u "CUMULATIVE"), (1, .class_ 56), (1, u "com/example/canvass/canvass/core/Weighting$Ties"), (21, u "Lcom/example/canvass/canvass/core/Weighting;"), (0, u "BETA")] 37

def k2c0 : Code := { maxStack := 4, maxLocals := 2, code := prog_37_method_4_code, exceptionTable := #[], attributes := #[] }
def k2m0 : Method := { name := "checkBeta", desc := "(D)D", sig := { parameters := [.double], returnType := some .double }, accessFlags := 9, code := some k2c0 }
/-- com/example/canvass/canvass/core/Weighting -/
def k2 : Class := { plain "com/example/canvass/canvass/core/Weighting" (some 0) with
  accessFlags := 49
  interfaces := #[]
  cf := some (fileOf pool2 8 #[.nestMembers #[54, 22]] #[{ accessFlags := 9, nameIndex := 35, descriptorIndex := 36, attributes := #[] }] 49 2 #[] #[{ accessFlags := 25, nameIndex := 52, descriptorIndex := 78, attributes := #[] }, { accessFlags := 25, nameIndex := 79, descriptorIndex := 16, attributes := #[] }, { accessFlags := 18, nameIndex := 11, descriptorIndex := 12, attributes := #[] }, { accessFlags := 18, nameIndex := 15, descriptorIndex := 16, attributes := #[] }, { accessFlags := 18, nameIndex := 19, descriptorIndex := 20, attributes := #[] }])
  fields := #[{ name := "CUMULATIVE", type := (.object "com/example/canvass/canvass/core/Weighting"), accessFlags := 25, slot := 0, constantValue := 0 }, { name := "BETA", type := .double, accessFlags := 25, slot := 1, constantValue := 0 }, { name := "form", type := (.object "com/example/canvass/canvass/core/Weighting$Form"), accessFlags := 18, slot := 0, constantValue := 0 }, { name := "beta", type := .double, accessFlags := 18, slot := 1, constantValue := 0 }, { name := "ties", type := (.object "com/example/canvass/canvass/core/Weighting$Ties"), accessFlags := 18, slot := 2, constantValue := 0 }]
  methods := #[k2m0]
  instanceTypes := #[(.object "com/example/canvass/canvass/core/Weighting$Form"), .double, (.object "com/example/canvass/canvass/core/Weighting$Ties")]
  staticTypes := #[(.object "com/example/canvass/canvass/core/Weighting"), .double]
  resolved := Array.replicate 117 none
  statics := none }

def pool3 : Array CpInfo := pool [(1, u "java/lang/Cloneable"), (0, .class_ 1), (0, u "java/lang/Object"), (0, .class_ 3)] 3

/-- java/lang/Cloneable -/
def k3 : Class := { plain "java/lang/Cloneable" (some 0) with
  accessFlags := 1537
  interfaces := #[]
  cf := some (fileOf pool3 2 #[] #[] 1537 4 #[] #[])
  fields := #[]
  methods := #[]
  instanceTypes := #[]
  staticTypes := #[]
  resolved := Array.replicate 8 none
  statics := none }

def pool4 : Array CpInfo := pool [(1, u "java/io/Serializable"), (0, .class_ 1), (0, u "java/lang/Object"), (0, .class_ 3)] 3

/-- java/io/Serializable -/
def k4 : Class := { plain "java/io/Serializable" (some 0) with
  accessFlags := 1537
  interfaces := #[]
  cf := some (fileOf pool4 2 #[] #[] 1537 4 #[] #[])
  fields := #[]
  methods := #[]
  instanceTypes := #[]
  staticTypes := #[]
  resolved := Array.replicate 8 none
  statics := none }

/-- the primitive byte -/
def k5 : Class := { plain "byte" none with kind := .primitive 'B', accessFlags := 0x411 }
/-- [B -/
def k6 : Class := { plain "[B" (some 0) with kind := .array 5 .byte, interfaces := #[3, 4], accessFlags := 1041 }

/-- the primitive int -/
def k7 : Class := { plain "int" none with kind := .primitive 'I', accessFlags := 0x411 }
/-- [I -/
def k8 : Class := { plain "[I" (some 0) with kind := .array 7 .int, interfaces := #[3, 4], accessFlags := 1041 }

def heap : Heap := #[]
def classes : Array Class := #[k0, k1, k2, k3, k4, k5, k6, k7, k8]
def interned : List (Array UInt16 × Addr) := []
def slotsUsed : Nat := 0
def theMethod : MethodId := ⟨1, 1⟩
def args0 : Array Value := #[.int 5, .int 6]
def aboutOver (below : List Frame) : State where
  vm := { classes := classes, interned := interned.toArray }
  heap := heap
  slotsUsed := slotsUsed
  threads := #[{ frames := .invoking theMethod args0 :: below }]
def below0 : List Frame := [.native { method := ⟨0, 0⟩, args := #[] }]
def about1 : State := aboutOver below0
def p0 : Program := .bare "" "" ""
def e0 : Env := launch0.env 0 0 0
theorem w_frames : about1.frames = Frame.invoking theMethod args0 :: below0 := rfl
set_option maxRecDepth 65536 in
theorem w_args : argsFit about1.vm theMethod args0 = true := by decide +kernel
set_option maxRecDepth 65536 in
theorem w_heap : heapFits about1 = true := by decide +kernel
set_option maxRecDepth 65536 in
theorem w_runnable : about1.curStatus? = some .runnable := by decide +kernel
set_option maxRecDepth 65536 in
theorem w_alone : about1.alone = true := by decide +kernel
set_option maxRecDepth 65536 in
theorem w_named : about1.methodNamed? x = some theMethod := by decide +kernel
set_option maxRecDepth 65536 in
theorem w_hears : about1.hears theMethod below0 = true := by decide +kernel
set_option maxRecDepth 65536 in
theorem w_ripe : about1.ripe theMethod args0 below0 = true := by decide +kernel
theorem w_running : about1.status = .running := rfl
set_option maxRecDepth 65536 in
theorem w_room : about1.hasRoom e0.platform room_1 = true :=
  launch0.hasRoom_least _ room_1 (by decide +kernel) (by decide +kernel) (by decide +kernel) (by decide +kernel) (by decide +kernel) (by decide +kernel)
theorem allAtoms_all (ts : List Jvm.Cond) (a : Array Jvm.Value) (st : Jvm.State) : (allAtoms ts).before a st = ts.all (fun c => c.before a st) := by
  induction ts with
  | nil => rfl
  | cons c t ih =>
    show (Jvm.Cond.and c (allAtoms t)).before a st = _
    rw [Jvm.Cond.before_and, ih, List.all_cons]
def words1 : List Jvm.Cond := Jvm.Cond.code x code maxLocals ret :: tables_1
/-- a 'code' word, met by the world's own term for the bytes: nothing is compared byte by byte -/
theorem code_word {y : MethodName} {bytes : ByteArray} {mx : Nat} {rt : Option FieldType} {a : Array Value} {s : State} {m : MethodId} {meth : Method} {c : Code} (h1 : s.methodNamed? y = some m) (h2 : s.vm.method? m = some meth) (h3 : meth.code = some c) (h4 : c.code = bytes)
    (h5 : (c.maxLocals == mx && c.exceptionTable.isEmpty && decide (c.maxStack ≤ mostOperands) && decide (meth.sig.returnType = rt) && !meth.locks && decide (parseMethodDescriptor y.desc = some meth.sig)) = true) : (Jvm.Cond.code y bytes mx rt).before a s = true := by
  simp only [Bool.and_eq_true, beq_iff_eq, Bool.not_eq_true', decide_eq_true_eq] at h5
  obtain ⟨⟨⟨⟨⟨g1, g2⟩, g3⟩, g4⟩, g5⟩, g6⟩ := h5
  simp [Cond.before, Cond.holds, Cond.value, h1, h2, h3, h4, g1, g2, g3, g4, g5, g6]
def isCode : Jvm.Cond → Bool
  | .code _ _ _ _ => true
  | _ => false
theorem all_split {L : List Jvm.Cond} {P : Jvm.Cond → Bool} (h1 : L.all (fun c => isCode c || P c) = true) (h2 : ∀ c ∈ L.filter isCode, P c = true) : L.all P = true := by
  refine List.all_eq_true.mpr fun c hc => ?_
  have h := List.all_eq_true.mp h1 c hc
  rcases Bool.eq_false_or_eq_true (isCode c) with hi | hi
  · exact h2 c (List.mem_filter.mpr ⟨hc, hi⟩)
  · simpa [hi] using h
set_option maxRecDepth 65536 in
theorem w_c0 : (Jvm.Cond.code x code maxLocals ret).before args0 about1 = true := code_word (m := ⟨1, 1⟩) (meth := k1m1) (c := k1c1) (by decide +kernel) rfl rfl rfl (by decide +kernel)
set_option maxRecDepth 65536 in
theorem w_c1 : (Jvm.Cond.code ({ cls := "com/example/canvass/canvass/core/Weighting", name := "checkBeta", desc := "(D)D" } : Jvm.MethodName) prog_37_method_4_code (2 : Nat) (Option.some Jvm.ClassFile.FieldType.double)).before args0 about1 = true := code_word (m := ⟨2, 0⟩) (meth := k2m0) (c := k2c0) (by decide +kernel) rfl rfl rfl (by decide +kernel)
def codes1 : List Jvm.Cond := [Jvm.Cond.code x code maxLocals ret, Jvm.Cond.code ({ cls := "com/example/canvass/canvass/core/Weighting", name := "checkBeta", desc := "(D)D" } : Jvm.MethodName) prog_37_method_4_code (2 : Nat) (Option.some Jvm.ClassFile.FieldType.double)]
set_option maxRecDepth 65536 in
theorem codes_eq : words1.filter isCode = codes1 := rfl
theorem w_codes : ∀ c ∈ words1.filter isCode, c.before args0 about1 = true := by
  rw [codes_eq]
  intro c hc
  simp only [codes1, List.mem_cons, List.not_mem_nil, or_false] at hc
  rcases hc with rfl | rfl
  · exact w_c0
  · exact w_c1
set_option maxRecDepth 65536 in
theorem w_t1 : words1.all (fun c => isCode c || c.before args0 about1) = true := by decide +kernel
theorem w_tables : (allAtoms (Jvm.Cond.code x code maxLocals ret :: tables_1)).before args0 about1 = true := by
  rw [allAtoms_all]
  show words1.all (fun c => c.before args0 about1) = true
  refine all_split ?_ w_codes
  rw [w_t1]
set_option maxRecDepth 65536 in
theorem w_case : (Jvm.Cond.and given_1 narrow_1).before args0 about1 = true := by decide +kernel
theorem w_applies : (headSpec (Jvm.Cond.code x code maxLocals ret :: tables_1) room_1).applies x e0.platform about1 = true :=
  (Spec.applies_iff w_frames).mpr ⟨w_running, w_runnable, w_alone, w_named, w_hears, w_ripe, w_room, w_tables⟩
theorem atStart : AtStart classFile x code maxLocals ret World_1 tables_1 room_1 Calls_1 rest_1 Pre_1 launch0 p0 e0 about1 theMethod args0 below0 :=
  ⟨lists_1, trivial, launch0.admits_env _ _ _, launch0.least_env, fairChoices_fair.cas, fairChoices_fair.clock, w_frames, w_args, w_heap, w_applies, trivial, trivial, w_case⟩
end start1
theorem witness_1 : WitnessClaimed_1 := ⟨start1.p0, start1.e0, start1.about1, start1.theMethod, start1.args0, start1.below0, start1.atStart⟩
end Jvm.Pilot.@@N@@
