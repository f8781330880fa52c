import JvmDerived
import JvmDerived.Pilot.@@N@@Statement
import JvmDerived.Pilot.@@N@@Code
set_option linter.unusedVariables false
set_option linter.unusedSimpArgs false
@@BLOCK:NumsL.lean.txt@@
namespace Jvm.RoadKit
open Sem ClassFile Op Lib Jvm.Stand Jvm.Free Jvm.LawKit
section New
variable {p : Program} {l : Launch} {e : Env} {R : Room} {s : State} {m : MethodId} {args : Array Value} {below : List Frame} {meth : Method} {c : Code} {T : State} {locs : List Loc} {cells slots : Nat}
theorem retI (X : Stand p l e R s m args below meth c T locs cells slots) (hx : p.tables.exec = Jvm.exec) {pc : Nat} {Ls : Array Slot} {z : Int32} {rest : List Value} (hret : meth.sig.returnType = some .int) (hd : decode c.code pc = .ok (.ireturn, 1)) {fs : List Frame}
    (hl : ∀ (f : JFrame) (acts : List Action), f.method = m → f.locked = none → f.entered = [] → (doReturn e (T.setTop f) acts (some (.int z))).1 = T.setFrames fs) : Steps p.tables e below (T.setTop (mkF m pc Ls (.int z :: rest))) (T.setFrames fs) := by
  have hm' : T.vm.method? m = some meth := X.method'
  have hn : narrow .int (.int z) = .int z := rfl
  show Steps p.tables e below (T.setTop { method := m, pc := pc, locals := Ls, stack := _ :: rest, locked := none }) _
  jvm_step X.here [X.here.top, hx, hd, hm', hret, hn]
  first | (intro acts; rw [hl _ acts rfl rfl rfl]) | rw [hl _ _ rfl rfl rfl]
  exact Steps.refl _
theorem retD (X : Stand p l e R s m args below meth c T locs cells slots) (hx : p.tables.exec = Jvm.exec) {pc : Nat} {Ls : Array Slot} {z : UInt64} {rest : List Value} (hret : meth.sig.returnType = some .double) (hd : decode c.code pc = .ok (.dreturn, 1)) {fs : List Frame}
    (hl : ∀ (f : JFrame) (acts : List Action), f.method = m → f.locked = none → f.entered = [] → (doReturn e (T.setTop f) acts (some (.double z))).1 = T.setFrames fs) : Steps p.tables e below (T.setTop (mkF m pc Ls (.double z :: rest))) (T.setFrames fs) := by
  have hm' : T.vm.method? m = some meth := X.method'
  show Steps p.tables e below (T.setTop { method := m, pc := pc, locals := Ls, stack := _ :: rest, locked := none }) _
  jvm_step X.here [X.here.top, hx, hd, hm', hret, narrow]
  first | (intro acts; rw [hl _ acts rfl rfl rfl]) | (refine ⟨meth, hm', ⟨_, hret, rfl⟩, fun acts => ?_⟩; rw [hl _ acts rfl rfl rfl])
  exact Steps.refl _
theorem retA (X : Stand p l e R s m args below meth c T locs cells slots) (hx : p.tables.exec = Jvm.exec) {pc : Nat} {Ls : Array Slot} {v : Value} {rest : List Value} {t : FieldType} (hret : meth.sig.returnType = some t) (ht : t.isReference = true) (hv : v.isRef = true) (hd : decode c.code pc = .ok (.areturn, 1)) {fs : List Frame}
    (hl : ∀ (f : JFrame) (acts : List Action), f.method = m → f.locked = none → f.entered = [] → (doReturn e (T.setTop f) acts (some v)).1 = T.setFrames fs) : Steps p.tables e below (T.setTop (mkF m pc Ls (v :: rest))) (T.setFrames fs) := by
  have hm' : T.vm.method? m = some meth := X.method'
  show Steps p.tables e below (T.setTop { method := m, pc := pc, locals := Ls, stack := _ :: rest, locked := none }) _
  jvm_step X.here [X.here.top, hx, hd, hm', hret, hv, ht]
  first | (intro acts; rw [hl _ acts rfl rfl rfl]) | (refine ⟨meth, hm', ⟨_, hret, rfl⟩, fun acts => ?_⟩; rw [hl _ acts rfl rfl rfl])
  exact Steps.refl _
theorem own_ref {v : Value} (h : v.isRef = true) : v = .null ∨ ∃ b, v = .ref b := by
  cases v <;> simp [Value.isRef] at h <;> simp
theorem own_narrow {v : Value} {C : String} (h : v.isRef = true) : narrow (.object C) v = v := by
  rcases own_ref h with rfl | ⟨b, rfl⟩ <;> rfl
theorem own_fits {v : Value} {C : String} (h : v.isRef = true) : fits (.object C) v = true := by
  rcases own_ref h with rfl | ⟨b, rfl⟩ <;> rfl
end New
end Jvm.RoadKit
namespace Jvm.RoadKit
open Sem ClassFile Op Lib Bundle Jvm.Stand Jvm.Free Jvm.LawKit Jvm.Free.SB Jvm.Free.SBG
theorem own_wsz {h h' : Heap} {a : Addr} {j : Nat} {v : Value} (W : Wr h h' a j v) : h'.size = h.size := by
  obtain ⟨c, -, -, -, rfl⟩ := W; simp
section OwnX
variable {p : Program} {l : Launch} {e : Env} {R : Room} {s : State} {args : Array Value} {below : List Frame} {Z : State} {a0 : Array Value} {EL : List (String × Nat)} {h : Heap} {vm0 : Vm}
/-- a callee that keeps the invariant and asks that some places be safe -/
theorem backOfSX {y : MethodName} {bytes : ByteArray} {maxL : Nat} {ret : Option FieldType} {rm : Room} {len W : Nat} {as' : Array Value} {Q : Option Value → Heap → List Loc → Prop} {xs : List Addr}
    (hM : MetFree l y (head1 [Cond.code y bytes maxL ret] rm) (fun a U => a = as' ∧ Z.Warmed39 U.vm ∧ U.heap = h ∧ CHv Z EL U.vm h ∧ ∀ x ∈ xs, Safe Z EL U.vm h x) (fun _ _ _ _ _ => True) (fun _ U o U' => ∃ v L, o = .returned v ∧ Q v U'.heap L ∧ CHr Z EL U.vm U.heap U'.vm U'.heap ∧ ReturnedEndW U o U' L rm.cells rm.slots))
    (hZ : Z.Warmed39 vm0) (wc : (Cond.code y bytes maxL ret).before a0 Z = true) (wz : (Cond.initialized y.cls).before a0 Z = true) (hf : rm.frames + 1 ≤ R.frames) (hl : W + (maxL + 11) + rm.locals ≤ R.locals) (hEL : EW Z a0 EL) (H : CHv Z EL vm0 h) (hxs : ∀ x ∈ xs, x < h.size ∧ Safe Z EL vm0 h x) :
    BackS l R p e below (s.setVm vm0) args y len W (fun A a => a = as' ∧ A.U.heap = h ∧ A.cells + rm.cells ≤ R.cells ∧ A.slots + rm.slots ≤ R.slots)
      (fun A _ v B => ∃ L, Q v B.U.heap L ∧ B.locs = A.locs ++ L ∧ B.cells = A.cells + rm.cells ∧ B.slots = A.slots + rm.slots ∧ CHr Z EL vm0 h B.U.vm B.U.heap) := by
  refine BackS.of_freeW (bytes := bytes) (maxL := maxL) (ret := ret) (E := fun _ first o t L k n => k = rm.cells ∧ n = rm.slots ∧ (∃ v, o = .returned v ∧ Q v t.heap L) ∧ CHr Z EL first.vm first.heap t.vm t.heap) hM hf hl ?_ ?_ ?_ ?_ ?_
  · intro m meth c A a Y hp
    have hU : Z.Warmed39 A.U.vm := wtrans (s := s.setVm vm0) hZ Y.warmed
    exact ⟨by show (Cond.and _ .tt).before a A.U = true; rw [Cond.before_and, mv hU wc]; rfl, mv hU wc, mv hU wz, hp.2.2.1, hp.2.2.2⟩
  · intro m meth c A a g mk Y hp
    have hA := CHv.at Y hZ hEL H
    exact ⟨hp.1, wtrans (s := s.setVm vm0) hZ Y.warmed, hp.2.1, hA.1, fun x hx => hA.safe (hxs x hx).1 (hxs x hx).2⟩
  · intros; trivial
  · rintro _ _ _ _ ⟨v, L, h1, h2, h3, h4⟩
    exact ⟨L, _, _, h4, rfl, rfl, ⟨v, h1, h2⟩, h3⟩
  · rintro m meth c A a g mk v t L k n Y hp _ _ ⟨e1, e2, ⟨v', e3, e4⟩, e5⟩
    cases e3; subst e1 e2
    refine ⟨L, e4, rfl, rfl, rfl, (CHv.at Y hZ hEL H).trans ?_⟩
    rw [← hp.2.1]; exact e5
end OwnX
end Jvm.RoadKit
namespace Jvm.Pilot.@@N@@
namespace StrChars
open Jvm Sem ClassFile Op Lib Jvm.Stand Jvm.Free.XT Jvm.Free.ALB Jvm.Free.JM Jvm.Free
open Jvm.Lib.Cold (StaticIs)
/-- a char array whose places are chars -/
def Ch (a : Addr) (A : Cell) (U : State) : Prop := Arr .char a A U ∧ Typed .char A
theorem Ch.mv {a : Addr} {A : Cell} {U U' : State} (h : Ch a A U) (hal : U.vm.Alike U'.vm) (hh : U'.heap = U.heap) : Ch a A U' := ⟨h.1.mv hal hh, h.2⟩
theorem Ch.keep {a : Addr} {A : Cell} {U U' : State} (h : Ch a A U) (hal : U.vm.Alike U'.vm) (hk : U'.heap[a]? = some A) : Ch a A U' := ⟨h.1.keep hal hk, h.2⟩
/-- what place i of a char[]'s cell holds -/
def cv (A : Cell) (i : Nat) : Int32 := match A.slots[i]? with | some (.int x) => x | _ => 0
theorem Ch.get {a : Addr} {A : Cell} {U : State} (h : Ch a A U) {i : Nat} (hi : i < A.slots.size) : A.slots[i]? = some (.int (cv A i)) := by
  have e := Array.getElem?_eq_getElem hi
  have f := h.2 i _ e
  unfold cv; rw [e]
  generalize A.slots[i] = v at f
  cases v <;> simp [fits] at f ⊢
/-- the byte that i2b leaves of a char -/
def lo8 (x : Int32) : Int32 := x.toInt8.toInt32
theorem fits_lo8 (y : Int32) : fits .byte (.int (lo8 y)) = true := by
  have h1 := y.toInt8.le_toInt
  have h2 := y.toInt8.toInt_lt
  simp only [lo8, fits, Bool.and_eq_true, decide_eq_true_eq, Int32.le_iff_toInt_le, Int8.toInt_toInt32, show (-128 : Int32).toInt = -128 from by decide, show (127 : Int32).toInt = 127 from by decide]
  omega
/-- A' is A but that each place j of lo .. hi - 1 holds f j -/
def Laid (A A' : Cell) (lo hi : Nat) (f : Nat → Value) : Prop := A'.cls = A.cls ∧ A'.vm = A.vm ∧ A'.slots.size = A.slots.size ∧ ∀ i, A'.slots[i]? = if lo ≤ i ∧ i < hi then some (f i) else A.slots[i]?
theorem Laid.zero (A : Cell) (lo : Nat) (f : Nat → Value) : Laid A A lo (lo + 0) f := ⟨rfl, rfl, rfl, fun i => by rw [if_neg (by omega)]⟩
theorem Laid.step {A Ak : Cell} {lo k : Nat} {f : Nat → Value} {v : Value} (h : Laid A Ak lo k f) (hlo : lo ≤ k) (hk : k < Ak.slots.size) (hv : v = f k) : Laid A (Ak.setSlot k v) lo (k + 1) f := by
  refine ⟨h.1, h.2.1, by simpa [Cell.setSlot] using h.2.2.1, fun i => ?_⟩
  by_cases e : k = i
  · subst e; rw [Cell.slots_setSlot_self v hk, if_pos (by omega), hv]
  · rw [Cell.slots_setSlot_ne v e, h.2.2.2 i]
    by_cases q : lo ≤ i ∧ i < k
    · rw [if_pos q, if_pos (by omega)]
    · rw [if_neg q, if_neg (by omega)]
def U16 : String := "java/lang/StringUTF16"
namespace Cmp5
def yN : MethodName := ⟨"java/lang/StringUTF16", "compress", "([CI[BII)I"⟩
abbrev yB : ByteArray := jdk_52_method_21_code
theorem d0 : decode yB 0 = .ok (.iconst 0, 1) := by decide +kernel
theorem d1 : decode yB 1 = .ok (.istore 5, 2) := by decide +kernel
theorem d3 : decode yB 3 = .ok (.iload 5, 2) := by decide +kernel
theorem d5 : decode yB 5 = .ok (.iload 4, 2) := by decide +kernel
theorem d7 : decode yB 7 = .ok (.if_icmp (.ge) 37, 3) := by decide +kernel
theorem d10 : decode yB 10 = .ok (.aload_n 0, 1) := by decide +kernel
theorem d11 : decode yB 11 = .ok (.iload_n 1, 1) := by decide +kernel
theorem d12 : decode yB 12 = .ok (.caload, 1) := by decide +kernel
theorem d13 : decode yB 13 = .ok (.istore 6, 2) := by decide +kernel
theorem d15 : decode yB 15 = .ok (.iload 6, 2) := by decide +kernel
theorem d17 : decode yB 17 = .ok (.sipush 255, 3) := by decide +kernel
theorem d20 : decode yB 20 = .ok (.if_icmp (.le) 6, 3) := by decide +kernel
theorem d26 : decode yB 26 = .ok (.aload_n 2, 1) := by decide +kernel
theorem d27 : decode yB 27 = .ok (.iload_n 3, 1) := by decide +kernel
theorem d28 : decode yB 28 = .ok (.iload 6, 2) := by decide +kernel
theorem d30 : decode yB 30 = .ok (.i2b, 1) := by decide +kernel
theorem d31 : decode yB 31 = .ok (.bastore, 1) := by decide +kernel
theorem d32 : decode yB 32 = .ok (.iinc 1 1, 3) := by decide +kernel
theorem d35 : decode yB 35 = .ok (.iinc 3 1, 3) := by decide +kernel
theorem d38 : decode yB 38 = .ok (.iinc 5 1, 3) := by decide +kernel
theorem d41 : decode yB 41 = .ok (.goto (-38), 3) := by decide +kernel
theorem d44 : decode yB 44 = .ok (.iload 4, 2) := by decide +kernel
theorem d46 : decode yB 46 = .ok (.ireturn, 1) := by decide +kernel
def site : List Cond := []
def tab : Cond := tabOf yN yB 7 (some .int) site
def P (b : Addr) (A : Cell) (d : Addr) (B : Cell) (o q len : Nat) (args : Array Value) (s : State) : Prop := args = #[.ref b, .int (Int32.ofNat o), .ref d, .int (Int32.ofNat q), .int (Int32.ofNat len)] ∧ Ch b A s ∧ Arr .byte d B s ∧ b ≠ d ∧ o + len ≤ A.slots.size ∧ q + len ≤ B.slots.size ∧ ∀ i, i < len → ¬ 255 < cv A (o + i)
def E (b : Addr) (A : Cell) (d : Addr) (B : Cell) (o q len : Nat) (r : Option Value) (s u : State) : Prop := r = some (.int (Int32.ofNat len)) ∧ ∃ B', Put d B' s u ∧ Laid B B' q (q + len) (fun j => Value.int (lo8 (cv A (o + (j - q)))))
/-- no char of the range above 255: len; the places written hold each char's low byte -/
theorem law (l : Launch) (b : Addr) (A : Cell) (d : Addr) (B : Cell) (o q len : Nat) : Law l yN 5 5 0 0 yB 7 (some .int) site (P b A d B o q len) (E b A d B o q len) (copyLocs d q len) 0 0 := by
  refine Law.of_walk (plainFor_of_name (by decide +kernel)) (by decide +kernel) (by decide +kernel) (by decide) (fun _ _ h => by rw [h.1]; rfl) (fun _ U U' hal hh h => ⟨h.1, h.2.1.mv hal hh, h.2.2.1.mv hal hh, h.2.2.2⟩) (fun r U U' V V' h1 hal h2 h => ⟨h.1, h.2.elim fun B' q => ⟨B', q.1.mv h1 h2, q.2⟩⟩) ?_
  intro p e s m args below meth c s₁ X0 hexec hbytes hml hret hlk hnm hown hh0 W hP
  obtain ⟨rfl, hA, hB, hne, l1, l2, hp⟩ := hP
  have c1 : Steps p.tables e below (s₁.setTop (entryFrame m #[.ref b, .int (Int32.ofNat o), .ref d, .int (Int32.ofNat q), .int (Int32.ofNat len)] 7)) (s₁.setTop (mkF m 0 #[.val (.ref b), .val (.int (Int32.ofNat o)), .val (.ref d), .val (.int (Int32.ofNat q)), .val (.int (Int32.ofNat len)), .unset, .unset] [])) := entry rfl
  have hA0 := hA.1.mv X0.warmed.alike hh0
  have hB0 := hB.mv X0.warmed.alike hh0
  have a31 := hA.1.2.2.2
  have c2 : Steps p.tables e below (s₁.setTop (entryFrame m #[.ref b, .int (Int32.ofNat o), .ref d, .int (Int32.ofNat q), .int (Int32.ofNat len)] 7)) (s₁.setTop (mkF m 3 #[.val (.ref b), .val (.int (Int32.ofNat o)), .val (.ref d), .val (.int (Int32.ofNat q)), .val (.int (Int32.ofNat len)), .val (.int 0), .unset] [])) := c1.trans (by
    refine iconstV X0.here hexec rfl 0 (hb hbytes d0) (by decide) ?_
    refine XS.istore X0.here hexec rfl (hb hbytes d1) rfl rfl ?_
    exact Steps.refl _)
  have loop : ∀ (r i : Nat), i + r = len → ∀ (z : Slot), (z = .unset ∨ ∃ w, z = .val w ∧ w.category = 1) → ∀ (Tl : State) (Bk : Cell), Stand p l e { frames := 0, locals := 0, cells := 0, slots := 0 } s m #[.ref b, .int (Int32.ofNat o), .ref d, .int (Int32.ofNat q), .int (Int32.ofNat len)] below meth c Tl ([] ++ copyLocs d q i) 0 0 → Put d Bk s₁ Tl → Laid B Bk q (q + i) (fun j => Value.int (lo8 (cv A (o + (j - q))))) →
      Steps p.tables e below (s₁.setTop (entryFrame m #[.ref b, .int (Int32.ofNat o), .ref d, .int (Int32.ofNat q), .int (Int32.ofNat len)] 7)) (Tl.setTop (mkF m 3 #[.val (.ref b), .val (.int (Int32.ofNat (o + i))), .val (.ref d), .val (.int (Int32.ofNat (q + i))), .val (.int (Int32.ofNat len)), .val (.int (Int32.ofNat i)), z] [])) → ∃ (T' : State) (B' : Cell) (z' : Slot), Stand p l e { frames := 0, locals := 0, cells := 0, slots := 0 } s m #[.ref b, .int (Int32.ofNat o), .ref d, .int (Int32.ofNat q), .int (Int32.ofNat len)] below meth c T' ([] ++ copyLocs d q len) 0 0 ∧ Put d B' s₁ T' ∧ Laid B B' q (q + len) (fun j => Value.int (lo8 (cv A (o + (j - q))))) ∧
      Steps p.tables e below (s₁.setTop (entryFrame m #[.ref b, .int (Int32.ofNat o), .ref d, .int (Int32.ofNat q), .int (Int32.ofNat len)] 7)) (T'.setTop (mkF m 3 #[.val (.ref b), .val (.int (Int32.ofNat (o + len))), .val (.ref d), .val (.int (Int32.ofNat (q + len))), .val (.int (Int32.ofNat len)), .val (.int (Int32.ofNat len)), z'] [])) := by
    intro r
    induction r with
    | zero =>
      intro i hi z hz Tl Bk Xl pl fl cl
      have hil : i = len := by omega
      rw [hil] at Xl fl cl
      exact ⟨Tl, Bk, z, Xl, pl, fl, cl⟩
    | succ r ih =>
      intro i hi z hz Tl Bk Xl pl fl cl
      have all := X0.warmed.alike.symm.trans Xl.warmed.alike
      have hAl := hA0.keep all (pl.other hne hA0.1)
      have hBk := hB0.like all pl.1 fl.1 fl.2.1 fl.2.2.1
      have hlt : q + i < Bk.slots.size := by rw [fl.2.2.1]; omega
      have c3 : Steps p.tables e below (s₁.setTop (entryFrame m #[.ref b, .int (Int32.ofNat o), .ref d, .int (Int32.ofNat q), .int (Int32.ofNat len)] 7)) (Tl.setTop (mkF m 12 #[.val (.ref b), .val (.int (Int32.ofNat (o + i))), .val (.ref d), .val (.int (Int32.ofNat (q + i))), .val (.int (Int32.ofNat len)), .val (.int (Int32.ofNat i)), z] [.int (Int32.ofNat (o + i)), .ref b])) := cl.trans (by
        refine XS.iload Xl.here hexec rfl (hb hbytes d3) rfl ?_
        refine XS.iload Xl.here hexec rfl (hb hbytes d5) rfl ?_
        refine XS.icmpNo Xl.here hexec rfl (hb hbytes d7) rfl (ii_ge_f (lt32 (by omega) (by omega))) ?_
        refine XS.aloadN Xl.here hexec rfl (hb hbytes d10) rfl rfl ?_
        refine XS.iloadN Xl.here hexec rfl (hb hbytes d11) rfl ?_
        exact Steps.refl _)
      have c4 : Steps p.tables e below (s₁.setTop (entryFrame m #[.ref b, .int (Int32.ofNat o), .ref d, .int (Int32.ofNat q), .int (Int32.ofNat len)] 7)) (Tl.setTop (mkF m 13 #[.val (.ref b), .val (.int (Int32.ofNat (o + i))), .val (.ref d), .val (.int (Int32.ofNat (q + i))), .val (.int (Int32.ofNat len)), .val (.int (Int32.ofNat i)), z] [.int (cv A (o + i))])) := c3.trans (by
        refine Xl.aget hexec hAl rfl (hA.get (i := o + i) (by omega)) rfl rfl (hb hbytes d12) ?_
        exact Steps.refl _)
      have c5 : Steps p.tables e below (s₁.setTop (entryFrame m #[.ref b, .int (Int32.ofNat o), .ref d, .int (Int32.ofNat q), .int (Int32.ofNat len)] 7)) (Tl.setTop (mkF m 15 #[.val (.ref b), .val (.int (Int32.ofNat (o + i))), .val (.ref d), .val (.int (Int32.ofNat (q + i))), .val (.int (Int32.ofNat len)), .val (.int (Int32.ofNat i)), .val (.int (cv A (o + i)))] [])) := c4.trans (by
        refine XS.istoreS Xl.here hexec rfl (hb hbytes d13) rfl rfl hz ?_
        exact Steps.refl _)
      have c6 : Steps p.tables e below (s₁.setTop (entryFrame m #[.ref b, .int (Int32.ofNat o), .ref d, .int (Int32.ofNat q), .int (Int32.ofNat len)] 7)) (Tl.setTop (mkF m 31 #[.val (.ref b), .val (.int (Int32.ofNat (o + i))), .val (.ref d), .val (.int (Int32.ofNat (q + i))), .val (.int (Int32.ofNat len)), .val (.int (Int32.ofNat i)), .val (.int (cv A (o + i)))] [.int (lo8 (cv A (o + i))), .int (Int32.ofNat (q + i)), .ref d])) := c5.trans (by
        refine XS.iload Xl.here hexec rfl (hb hbytes d15) rfl ?_
        refine sipushV Xl.here hexec rfl 255 (hb hbytes d17) (by decide) ?_
        refine XS.icmpYes Xl.here hexec rfl (pc0 := 20) rfl (hb hbytes d20) rfl (ii_le_t (hp i (by omega))) (by decide) rfl ?_
        refine XS.aloadN Xl.here hexec rfl (hb hbytes d26) rfl rfl ?_
        refine XS.iloadN Xl.here hexec rfl (hb hbytes d27) rfl ?_
        refine XS.iload Xl.here hexec rfl (hb hbytes d28) rfl ?_
        refine i2b Xl.here hexec rfl (hb hbytes d30) rfl ?_
        exact Steps.refl _)
      obtain ⟨T7, X7, p7, st7⟩ := Xl.aput hexec hBk rfl hlt rfl (fits_lo8 (cv A (o + i))) (g := (mkF m 31 #[.val (.ref b), .val (.int (Int32.ofNat (o + i))), .val (.ref d), .val (.int (Int32.ofNat (q + i))), .val (.int (Int32.ofNat len)), .val (.int (Int32.ofNat i)), .val (.int (cv A (o + i)))] [.int (lo8 (cv A (o + i))), .int (Int32.ofNat (q + i)), .ref d])) rfl (rest := []) rfl (hb hbytes d31)
      have c8 : Steps p.tables e below (s₁.setTop (entryFrame m #[.ref b, .int (Int32.ofNat o), .ref d, .int (Int32.ofNat q), .int (Int32.ofNat len)] 7)) (T7.setTop (mkF m 32 #[.val (.ref b), .val (.int (Int32.ofNat (o + i))), .val (.ref d), .val (.int (Int32.ofNat (q + i))), .val (.int (Int32.ofNat len)), .val (.int (Int32.ofNat i)), .val (.int (cv A (o + i)))] [])) := c6.trans (st7 _ (Steps.refl _))
      have c9 : Steps p.tables e below (s₁.setTop (entryFrame m #[.ref b, .int (Int32.ofNat o), .ref d, .int (Int32.ofNat q), .int (Int32.ofNat len)] 7)) (T7.setTop (mkF m 3 #[.val (.ref b), .val (.int (Int32.ofNat (o + i) + 1)), .val (.ref d), .val (.int (Int32.ofNat (q + i) + 1)), .val (.int (Int32.ofNat len)), .val (.int (Int32.ofNat i + 1)), .val (.int (cv A (o + i)))] [])) := c8.trans (by
        refine iincV X7.here hexec rfl 1 (hb hbytes d32) (by decide) rfl rfl ?_
        refine iincV X7.here hexec rfl 1 (hb hbytes d35) (by decide) rfl rfl ?_
        refine iincV X7.here hexec rfl 1 (hb hbytes d38) (by decide) rfl rfl ?_
        refine XS.goto X7.here hexec rfl (pc0 := 41) rfl (hb hbytes d41) (by decide) rfl ?_
        exact Steps.refl _)
      have c10 : Steps p.tables e below (s₁.setTop (entryFrame m #[.ref b, .int (Int32.ofNat o), .ref d, .int (Int32.ofNat q), .int (Int32.ofNat len)] 7)) (T7.setTop (mkF m 3 #[.val (.ref b), .val (.int (Int32.ofNat (o + (i + 1)))), .val (.ref d), .val (.int (Int32.ofNat (q + (i + 1)))), .val (.int (Int32.ofNat len)), .val (.int (Int32.ofNat (i + 1))), .val (.int (cv A (o + i)))] [])) := by
        have := c9
        rw [succ32, succ32, succ32] at this
        exact this
      exact ih (i + 1) (by omega) _ (Or.inr ⟨_, rfl, rfl⟩) T7 _ (by rw [copyLocs_step, ← List.append_assoc]; exact X7) (pl.trans p7) (fl.step (by omega) hlt (by simp)) c10
  obtain ⟨T9, B9, z9, X9, p9, f9, g9⟩ := loop len 0 (by omega) .unset (Or.inl rfl) s₁ B (by simpa [copyLocs] using X0) ⟨hB0.1, fun _ _ => rfl, rfl⟩ (Laid.zero _ _ _) c2
  have c11 : Steps p.tables e below (s₁.setTop (entryFrame m #[.ref b, .int (Int32.ofNat o), .ref d, .int (Int32.ofNat q), .int (Int32.ofNat len)] 7)) (T9.setTop (mkF m 46 #[.val (.ref b), .val (.int (Int32.ofNat (o + len))), .val (.ref d), .val (.int (Int32.ofNat (q + len))), .val (.int (Int32.ofNat len)), .val (.int (Int32.ofNat len)), z9] [.int (Int32.ofNat len)])) := g9.trans (by
    refine XS.iload X9.here hexec rfl (hb hbytes d3) rfl ?_
    refine XS.iload X9.here hexec rfl (hb hbytes d5) rfl ?_
    refine XS.icmpYes X9.here hexec rfl (pc0 := 7) rfl (hb hbytes d7) rfl (ii_ge_t (nlt32 (by omega) (Nat.le_refl _))) (by decide) rfl ?_
    refine XS.iload X9.here hexec rfl (hb hbytes d44) rfl ?_
    exact Steps.refl _)
  exact ⟨T9, some (.int (Int32.ofNat len)), _, _, _, X9, by simp, rfl, rfl, (fun h => by cases h), ⟨rfl, B9, p9.from hh0, f9⟩, fun fs hl => c11.trans (X9.ireturnOut hexec hret rfl (Or.inl rfl) (hb hbytes d46) hl)⟩
end Cmp5
namespace Cmp3
def yN : MethodName := ⟨"java/lang/StringUTF16", "compress", "([CII)[B"⟩
abbrev yB : ByteArray := jdk_52_method_16_code
theorem d0 : decode yB 0 = .ok (.iload_n 2, 1) := by decide +kernel
theorem d1 : decode yB 1 = .ok (.newarray .byte, 2) := by decide +kernel
theorem d3 : decode yB 3 = .ok (.astore_n 3, 1) := by decide +kernel
theorem d4 : decode yB 4 = .ok (.aload_n 0, 1) := by decide +kernel
theorem d5 : decode yB 5 = .ok (.iload_n 1, 1) := by decide +kernel
theorem d6 : decode yB 6 = .ok (.aload_n 3, 1) := by decide +kernel
theorem d7 : decode yB 7 = .ok (.iconst 0, 1) := by decide +kernel
theorem d8 : decode yB 8 = .ok (.iload_n 2, 1) := by decide +kernel
theorem d9 : decode yB 9 = .ok (.invokestatic 115, 3) := by decide +kernel
theorem d12 : decode yB 12 = .ok (.istore 4, 2) := by decide +kernel
theorem d14 : decode yB 14 = .ok (.iload 4, 2) := by decide +kernel
theorem d16 : decode yB 16 = .ok (.iload_n 2, 1) := by decide +kernel
theorem d17 : decode yB 17 = .ok (.if_icmp (.eq) 40, 3) := by decide +kernel
theorem d57 : decode yB 57 = .ok (.aload_n 3, 1) := by decide +kernel
theorem d58 : decode yB 58 = .ok (.areturn, 1) := by decide +kernel
def site : List Cond := [.arrayClass .byte, Cmp5.tab] ++ staticW U16 115 Cmp5.yN
def tab : Cond := tabOf yN yB 6 (some (.array .byte)) site
def P (b : Addr) (A : Cell) (o len : Nat) (args : Array Value) (s : State) : Prop := args = #[.ref b, .int (Int32.ofNat o), .int (Int32.ofNat len)] ∧ Ch b A s ∧ o + len ≤ A.slots.size ∧ len ≤ 536870912 ∧ ∀ i, i < len → ¬ 255 < cv A (o + i)
def E (b : Addr) (A : Cell) (o len : Nat) (r : Option Value) (s u : State) : Prop := NewArr .byte "[B" len (fun j => .int (lo8 (cv A (o + j)))) r s u ∧ u.heap.size = s.heap.size + 1
/-- no char of the range above 255: a new byte[] of their low bytes -/
theorem law (l : Launch) (b : Addr) (A : Cell) (o len : Nat) : Law l yN 3 3 1 18 yB 6 (some (.array .byte)) site (P b A o len) (E b A o len) [] 1 len := by
  refine Law.of_walk (plainFor_of_name (by decide +kernel)) (by decide +kernel) (by decide +kernel) (by decide) (fun _ _ h => by rw [h.1]; rfl) (fun _ U U' hal hh h => ⟨h.1, h.2.1.mv hal hh, h.2.2⟩) (fun r U U' V V' h1 hal h2 h => ⟨NewArr.mv r U U' V V' h1 hal h2 h.1, by rw [h1, h2]; exact h.2⟩) ?_
  intro p e s m args below meth c s₁ X0 hexec hbytes hml hret hlk hnm hown hh0 W hP
  obtain ⟨rfl, hA, l1, l2, hp⟩ := hP
  have a31 := hA.1.2.2.2
  have c1 : Steps p.tables e below (s₁.setTop (entryFrame m #[.ref b, .int (Int32.ofNat o), .int (Int32.ofNat len)] 6)) (s₁.setTop (mkF m 0 #[.val (.ref b), .val (.int (Int32.ofNat o)), .val (.int (Int32.ofNat len)), .unset, .unset, .unset] [])) := entry rfl
  have c2 : Steps p.tables e below (s₁.setTop (entryFrame m #[.ref b, .int (Int32.ofNat o), .int (Int32.ofNat len)] 6)) (s₁.setTop (mkF m 1 #[.val (.ref b), .val (.int (Int32.ofNat o)), .val (.int (Int32.ofNat len)), .unset, .unset, .unset] [.int (Int32.ofNat len)])) := c1.trans (by
    refine XS.iloadN X0.here hexec rfl (hb hbytes d0) rfl ?_
    exact Steps.refl _)
  obtain ⟨T3, B3, X3, ba3, bs3, bv3, bh3, bf3, st3⟩ := X0.anew hexec (atype := .byte) (wk W (.arrayClass .byte)) rfl (by show len * 1 ≤ _; omega) (by omega) (g := (mkF m 1 #[.val (.ref b), .val (.int (Int32.ofNat o)), .val (.int (Int32.ofNat len)), .unset, .unset, .unset] [.int (Int32.ofNat len)])) rfl (hb hbytes d1) (rest := []) rfl (Nat.le_refl _) (by show 0 + len ≤ len; omega)
  rw [hh0] at ba3 st3
  have kp3 : XT.Kept s T3 := (XT.Kept.of_eq hh0).push bh3
  have hA3 := hA.keep X3.warmed.alike (kp3 _ _ hA.1.1)
  have hne : b ≠ s.heap.size := hA.1.ne
  have c4 : Steps p.tables e below (s₁.setTop (entryFrame m #[.ref b, .int (Int32.ofNat o), .int (Int32.ofNat len)] 6)) (T3.setTop (mkF m 3 #[.val (.ref b), .val (.int (Int32.ofNat o)), .val (.int (Int32.ofNat len)), .unset, .unset, .unset] [.ref s.heap.size])) := c2.trans (st3 _ (Steps.refl _))
  have c5 : Steps p.tables e below (s₁.setTop (entryFrame m #[.ref b, .int (Int32.ofNat o), .int (Int32.ofNat len)] 6)) (T3.setTop (mkF m 9 #[.val (.ref b), .val (.int (Int32.ofNat o)), .val (.int (Int32.ofNat len)), .val (.ref s.heap.size), .unset, .unset] [.int (Int32.ofNat len), .int 0, .ref s.heap.size, .int (Int32.ofNat o), .ref b])) := c4.trans (by
    refine XS.astoreN X3.here hexec rfl (hb hbytes d3) rfl rfl rfl ?_
    refine XS.aloadN X3.here hexec rfl (hb hbytes d4) rfl rfl ?_
    refine XS.iloadN X3.here hexec rfl (hb hbytes d5) rfl ?_
    refine XS.aloadN X3.here hexec rfl (hb hbytes d6) rfl rfl ?_
    refine iconstV X3.here hexec rfl 0 (hb hbytes d7) (by decide) ?_
    refine XS.iloadN X3.here hexec rfl (hb hbytes d8) rfl ?_
    exact Steps.refl _)
  obtain ⟨v6, T6, X6, E6, g6⟩ := X3.callS hexec (Cmp5.law l b A s.heap.size B3 o 0 len) hown (wks W (staticW U16 115 Cmp5.yN)) (wk W Cmp5.tab) (W := 0) (Nat.le_of_ble_eq_true rfl) (Nat.le_of_ble_eq_true rfl) (Nat.le_refl _) (by show 0 + len + 0 ≤ len; omega) (g := (mkF m 9 #[.val (.ref b), .val (.int (Int32.ofNat o)), .val (.int (Int32.ofNat len)), .val (.ref s.heap.size), .unset, .unset] [.int (Int32.ofNat len), .int (Int32.ofNat 0), .ref s.heap.size, .int (Int32.ofNat o), .ref b])) rfl (by rw [hml]; rfl) c5 (argsL := [.ref b, .int (Int32.ofNat o), .ref s.heap.size, .int (Int32.ofNat 0), .int (Int32.ofNat len)]) (rest := []) rfl rfl (by show 2 * 0 + 0 ≤ _; decide) (hb hbytes d9) (⟨rfl, hA3, ba3, hne, l1, by rw [bs3]; simp, hp⟩)
  obtain ⟨rfl, B6, p6, f6⟩ := E6
  have c7 : Steps p.tables e below (s₁.setTop (entryFrame m #[.ref b, .int (Int32.ofNat o), .int (Int32.ofNat len)] 6)) (T6.setTop (mkF m 12 #[.val (.ref b), .val (.int (Int32.ofNat o)), .val (.int (Int32.ofNat len)), .val (.ref s.heap.size), .unset, .unset] [.int (Int32.ofNat len)])) := g6
  have c8 : Steps p.tables e below (s₁.setTop (entryFrame m #[.ref b, .int (Int32.ofNat o), .int (Int32.ofNat len)] 6)) (T6.setTop (mkF m 58 #[.val (.ref b), .val (.int (Int32.ofNat o)), .val (.int (Int32.ofNat len)), .val (.ref s.heap.size), .val (.int (Int32.ofNat len)), .unset] [.ref s.heap.size])) := c7.trans (by
    refine XS.istore X6.here hexec rfl (hb hbytes d12) rfl rfl ?_
    refine XS.iload X6.here hexec rfl (hb hbytes d14) rfl ?_
    refine XS.iloadN X6.here hexec rfl (hb hbytes d16) rfl ?_
    refine XS.icmpYes X6.here hexec rfl (pc0 := 17) rfl (hb hbytes d17) rfl (ii_eq_t rfl) (by decide) rfl ?_
    refine XS.aloadN X6.here hexec rfl (hb hbytes d57) rfl rfl ?_
    exact Steps.refl _)
  have X8 := X6.wide (L' := []) (cells' := 1) (slots' := len) (fun x hx hlt => by
    simp only [List.nil_append, copyLocs, List.mem_map, List.mem_range] at hx
    obtain ⟨i, -, rfl⟩ := hx
    exact absurd hlt (Nat.lt_irrefl _)) (Nat.le_refl _) (by omega)
  exact ⟨T6, some (.ref s.heap.size), _, _, _, X8, rfl, rfl, rfl, (fun h => by cases h), ⟨⟨rfl, B6, ba3.like (X3.warmed.alike.symm.trans X6.warmed.alike) p6.1 f6.1 f6.2.1 f6.2.2.1, f6.2.1.trans bv3, by rw [X6.warmed.alike.findClass, f6.1]; exact bf3, by rw [f6.2.2.1, bs3]; simp, fun j hj => by rw [f6.2.2.2 j, if_pos (by omega)]; rfl, kp3.put p6 (Nat.le_refl _)⟩, by rw [p6.2.2, bh3, hh0]; simp⟩, fun fs hl => c8.trans (X8.areturnOut hexec rfl hret rfl (hb hbytes d58) hl)⟩
end Cmp3
namespace CodL
def yN : MethodName := ⟨"java/lang/StringUTF16", "coderFromArrayLen", "([BI)B"⟩
abbrev yB : ByteArray := jdk_52_method_15_code
theorem d0 : decode yB 0 = .ok (.iload_n 1, 1) := by decide +kernel
theorem d1 : decode yB 1 = .ok (.aload_n 0, 1) := by decide +kernel
theorem d2 : decode yB 2 = .ok (.arraylength, 1) := by decide +kernel
theorem d3 : decode yB 3 = .ok (.isub, 1) := by decide +kernel
theorem d4 : decode yB 4 = .ok (.bipush 31, 2) := by decide +kernel
theorem d6 : decode yB 6 = .ok (.iushr, 1) := by decide +kernel
theorem d7 : decode yB 7 = .ok (.i2b, 1) := by decide +kernel
theorem d8 : decode yB 8 = .ok (.ireturn, 1) := by decide +kernel
def site : List Cond := []
def tab : Cond := tabOf yN yB 2 (some .byte) site
def P (d : Addr) (B : Cell) (args : Array Value) (s : State) : Prop := args = #[.ref d, .int (Int32.ofNat B.slots.size)] ∧ Arr .byte d B s
def E (r : Option Value) (s u : State) : Prop := XT.PureE (some (.int 0)) r s u
/-- an array as long as the number of chars: LATIN1 -/
theorem law (l : Launch) (d : Addr) (B : Cell) : Law l yN 2 2 0 0 yB 2 (some .byte) site (P d B) E [] 0 0 := by
  refine Law.of_walk (plainFor_of_name (by decide +kernel)) (by decide +kernel) (by decide +kernel) (by decide) (fun _ _ h => by rw [h.1]; rfl) (fun _ U U' hal hh h => ⟨h.1, h.2.mv hal hh⟩) (fun r U U' V V' h1 hal h2 h => XT.PureE.mv r U U' V V' h1 hal h2 h) ?_
  intro p e s m args below meth c s₁ X0 hexec hbytes hml hret hlk hnm hown hh0 W hP
  obtain ⟨rfl, hB⟩ := hP
  have hB0 := hB.mv X0.warmed.alike hh0
  have c1 : Steps p.tables e below (s₁.setTop (entryFrame m #[.ref d, .int (Int32.ofNat B.slots.size)] 2)) (s₁.setTop (mkF m 0 #[.val (.ref d), .val (.int (Int32.ofNat B.slots.size))] [])) := entry rfl
  have c2 : Steps p.tables e below (s₁.setTop (entryFrame m #[.ref d, .int (Int32.ofNat B.slots.size)] 2)) (s₁.setTop (mkF m 2 #[.val (.ref d), .val (.int (Int32.ofNat B.slots.size))] [.ref d, .int (Int32.ofNat B.slots.size)])) := c1.trans (by
    refine XS.iloadN X0.here hexec rfl (hb hbytes d0) rfl ?_
    refine XS.aloadN X0.here hexec rfl (hb hbytes d1) rfl rfl ?_
    exact Steps.refl _)
  have c3 : Steps p.tables e below (s₁.setTop (entryFrame m #[.ref d, .int (Int32.ofNat B.slots.size)] 2)) (s₁.setTop (mkF m 8 #[.val (.ref d), .val (.int (Int32.ofNat B.slots.size))] [.int (lo8 (ushr (Int32.ofNat B.slots.size - Int32.ofNat B.slots.size) 31))])) := c2.trans (by
    refine X0.alen hexec hB0 rfl rfl (hb hbytes d2) ?_
    refine XS.isub X0.here hexec rfl (hb hbytes d3) rfl ?_
    refine bipushV X0.here hexec rfl 31 (hb hbytes d4) (by decide) ?_
    refine iushr X0.here hexec rfl (hb hbytes d6) rfl ?_
    refine i2b X0.here hexec rfl (hb hbytes d7) rfl ?_
    exact Steps.refl _)
  have e0 : lo8 (ushr (Int32.ofNat B.slots.size - Int32.ofNat B.slots.size) 31) = 0 := by rw [Int32.sub_self]; decide
  rw [e0] at c3
  exact ⟨s₁, some (.int 0), _, _, _, X0, rfl, rfl, rfl, (fun h => by cases h), ⟨rfl, hh0⟩, fun fs hl => c3.trans (X0.ireturnOut hexec hret rfl (Or.inr (Or.inr (Or.inl rfl))) (hb hbytes d8) hl)⟩
end CodL
/-- the String at a is Latin-1 over a new byte[] (the heap's one new cell): the low bytes of the len chars of A from o on; every cell but a is kept -/
def Got (a : Addr) (D : Cell) (fV fC : Field) (A : Cell) (o len : Nat) (r : Option Value) (s u : State) : Prop := r = none ∧ ∃ D' V : Cell, Blank "java/lang/String" a D' u ∧ Same D D' [fV.slot, fC.slot] ∧ D'.slots[fV.slot]? = some (.ref s.heap.size) ∧ D'.slots[fC.slot]? = some (.int 0) ∧ Arr .byte s.heap.size V u ∧ V.vm = .none ∧ u.vm.findClass "[B" = some V.cls ∧ V.slots.size = len ∧ (∀ j, j < len → V.slots[j]? = some (.int (lo8 (cv A (o + j))))) ∧ (∀ (y : Addr) (c : Cell), y ≠ a → s.heap[y]? = some c → u.heap[y]? = some c) ∧ u.heap.size = s.heap.size + 1
theorem Got.mv {a : Addr} {D A : Cell} {fV fC : Field} {o len : Nat} : ∀ r (U U' V V' : State), U'.heap = U.heap → V.vm.Alike V'.vm → V'.heap = V.heap → Got a D fV fC A o len r U V → Got a D fV fC A o len r U' V' :=
  fun r U U' V V' h1 hal h2 ⟨e0, D', X, a1, a2, a3, a4, a5, a6, a7, a8, a9, a10, a11⟩ => ⟨e0, D', X, a1.mv hal h2, a2, by rw [h1]; exact a3, a4, by rw [h1]; exact a5.mv hal h2, a6, by rw [hal.findClass]; exact a7, a8, a9, by rw [h1, h2]; exact a10, by rw [h1, h2]; exact a11⟩
namespace New4
def yN : MethodName := ⟨"java/lang/String", "<init>", "([CIILjava/lang/Void;)V"⟩
abbrev yB : ByteArray := jdk_42_method_149_code
theorem d0 : decode yB 0 = .ok (.aload_n 0, 1) := by decide +kernel
theorem d1 : decode yB 1 = .ok (.invokespecial 1, 3) := by decide +kernel
theorem d4 : decode yB 4 = .ok (.iload_n 3, 1) := by decide +kernel
theorem d5 : decode yB 5 = .ok (.ifCond (.ne) 22, 3) := by decide +kernel
theorem d27 : decode yB 27 = .ok (.getstatic 38, 3) := by decide +kernel
theorem d30 : decode yB 30 = .ok (.ifCond (.eq) 28, 3) := by decide +kernel
theorem d33 : decode yB 33 = .ok (.aload_n 1, 1) := by decide +kernel
theorem d34 : decode yB 34 = .ok (.iload_n 2, 1) := by decide +kernel
theorem d35 : decode yB 35 = .ok (.iload_n 3, 1) := by decide +kernel
theorem d36 : decode yB 36 = .ok (.invokestatic 177, 3) := by decide +kernel
theorem d39 : decode yB 39 = .ok (.astore 5, 2) := by decide +kernel
theorem d41 : decode yB 41 = .ok (.aload_n 0, 1) := by decide +kernel
theorem d42 : decode yB 42 = .ok (.aload 5, 2) := by decide +kernel
theorem d44 : decode yB 44 = .ok (.iload_n 3, 1) := by decide +kernel
theorem d45 : decode yB 45 = .ok (.invokestatic 47, 3) := by decide +kernel
theorem d48 : decode yB 48 = .ok (.putfield 15, 3) := by decide +kernel
theorem d51 : decode yB 51 = .ok (.aload_n 0, 1) := by decide +kernel
theorem d52 : decode yB 52 = .ok (.aload 5, 2) := by decide +kernel
theorem d54 : decode yB 54 = .ok (.putfield 9, 3) := by decide +kernel
theorem d57 : decode yB 57 = .ok (.return_, 1) := by decide +kernel
def site : List Cond := [.fieldLink "java/lang/String" 38 "java/lang/String" "COMPACT_STRINGS" "Z", Cmp3.tab, CodL.tab, .laysFinal "java/lang/String" "java/lang/String" "value" "[B", .fieldLink "java/lang/String" 9 "java/lang/String" "value" "[B", .laysFinal "java/lang/String" "java/lang/String" "coder" "B", .fieldLink "java/lang/String" 15 "java/lang/String" "coder" "B"] ++ objW "java/lang/String" 1 ++ staticW "java/lang/String" 177 Cmp3.yN ++ staticW "java/lang/String" 47 CodL.yN
def tab : Cond := tabOf yN yB 6 none site
def P (a : Addr) (D : Cell) (fV fC : Field) (b : Addr) (A : Cell) (z : Int32) (o len : Nat) (args : Array Value) (s : State) : Prop := args = #[.ref a, .ref b, .int (Int32.ofNat o), .int (Int32.ofNat len), .null] ∧ Blank "java/lang/String" a D s ∧ Found "java/lang/String" "value" "[B" fV s ∧ Found "java/lang/String" "coder" "B" fC s ∧ Ch b A s ∧ StaticIs s "java/lang/String" "COMPACT_STRINGS" "Z" (.int z) ∧ ¬ z = 0 ∧ 0 < len ∧ o + len ≤ A.slots.size ∧ len ≤ 536870912 ∧ ∀ i, i < len → ¬ 255 < cv A (o + i)
def E (a : Addr) (D : Cell) (fV fC : Field) (A : Cell) (o len : Nat) (r : Option Value) (s u : State) : Prop := Got a D fV fC A o len r s u
/-- len > 0, no char of the range above 255: a Latin-1 String of their low bytes -/
theorem law (l : Launch) (a : Addr) (D : Cell) (fV fC : Field) (b : Addr) (A : Cell) (z : Int32) (o len : Nat) : Law l yN 5 4 2 35 yB 6 none site (P a D fV fC b A z o len) (E a D fV fC A o len) [⟨a, fC.slot⟩, ⟨a, fV.slot⟩] 1 len := by
  refine Law.of_walk (plainFor_of_name (by decide +kernel)) (by decide +kernel) (by decide +kernel) (by decide) (fun _ _ h => by rw [h.1]; rfl) (fun _ U U' hal hh h => ⟨h.1, h.2.1.mv hal hh, h.2.2.1.al hal, h.2.2.2.1.al hal, h.2.2.2.2.1.mv hal hh, h.2.2.2.2.2.1.there hal hh, h.2.2.2.2.2.2⟩) (fun r U U' V V' h1 hal h2 h => Got.mv r U U' V V' h1 hal h2 h) ?_
  intro p e s m args below meth c s₁ X0 hexec hbytes hml hret hlk hnm hown hh0 W hP
  obtain ⟨rfl, hB, f1, f2, hA, s1, hz, l0, l1, l2, hp⟩ := hP
  have a31 := hA.1.2.2.2
  have c1 : Steps p.tables e below (s₁.setTop (entryFrame m #[.ref a, .ref b, .int (Int32.ofNat o), .int (Int32.ofNat len), .null] 6)) (s₁.setTop (mkF m 0 #[.val (.ref a), .val (.ref b), .val (.int (Int32.ofNat o)), .val (.int (Int32.ofNat len)), .val .null, .unset] [])) := entry rfl
  have c2 : Steps p.tables e below (s₁.setTop (entryFrame m #[.ref a, .ref b, .int (Int32.ofNat o), .int (Int32.ofNat len), .null] 6)) (s₁.setTop (mkF m 1 #[.val (.ref a), .val (.ref b), .val (.int (Int32.ofNat o)), .val (.int (Int32.ofNat len)), .val .null, .unset] [.ref a])) := c1.trans (by
    refine XS.aloadN X0.here hexec rfl (hb hbytes d0) rfl rfl ?_
    exact Steps.refl _)
  obtain ⟨T3, X3, q3, st3⟩ := X0.oinit hexec hown (wks W (objW "java/lang/String" 1)) (g := (mkF m 1 #[.val (.ref a), .val (.ref b), .val (.int (Int32.ofNat o)), .val (.int (Int32.ofNat len)), .val .null, .unset] [.ref a])) rfl (by rw [hml]; rfl) (rest := []) rfl (hb hbytes d1) (W := 0) (by show 2 * 0 + 0 ≤ _; decide) (Nat.le_of_ble_eq_true rfl) (Nat.le_of_ble_eq_true rfl)
  have hh3 := q3.trans hh0
  have c4 : Steps p.tables e below (s₁.setTop (entryFrame m #[.ref a, .ref b, .int (Int32.ofNat o), .int (Int32.ofNat len), .null] 6)) (T3.setTop (mkF m 27 #[.val (.ref a), .val (.ref b), .val (.int (Int32.ofNat o)), .val (.int (Int32.ofNat len)), .val .null, .unset] [])) := (c2.trans (st3 _ (Steps.refl _))).trans (by
    refine XS.iloadN X3.here hexec rfl (hb hbytes d4) rfl ?_
    refine XS.ifYes X3.here hexec rfl (pc0 := 5) rfl (hb hbytes d5) rfl (i0_ne_t (nz32 (by omega) l0)) (by decide) rfl ?_
    exact Steps.refl _)
  obtain ⟨T5, X5, q5, st5⟩ := X3.sget hexec hown (wk W (.fieldLink "java/lang/String" 38 "java/lang/String" "COMPACT_STRINGS" "Z")) s1 (fun _ _ h => by rw [hh3]; exact h) (g := (mkF m 27 #[.val (.ref a), .val (.ref b), .val (.int (Int32.ofNat o)), .val (.int (Int32.ofNat len)), .val .null, .unset] [])) rfl (hb hbytes d27)
  have hh5 := q5.trans hh3
  have c6 : Steps p.tables e below (s₁.setTop (entryFrame m #[.ref a, .ref b, .int (Int32.ofNat o), .int (Int32.ofNat len), .null] 6)) (T5.setTop (mkF m 30 #[.val (.ref a), .val (.ref b), .val (.int (Int32.ofNat o)), .val (.int (Int32.ofNat len)), .val .null, .unset] [.int z])) := c4.trans (st5 _ (Steps.refl _))
  have c7 : Steps p.tables e below (s₁.setTop (entryFrame m #[.ref a, .ref b, .int (Int32.ofNat o), .int (Int32.ofNat len), .null] 6)) (T5.setTop (mkF m 36 #[.val (.ref a), .val (.ref b), .val (.int (Int32.ofNat o)), .val (.int (Int32.ofNat len)), .val .null, .unset] [.int (Int32.ofNat len), .int (Int32.ofNat o), .ref b])) := c6.trans (by
    refine XS.ifNo X5.here hexec rfl (hb hbytes d30) rfl (i0_eq_f hz) ?_
    refine XS.aloadN X5.here hexec rfl (hb hbytes d33) rfl rfl ?_
    refine XS.iloadN X5.here hexec rfl (hb hbytes d34) rfl ?_
    refine XS.iloadN X5.here hexec rfl (hb hbytes d35) rfl ?_
    exact Steps.refl _)
  obtain ⟨v8, T8, X8, E8, g8⟩ := X5.callS hexec (Cmp3.law l b A o len) hown (wks W (staticW "java/lang/String" 177 Cmp3.yN)) (wk W Cmp3.tab) (W := 0) (Nat.le_of_ble_eq_true rfl) (Nat.le_of_ble_eq_true rfl) (Nat.le_refl _) (by show 0 + len ≤ len; omega) (g := (mkF m 36 #[.val (.ref a), .val (.ref b), .val (.int (Int32.ofNat o)), .val (.int (Int32.ofNat len)), .val .null, .unset] [.int (Int32.ofNat len), .int (Int32.ofNat o), .ref b])) rfl (by rw [hml]; rfl) c7 (argsL := [.ref b, .int (Int32.ofNat o), .int (Int32.ofNat len)]) (rest := []) rfl rfl (by show 2 * 0 + 0 ≤ _; decide) (hb hbytes d36) (⟨rfl, hA.mv X5.warmed.alike hh5, l1, l2, hp⟩)
  obtain ⟨e8, z8⟩ := E8
  obtain ⟨rfl, N, n1, n2, n3, n4, n5, n6⟩ := NewArr.mv _ T5 s _ _ hh5.symm (Vm.Alike.refl _) rfl e8
  rw [hh5] at z8
  have hB1 := hB.keep X8.warmed.alike (n6 _ _ hB.1)
  have hne : s.heap.size ≠ a := (Nat.ne_of_lt (Array.getElem?_eq_some_iff.mp hB.1).1).symm
  have c9 : Steps p.tables e below (s₁.setTop (entryFrame m #[.ref a, .ref b, .int (Int32.ofNat o), .int (Int32.ofNat len), .null] 6)) (T8.setTop (mkF m 39 #[.val (.ref a), .val (.ref b), .val (.int (Int32.ofNat o)), .val (.int (Int32.ofNat len)), .val .null, .unset] [.ref s.heap.size])) := g8
  have c10 : Steps p.tables e below (s₁.setTop (entryFrame m #[.ref a, .ref b, .int (Int32.ofNat o), .int (Int32.ofNat len), .null] 6)) (T8.setTop (mkF m 45 #[.val (.ref a), .val (.ref b), .val (.int (Int32.ofNat o)), .val (.int (Int32.ofNat len)), .val .null, .val (.ref s.heap.size)] [.int (Int32.ofNat N.slots.size), .ref s.heap.size, .ref a])) := by
    have hc : Steps p.tables e below (s₁.setTop (entryFrame m #[.ref a, .ref b, .int (Int32.ofNat o), .int (Int32.ofNat len), .null] 6)) (T8.setTop (mkF m 45 #[.val (.ref a), .val (.ref b), .val (.int (Int32.ofNat o)), .val (.int (Int32.ofNat len)), .val .null, .val (.ref s.heap.size)] [.int (Int32.ofNat len), .ref s.heap.size, .ref a])) := c9.trans (by
      refine XS.astore X8.here hexec rfl (hb hbytes d39) rfl rfl rfl ?_
      refine XS.aloadN X8.here hexec rfl (hb hbytes d41) rfl rfl ?_
      refine XS.aload X8.here hexec rfl (hb hbytes d42) rfl rfl ?_
      refine XS.iloadN X8.here hexec rfl (hb hbytes d44) rfl ?_
      exact Steps.refl _)
    rw [n4]; exact hc
  obtain ⟨v11, T11, X11, E11, g11⟩ := X8.callS hexec (CodL.law l s.heap.size N) hown (wks W (staticW "java/lang/String" 47 CodL.yN)) (wk W CodL.tab) (W := 1) (Nat.le_of_ble_eq_true rfl) (Nat.le_of_ble_eq_true rfl) (Nat.le_refl _) (by show 0 + len + 0 ≤ len; omega) (g := (mkF m 45 #[.val (.ref a), .val (.ref b), .val (.int (Int32.ofNat o)), .val (.int (Int32.ofNat len)), .val .null, .val (.ref s.heap.size)] [.int (Int32.ofNat N.slots.size), .ref s.heap.size, .ref a])) rfl (by rw [hml]; rfl) c10 (argsL := [.ref s.heap.size, .int (Int32.ofNat N.slots.size)]) (rest := [.ref a]) rfl rfl (by show 2 * 0 + (1 + 0) ≤ _; decide) (hb hbytes d45) (⟨rfl, n1⟩)
  obtain ⟨rfl, q11⟩ := E11
  have hB11 := hB1.mv (X8.warmed.alike.symm.trans X11.warmed.alike) q11
  have c12 : Steps p.tables e below (s₁.setTop (entryFrame m #[.ref a, .ref b, .int (Int32.ofNat o), .int (Int32.ofNat len), .null] 6)) (T11.setTop (mkF m 48 #[.val (.ref a), .val (.ref b), .val (.int (Int32.ofNat o)), .val (.int (Int32.ofNat len)), .val .null, .val (.ref s.heap.size)] [.int 0, .ref a])) := g11
  obtain ⟨T13, X13, p13, bl13, sl13, st13⟩ := X11.finit hexec hown (wk W (.fieldLink "java/lang/String" 15 "java/lang/String" "coder" "B")) (Or.inr ⟨_, (wk W (.laysFinal "java/lang/String" "java/lang/String" "coder" "B"))⟩) (Or.inl ⟨rfl, hnm⟩) f2 (Or.inl rfl) hB11 (t := .byte) (by decide +kernel) rfl (g := (mkF m 48 #[.val (.ref a), .val (.ref b), .val (.int (Int32.ofNat o)), .val (.int (Int32.ofNat len)), .val .null, .val (.ref s.heap.size)] [.int 0, .ref a])) rfl (rest := []) rfl (hb hbytes d48)
  have c14 : Steps p.tables e below (s₁.setTop (entryFrame m #[.ref a, .ref b, .int (Int32.ofNat o), .int (Int32.ofNat len), .null] 6)) (T13.setTop (mkF m 54 #[.val (.ref a), .val (.ref b), .val (.int (Int32.ofNat o)), .val (.int (Int32.ofNat len)), .val .null, .val (.ref s.heap.size)] [.ref s.heap.size, .ref a])) := (c12.trans (st13 _ (Steps.refl _))).trans (by
    refine XS.aloadN X13.here hexec rfl (hb hbytes d51) rfl rfl ?_
    refine XS.aload X13.here hexec rfl (hb hbytes d52) rfl rfl ?_
    exact Steps.refl _)
  obtain ⟨T15, X15, p15, bl15, sl15, st15⟩ := X13.finit hexec hown (wk W (.fieldLink "java/lang/String" 9 "java/lang/String" "value" "[B")) (Or.inr ⟨_, (wk W (.laysFinal "java/lang/String" "java/lang/String" "value" "[B"))⟩) (Or.inl ⟨rfl, hnm⟩) f1 (Or.inl rfl) bl13 (t := (.array .byte)) (by decide +kernel) rfl (g := (mkF m 54 #[.val (.ref a), .val (.ref b), .val (.int (Int32.ofNat o)), .val (.int (Int32.ofNat len)), .val .null, .val (.ref s.heap.size)] [.ref s.heap.size, .ref a])) rfl (rest := []) rfl (hb hbytes d54)
  have c16 : Steps p.tables e below (s₁.setTop (entryFrame m #[.ref a, .ref b, .int (Int32.ofNat o), .int (Int32.ofNat len), .null] 6)) (T15.setTop (mkF m 57 #[.val (.ref a), .val (.ref b), .val (.int (Int32.ofNat o)), .val (.int (Int32.ofNat len)), .val .null, .val (.ref s.heap.size)] [])) := c14.trans (st15 _ (Steps.refl _))
  have ap := apart (Or.inr ⟨_, (wk W (.laysFinal "java/lang/String" "java/lang/String" "value" "[B"))⟩) (Or.inr ⟨_, (wk W (.laysFinal "java/lang/String" "java/lang/String" "coder" "B"))⟩) f1 f2 (t₁ := .array .byte) (t₂ := .byte) (by decide +kernel) (by decide +kernel) (by decide)
  have al := X8.warmed.alike.symm.trans X15.warmed.alike
  have n7 : T11.heap[s.heap.size]? = some N := by rw [q11]; exact n1.1
  exact ⟨T15, none, _, _, _, X15, by simp, rfl, by omega, (fun _ => rfl), ⟨rfl, _, N, bl15, ((Same.refl D _).set _ (by simp)).set _ (by simp), sl15, (Cell.slots_setSlot_ne _ ap).trans sl13, n1.keep al (p15.other hne (p13.other hne n7)), n2, by rw [al.findClass]; exact n3, n4, n5, fun y c h1 h2 => p15.other h1 (p13.other h1 (by rw [q11]; exact n6 y c h2)), by rw [p15.2.2, p13.2.2, q11]; exact z8⟩, fun fs hl => c16.trans (X15.returnOut hexec hret (hb hbytes d57) hl)⟩
end New4
namespace New1
def yN : MethodName := ⟨"java/lang/String", "<init>", "([C)V"⟩
abbrev yB : ByteArray := jdk_42_method_3_code
theorem d0 : decode yB 0 = .ok (.aload_n 0, 1) := by decide +kernel
theorem d1 : decode yB 1 = .ok (.aload_n 1, 1) := by decide +kernel
theorem d2 : decode yB 2 = .ok (.iconst 0, 1) := by decide +kernel
theorem d3 : decode yB 3 = .ok (.aload_n 1, 1) := by decide +kernel
theorem d4 : decode yB 4 = .ok (.arraylength, 1) := by decide +kernel
theorem d5 : decode yB 5 = .ok (.aconst_null, 1) := by decide +kernel
theorem d6 : decode yB 6 = .ok (.invokespecial 27, 3) := by decide +kernel
theorem d9 : decode yB 9 = .ok (.return_, 1) := by decide +kernel
def site : List Cond := [New4.tab] ++ initW "java/lang/String" 27 New4.yN
def tab : Cond := tabOf yN yB 2 none site
def P (a : Addr) (D : Cell) (fV fC : Field) (b : Addr) (A : Cell) (z : Int32) (args : Array Value) (s : State) : Prop := args = #[.ref a, .ref b] ∧ Blank "java/lang/String" a D s ∧ Found "java/lang/String" "value" "[B" fV s ∧ Found "java/lang/String" "coder" "B" fC s ∧ Ch b A s ∧ StaticIs s "java/lang/String" "COMPACT_STRINGS" "Z" (.int z) ∧ ¬ z = 0 ∧ 0 < A.slots.size ∧ A.slots.size ≤ 536870912 ∧ ∀ i, i < A.slots.size → ¬ 255 < cv A i
def E (a : Addr) (D : Cell) (fV fC : Field) (A : Cell) (r : Option Value) (s u : State) : Prop := Got a D fV fC A 0 A.slots.size r s u
/-- new String(chars), not empty, no char above 255: a Latin-1 String of their low bytes -/
theorem law (l : Launch) (a : Addr) (D : Cell) (fV fC : Field) (b : Addr) (A : Cell) (z : Int32) : Law l yN 2 1 3 52 yB 2 none site (P a D fV fC b A z) (E a D fV fC A) [⟨a, fC.slot⟩, ⟨a, fV.slot⟩] 1 A.slots.size := by
  refine Law.of_walk (plainFor_of_name (by decide +kernel)) (by decide +kernel) (by decide +kernel) (by decide) (fun _ _ h => by rw [h.1]; rfl) (fun _ U U' hal hh h => ⟨h.1, h.2.1.mv hal hh, h.2.2.1.al hal, h.2.2.2.1.al hal, h.2.2.2.2.1.mv hal hh, h.2.2.2.2.2.1.there hal hh, h.2.2.2.2.2.2⟩) (fun r U U' V V' h1 hal h2 h => Got.mv r U U' V V' h1 hal h2 h) ?_
  intro p e s m args below meth c s₁ X0 hexec hbytes hml hret hlk hnm hown hh0 W hP
  obtain ⟨rfl, hB, f1, f2, hA, s1, hz, l0, l2, hp⟩ := hP
  have c1 : Steps p.tables e below (s₁.setTop (entryFrame m #[.ref a, .ref b] 2)) (s₁.setTop (mkF m 0 #[.val (.ref a), .val (.ref b)] [])) := entry rfl
  have c2 : Steps p.tables e below (s₁.setTop (entryFrame m #[.ref a, .ref b] 2)) (s₁.setTop (mkF m 6 #[.val (.ref a), .val (.ref b)] [.null, .int (Int32.ofNat A.slots.size), .int 0, .ref b, .ref a])) := c1.trans (by
    refine XS.aloadN X0.here hexec rfl (hb hbytes d0) rfl rfl ?_
    refine XS.aloadN X0.here hexec rfl (hb hbytes d1) rfl rfl ?_
    refine iconstV X0.here hexec rfl 0 (hb hbytes d2) (by decide) ?_
    refine XS.aloadN X0.here hexec rfl (hb hbytes d3) rfl rfl ?_
    refine X0.alen hexec (hA.1.mv X0.warmed.alike hh0) rfl rfl (hb hbytes d4) ?_
    refine XS.aconstNull X0.here hexec rfl (hb hbytes d5) ?_
    exact Steps.refl _)
  obtain ⟨v3, T3, X3, E3, g3⟩ := X0.callN hexec (New4.law l a D fV fC b A z 0 A.slots.size) rfl hown (wks W (initW "java/lang/String" 27 New4.yN)) (W New4.tab (by simp only [site, List.mem_cons, List.mem_append, true_or, or_true])) (W := 0) (Nat.le_of_ble_eq_true rfl) (Nat.le_of_ble_eq_true rfl) (Nat.le_refl _) (by show 0 + A.slots.size ≤ A.slots.size; omega) (g := (mkF m 6 #[.val (.ref a), .val (.ref b)] [.null, .int (Int32.ofNat A.slots.size), .int (Int32.ofNat 0), .ref b, .ref a])) rfl (by rw [hml]; rfl) c2 (argsL := [.ref b, .int (Int32.ofNat 0), .int (Int32.ofNat A.slots.size), .null]) (rest := []) rfl rfl (by show 2 * 0 + 0 ≤ _; decide) (hb hbytes d6) (⟨rfl, hB.mv X0.warmed.alike hh0, f1.al X0.warmed.alike, f2.al X0.warmed.alike, hA.mv X0.warmed.alike hh0, s1.there X0.warmed.alike hh0, hz, l0, by omega, l2, fun i hi => by rw [Nat.zero_add]; exact hp i hi⟩)
  have e0 := Got.mv _ s₁ s _ _ hh0.symm (Vm.Alike.refl _) rfl E3
  obtain rfl := e0.1
  have c4 : Steps p.tables e below (s₁.setTop (entryFrame m #[.ref a, .ref b] 2)) (T3.setTop (mkF m 9 #[.val (.ref a), .val (.ref b)] [])) := g3
  exact ⟨T3, none, _, _, _, X3, by simp, rfl, by omega, (fun _ => rfl), e0, fun fs hl => c4.trans (X3.returnOut hexec hret (hb hbytes d9) hl)⟩
theorem pays {l : Launch} {R : Room} {p : Program} {e : Env} {below : List Frame} {s : State} {sargs : Array Value} {len W : Nat} (a : Addr) (D : Cell) (fV fC : Field) (b : Addr) (A : Cell) (z : Int32) (htab : tab.before sargs s = true) (hfr : 4 ≤ R.frames) (hlo : W + 65 ≤ R.locals) :
    Back l R p e below s sargs yN len W (fun A₁ a₁ => A₁.cells + 1 ≤ R.cells ∧ A₁.slots + A.slots.size ≤ R.slots ∧ P a D fV fC b A z a₁ A₁.U) (fun A₁ _ v₁ B₁ => E a D fV fC A v₁ A₁.U B₁.U ∧ B₁.locs = A₁.locs ++ [⟨a, fC.slot⟩, ⟨a, fV.slot⟩] ∧ B₁.cells = A₁.cells + 1 ∧ B₁.slots = A₁.slots + A.slots.size) :=
  (law l a D fV fC b A z).pays htab hfr (by omega)
end New1
end StrChars
namespace StrChars.Road
open Jvm Sem ClassFile Op Lib Jvm.Stand Jvm.Free Jvm.Free.XT
open Jvm.Lib.Cold (StaticIs)
abbrev ST : String := "java/lang/String"
/-- every table word that New1's law asks, flat -/
abbrev words : List Jvm.Cond := [.code New1.yN New1.yB 2 none, .initialized ST, .methodLink ST 27 New4.yN, .instanceMethod New4.yN,
  .code New4.yN New4.yB 6 none, .fieldLink ST 38 ST "COMPACT_STRINGS" "Z", .laysFinal ST ST "value" "[B", .fieldLink ST 9 ST "value" "[B", .laysFinal ST ST "coder" "B", .fieldLink ST 15 ST "coder" "B",
  .methodLink ST 1 Lib.objectInit, .instanceMethod Lib.objectInit, .code Lib.objectInit ⟨#[0xb1]⟩ 1 none, .methodLink ST 177 Cmp3.yN, .static Cmp3.yN, .methodLink ST 47 CodL.yN, .static CodL.yN,
  .code Cmp3.yN Cmp3.yB 6 (some (.array .byte)), .initialized U16, .arrayClass .byte, .methodLink U16 115 Cmp5.yN, .static Cmp5.yN, .code Cmp5.yN Cmp5.yB 7 (some .int), .code CodL.yN CodL.yB 2 (some .byte)]
theorem tab_of {a : Array Value} {s : State} (h : ∀ w ∈ words, w.before a s = true) : New1.tab.before a s = true := by
  have h5 : Cmp5.tab.before a s = true := unparts (wk h (.code Cmp5.yN Cmp5.yB 7 (some .int))) (wks h (.initialized Cmp5.yN.cls :: Cmp5.site))
  have hc : CodL.tab.before a s = true := unparts (wk h (.code CodL.yN CodL.yB 2 (some .byte))) (wks h (.initialized CodL.yN.cls :: CodL.site))
  have q5 : ∀ w ∈ Cmp5.tab :: words, w.before a s = true := fun w hw => (List.mem_cons.mp hw).elim (fun e => e ▸ h5) (h w)
  have h3 : Cmp3.tab.before a s = true := unparts (wk q5 (.code Cmp3.yN Cmp3.yB 6 (some (.array .byte)))) (wks q5 (.initialized Cmp3.yN.cls :: Cmp3.site))
  have q3 : ∀ w ∈ Cmp3.tab :: CodL.tab :: words, w.before a s = true := fun w hw => (List.mem_cons.mp hw).elim (fun e => e ▸ h3) fun hw => (List.mem_cons.mp hw).elim (fun e => e ▸ hc) (h w)
  have h4 : New4.tab.before a s = true := unparts (wk q3 (.code New4.yN New4.yB 6 none)) (wks q3 (.initialized New4.yN.cls :: New4.site))
  have q4 : ∀ w ∈ New4.tab :: words, w.before a s = true := fun w hw => (List.mem_cons.mp hw).elim (fun e => e ▸ h4) (h w)
  exact unparts (wk q4 (.code New1.yN New1.yB 2 none)) (wks q4 (.initialized New1.yN.cls :: New1.site))
/-- the words ride from the start Z to the walk's own state -/
theorem moved {Z s : State} {a0 args : Array Value} (hZ : Z.Warmed39 s.vm) (hw : ∀ d ∈ words, d.before a0 Z = true) : ∀ d ∈ words, d.before args s = true := fun d hd => by
  have q := hw d hd
  have t : ∀ d ∈ words, d = .arrayClass .byte ∨ (d.onTables && d.keepsFace) = true := by decide +kernel
  rcases t d hd with rfl | t
  · exact RoadKit.mvA hZ q
  · exact RoadKit.mv hZ q t
/-- WHAT COMES BACK, over the tables of the start Z: h the heap at the call, h' behind it -/
def Q (Z : State) (x : Addr) (A : Cell) (h : Heap) (v : Option Value) (h' : Heap) (L : List Loc) : Prop := v = none ∧ (∀ y ∈ L, y.base = x) ∧ RoadKit.Keep h h' [x] ∧ h'.size = h.size + 1 ∧ RoadKit.Exa Z h' x ST ∧ RoadKit.Fld Z h' x ST "value" "[B" (.ref h.size) ∧ RoadKit.Fld Z h' x ST "coder" "B" (.int 0) ∧
  (∃ V : Cell, RoadKit.Arr Z h' h.size V .byte ∧ V.vm = .none ∧ Z.vm.findClass "[B" = some V.cls ∧ V.slots.size = A.slots.size ∧ ∀ j, j < A.slots.size → V.slots[j]? = some (.int (lo8 (cv A j)))) ∧
  ∀ (O n d : String) (w : Value), RoadKit.Fld Z h x O n d w → RoadKit.slotOf Z O n d ≠ RoadKit.slotOf Z ST "value" "[B" → RoadKit.slotOf Z O n d ≠ RoadKit.slotOf Z ST "coder" "B" → RoadKit.Fld Z h' x O n d w
/-- **new String(chars) AT A CALL, IN THE ROAD'S FORM**: for specialBack behind newO: x the fresh String, b the char[] with the cell A -/
theorem back {p : Program} {l : Launch} {e : Env} {R : Room} {s : State} {args : Array Value} {below : List Frame} {len W : Nat} {Z : State} {a0 : Array Value} {h : Heap} (hZ : Z.Warmed39 s.vm) (hw : ∀ d ∈ words, d.before a0 Z = true) {kI : Nat} (wi : (Jvm.Cond.instantiable ST kI).before a0 Z = true)
    {x b : Addr} {A : Cell} {z : Int32} {v0 c0 : Value} (E : RoadKit.Exa Z h x ST) (V : RoadKit.Fld Z h x ST "value" "[B" v0) (C : RoadKit.Fld Z h x ST "coder" "B" c0) (K : RoadKit.Arr Z h b A .char) (hty : Typed .char A) (S : RoadKit.Sta Z h ST "COMPACT_STRINGS" "Z" (.int z)) (hz : ¬ z = 0)
    (l0 : 0 < A.slots.size) (l2 : A.slots.size ≤ 536870912) (hp : ∀ i, i < A.slots.size → ¬ 255 < cv A i) (hfr : 4 ≤ R.frames) (hlo : W + 65 ≤ R.locals) :
    Back l R p e below s args New1.yN len W (fun P a => a = #[.ref x, .ref b] ∧ P.U.heap = h ∧ P.cells + 1 ≤ R.cells ∧ P.slots + A.slots.size ≤ R.slots)
      (fun P _ v B => ∃ L, Q Z x A h v B.U.heap L ∧ B.locs = P.locs ++ L ∧ B.cells = P.cells + 1 ∧ B.slots = P.slots + A.slots.size) := by
  intro m meth c P g ig mk a X hg hsize hdg hW hn hp'
  obtain ⟨rfl, rfl, r1, r2⟩ := hp'
  have al : Z.vm.Alike P.U.vm := hZ.alike.trans X.warmed.alike
  obtain ⟨D, cfV, kV, iV, fV, hD, gV, stV, knV, obV, asV, slV⟩ := id V
  obtain ⟨D', cfC, kC, iC, fC, hD', gC, stC, -, -, asC, slC⟩ := id C
  cases hD.symm.trans hD'
  obtain ⟨D2, kD, e1, e2, e3, e4, e5⟩ := id E
  cases hD.symm.trans e1
  obtain ⟨c2, k2, i1, i2, i3, -⟩ := Cond.instantiable_spec wi
  cases e2.symm.trans i1
  cases e3.symm.trans i2
  obtain ⟨kU, u1, u2⟩ := al.2.2 _ _ e3
  have hB : Blank ST x D P.U := ⟨hD, ⟨knV, fun q hq => by rw [hq] at obV; cases obV⟩, by rw [al.findClass]; exact e2, kU, u1, by rw [u2]; exact i3, by rw [u2]; exact e5 i3⟩
  have F1 : Found ST "value" "[B" fV P.U := ⟨SBG.found_only al ⟨cfV, kV, iV, gV⟩, stV⟩
  have F2 : Found ST "coder" "B" fC P.U := ⟨SBG.found_only al ⟨cfC, kC, iC, gC⟩, stC⟩
  have hA : Ch b A P.U := ⟨⟨K.1, State.isArrayOf_alike al K.2.1, K.2.2, by omega⟩, hty⟩
  have hS : StaticIs P.U ST "COMPACT_STRINGS" "Z" (.int z) := by
    obtain ⟨cfS, iS, kS, fS, st, cS, t1, t2, t3, t4, t5, t6, t7⟩ := S
    exact StaticIs.there (s := { Z with heap := P.U.heap }) ⟨cfS, iS, kS, fS, st, cS, t1, t2, t3, t4, t5, (fun q => by rw [q] at t6; cases t6), t7⟩ al rfl
  obtain ⟨v, B, X', ⟨⟨hv, E', V', q1, q2, q3, q4, q5, q6, q7, q8, q9, q10, q11⟩, hl, hc, hs⟩, st⟩ := New1.pays x D fV fC b A z (tab_of (moved hZ hw)) hfr hlo m meth c P g ig mk _ X hg hsize hdg hW hn ⟨r1, r2, rfl, hB, F1, F2, hA, hS, hz, l0, l2, hp⟩
  have al' : Z.vm.Alike B.U.vm := hZ.alike.trans X'.warmed.alike
  have hsz : E'.slots.size = D.slots.size := by
    obtain ⟨-, -, -, kB, w1, w2, w3⟩ := q1
    obtain ⟨kB', y1, y2⟩ := al'.2.2 _ _ e3
    rw [q2.2.1] at w1
    cases w1.symm.trans y1
    rw [w3, e5 i3, y2]
  refine ⟨v, B, X', ⟨_, ⟨hv, ?_, ⟨by omega, fun y cy hy hn' => q10 y cy (by simpa using hn') hy, fun y cy hy => ?_⟩, q11, ⟨E', _, q1.1, by rw [q2.2.1]; exact e2, by rw [q2.2.1]; exact e3, by rw [q2.1]; exact obV, fun _ => by rw [hsz]; exact e5 i3⟩,
    ⟨E', cfV, kV, iV, fV, q1.1, gV, stV, by rw [q2.1]; exact knV, by rw [q2.1]; exact obV, by rw [q2.2.1]; exact asV, q3⟩, ⟨E', cfC, kC, iC, fC, q1.1, gC, stC, by rw [q2.1]; exact knV, by rw [q2.1]; exact obV, by rw [q2.2.1]; exact asC, q4⟩,
    ⟨V', ⟨q5.1, State.isArrayOf_alike al'.symm q5.2.1, q5.2.2.1⟩, q6, by rw [← al'.findClass]; exact q7, q8, fun j hj => by have := q9 j hj; rwa [Nat.zero_add] at this⟩, fun O n d w F n1 n2 => ?_⟩, hl, hc, hs⟩, st⟩
  · intro y hy
    simp only [List.mem_cons, List.not_mem_nil, or_false] at hy
    rcases hy with rfl | rfl <;> rfl
  · by_cases q : y = x
    · subst q
      cases hD.symm.trans hy
      exact ⟨E', q1.1, q2.2.1, q2.1, hsz⟩
    · exact ⟨cy, q10 y cy q hy, rfl, rfl, rfl⟩
  · obtain ⟨D3, cf, k, i, f, g1, g2, g3, g4, g5, g6, g7⟩ := F
    cases hD.symm.trans g1
    simp only [RoadKit.slotOf, g2, gV, gC, Option.map_some, Option.getD_some] at n1 n2
    exact ⟨E', cf, k, i, f, q1.1, g2, g3, by rw [q2.1]; exact g4, by rw [q2.1]; exact g5, by rw [q2.2.1]; exact g6, by rw [q2.2.2 f.slot (by simp [n1, n2])]; exact g7⟩
end StrChars.Road
namespace StrChars.Road
open Jvm Sem ClassFile Op Lib Jvm.Stand Jvm.Free Jvm.Free.XT
/-- WHAT COMES BACK, the byte[] as a list of values -/
def QA (Z : State) (x : Addr) (zn : Int32) (cs : List Int32) (h : Heap) (v : Option Value) (h' : Heap) (L : List Loc) : Prop := v = none ∧ (∀ y ∈ L, y.base = x) ∧ RoadKit.Keep h h' [x] ∧ h'.size = h.size + 1 ∧ RoadKit.Exa Z h' x ST ∧ RoadKit.Fld Z h' x ST "value" "[B" (.ref h.size) ∧ RoadKit.Fld Z h' x ST "coder" "B" (.int 0) ∧
  (∃ kb, Z.vm.findClass "[B" = some kb ∧ RoadKit.Arv Z h' h.size kb .byte zn (cs.map fun c => .int (lo8 c)) (.int 0)) ∧
  ∀ (O n d : String) (w : Value), RoadKit.Fld Z h x O n d w → RoadKit.slotOf Z O n d ≠ RoadKit.slotOf Z ST "value" "[B" → RoadKit.slotOf Z O n d ≠ RoadKit.slotOf Z ST "coder" "B" → RoadKit.Fld Z h' x O n d w
/-- **new String(chars) AT A CALL, THE ARRAYS AS LISTS**: the char[] at b holds cs, not empty, no char above 255 -/
theorem backArv {p : Program} {l : Launch} {e : Env} {R : Room} {s : State} {args : Array Value} {below : List Frame} {len W : Nat} {Z : State} {a0 : Array Value} {h : Heap} (hZ : Z.Warmed39 s.vm) (hw : ∀ d ∈ words, d.before a0 Z = true) {kI : Nat} (wi : (Jvm.Cond.instantiable ST kI).before a0 Z = true)
    {x b : Addr} {k : ClassId} {zn z : Int32} {cs : List Int32} {dv v0 c0 : Value} (E : RoadKit.Exa Z h x ST) (V : RoadKit.Fld Z h x ST "value" "[B" v0) (C : RoadKit.Fld Z h x ST "coder" "B" c0) (K : RoadKit.Arv Z h b k .char zn (cs.map Value.int) dv) (S : RoadKit.Sta Z h ST "COMPACT_STRINGS" "Z" (.int z)) (hz : ¬ z = 0)
    (hlen : zn.toNatClampNeg = cs.length) (h0 : 0 < cs.length) (hbig : cs.length ≤ 536870912) (hall : ∀ c ∈ cs, ¬ 255 < c) (hfr : 4 ≤ R.frames) (hlo : W + 65 ≤ R.locals) :
    Back l R p e below s args New1.yN len W (fun P a => a = #[.ref x, .ref b] ∧ P.U.heap = h ∧ P.cells + 1 ≤ R.cells ∧ P.slots + cs.length ≤ R.slots)
      (fun P _ v B => ∃ L, QA Z x zn cs h v B.U.heap L ∧ B.locs = P.locs ++ L ∧ B.cells = P.cells + 1 ∧ B.slots = P.slots + cs.length) := by
  obtain ⟨A, K1, K2, K3, K4, K5, K6⟩ := K
  have e : A.slots.size = cs.length := K3.trans hlen
  have hat : ∀ (i : Nat) (hi : i < cs.length), A.slots[i]? = some (.int cs[i]) := fun i hi => by rw [K5 i (by omega)]; simp [List.getD_eq_getElem?_getD, hi]
  have hcv : ∀ (i : Nat) (hi : i < cs.length), cv A i = cs[i] := fun i hi => by unfold cv; rw [hat i hi]
  have hty : Typed .char A := fun i v hv => by
    have hi : i < A.slots.size := (Array.getElem?_eq_some_iff.mp hv).1
    have q := K5 i hi
    rw [hv] at q
    rw [Option.some.inj q]
    exact K6 i hi
  refine Back.mono (back hZ hw wi E V C K1 hty S hz (by omega) (by omega) (fun i hi => by rw [hcv i (by omega)]; exact hall _ (List.getElem_mem _)) hfr hlo) (fun P a hp => ⟨hp.1, hp.2.1, hp.2.2.1, by rw [e]; exact hp.2.2.2⟩) (fun P a v B hp hq => ?_)
  obtain ⟨L, ⟨q1, q2, q3, q4, q5, q6, q7, ⟨V', v1, v2, v3, v4, v5⟩, q9⟩, hl, hc, hs⟩ := hq
  refine ⟨L, ⟨q1, q2, q3, q4, q5, q6, q7, ⟨V'.cls, v3, V', v1, rfl, by rw [v4, e, hlen], K4, fun i hi => ?_, fun i hi => ?_⟩, q9⟩, hl, hc, by rw [hs, e]⟩
  · have hi' : i < cs.length := by omega
    rw [v5 i (by omega), hcv i hi']; simp [List.getD_eq_getElem?_getD, hi']
  · have hi' : i < cs.length := by omega
    simp only [List.getD_eq_getElem?_getD, List.getElem?_map, List.getElem?_eq_getElem hi', Option.map_some, Option.getD_some]
    exact fits_lo8 _
end StrChars.Road
namespace StrChars.Road
open Jvm Sem ClassFile Op Lib Jvm.Stand Jvm.Free Jvm.Free.XT
/-- WHAT COMES BACK, in the writer's own shape -/
def QV (Z : State) (x : Addr) (N : Int32) (bs : List Int32) (h : Heap) (n0 : Nat) (v : Option Value) (h' : Heap) (L : List Loc) : Prop := v = none ∧ RoadKit.Fr n0 L ∧ RoadKit.Keep h h' [x] ∧ RoadKit.Exa Z h' x ST ∧ RoadKit.Fld Z h' x ST "coder" "B" (.int 0) ∧
  ∃ (t : Addr) (kb : ClassId), n0 ≤ t ∧ h.size ≤ t ∧ ¬ t = x ∧ RoadKit.Fld Z h' x ST "value" "[B" (.ref t) ∧ RoadKit.Arv Z h' t kb .byte N (bs.map Value.int) (.int 0)
/-- **new String(chars) AT A CALL, FOR THE WRITER**: a char[] of n known ints, each 0 to 255 -/
theorem backV {p : Program} {l : Launch} {e : Env} {R : Room} {s : State} {args : Array Value} {below : List Frame} {len W : Nat} {Z : State} {a0 : Array Value} {h : Heap} (hZ : Z.Warmed39 s.vm) (hw : ∀ d ∈ words, d.before a0 Z = true) {kI : Nat} (wi : (Jvm.Cond.instantiable ST kI).before a0 Z = true)
    {x b : Addr} {kC : ClassId} {cs bs : List Int32} {d v0 c0 : Value} {z N : Int32} {n n0 : Nat} (hx0 : n0 ≤ x) (hh0 : n0 ≤ h.size) (E : RoadKit.Exa Z h x ST) (V : RoadKit.Fld Z h x ST "value" "[B" v0) (C : RoadKit.Fld Z h x ST "coder" "B" c0) (K : RoadKit.Arv Z h b kC .char N (cs.map Value.int) d) (S : RoadKit.Sta Z h ST "COMPACT_STRINGS" "Z" (.int z)) (hz : ¬ z = 0)
    (hn : cs.length = n) (hN : N = Int32.ofNat n) (l0 : 0 < n) (l2 : n ≤ 4000) (hp : ∀ c ∈ cs, ¬ c < 0 ∧ ¬ (255 : Int32) < c) (hb : bs = cs.map (fun c => c.toInt8.toInt32)) (hfr : 4 ≤ R.frames) (hlo : W + 65 ≤ R.locals) :
    Back l R p e below s args (⟨"java/lang/String", "<init>", "([C)V"⟩ : MethodName) len W (fun P a => a = #[.ref x, .ref b] ∧ P.U.heap = h ∧ P.cells + 1 ≤ R.cells ∧ P.slots + n ≤ R.slots)
      (fun P _ v B => ∃ L, QV Z x N bs h n0 v B.U.heap L ∧ B.locs = P.locs ++ L ∧ B.cells = P.cells + 1 ∧ B.slots = P.slots + n) := by
  subst hn hN hb
  refine Back.mono (backArv hZ hw wi E V C K S hz (n32 (by omega)) l0 (by omega) (fun c hc => (hp c hc).2) hfr hlo) (fun P a hp => hp) (fun P a v B hp hq => ?_)
  obtain ⟨L, ⟨q1, q2, q3, q4, q5, q6, q7, ⟨kb, v1, v2⟩, q9⟩, hl, hc, hs⟩ := hq
  exact ⟨L, ⟨q1, fun y hy => by rw [q2 y hy]; exact hx0, q3, q5, q7, h.size, kb, hh0, Nat.le_refl _, Nat.ne_of_gt E.lt, q6, by rw [List.map_map]; exact v2⟩, hl, hc, hs⟩
end StrChars.Road
end Jvm.Pilot.@@N@@
namespace Jvm.Pilot.@@N@@
open Jvm Jvm.ClassFile Sem Op Lib Jvm.Free Jvm.Stand Jvm.LawKit Jvm.RoadKit Bundle Jvm.Pilot.@@N@@.Jvm.D
theorem d2_0 : decode method_2_code 0 = .ok (.iconst 2, 1) := by decide +kernel
theorem d2_1 : decode method_2_code 1 = .ok (.newarray .char, 2) := by decide +kernel
theorem d2_3 : decode method_2_code 3 = .ok (.astore_n 1, 1) := by decide +kernel
theorem d2_4 : decode method_2_code 4 = .ok (.aload_n 1, 1) := by decide +kernel
theorem d2_5 : decode method_2_code 5 = .ok (.iconst 0, 1) := by decide +kernel
theorem d2_6 : decode method_2_code 6 = .ok (.iload_n 0, 1) := by decide +kernel
theorem d2_7 : decode method_2_code 7 = .ok (.sipush 255, 3) := by decide +kernel
theorem d2_10 : decode method_2_code 10 = .ok (.iand, 1) := by decide +kernel
theorem d2_11 : decode method_2_code 11 = .ok (.i2c, 1) := by decide +kernel
theorem d2_12 : decode method_2_code 12 = .ok (.castore, 1) := by decide +kernel
theorem d2_13 : decode method_2_code 13 = .ok (.aload_n 1, 1) := by decide +kernel
theorem d2_14 : decode method_2_code 14 = .ok (.iconst 1, 1) := by decide +kernel
theorem d2_15 : decode method_2_code 15 = .ok (.iload_n 0, 1) := by decide +kernel
theorem d2_16 : decode method_2_code 16 = .ok (.bipush 8, 2) := by decide +kernel
theorem d2_18 : decode method_2_code 18 = .ok (.iushr, 1) := by decide +kernel
theorem d2_19 : decode method_2_code 19 = .ok (.sipush 255, 3) := by decide +kernel
theorem d2_22 : decode method_2_code 22 = .ok (.iand, 1) := by decide +kernel
theorem d2_23 : decode method_2_code 23 = .ok (.i2c, 1) := by decide +kernel
theorem d2_24 : decode method_2_code 24 = .ok (.castore, 1) := by decide +kernel
theorem d2_25 : decode method_2_code 25 = .ok (.new 7, 3) := by decide +kernel
theorem d2_28 : decode method_2_code 28 = .ok (.dup, 1) := by decide +kernel
theorem d2_29 : decode method_2_code 29 = .ok (.aload_n 1, 1) := by decide +kernel
theorem d2_30 : decode method_2_code 30 = .ok (.invokespecial 9, 3) := by decide +kernel
theorem d2_33 : decode method_2_code 33 = .ok (.areturn, 1) := by decide +kernel
theorem d30_0 : decode jdk_30_method_1_code 0 = .ok (.aload_n 0, 1) := by decide +kernel
theorem d30_1 : decode jdk_30_method_1_code 1 = .ok (.invokespecial 1, 3) := by decide +kernel
theorem d30_4 : decode jdk_30_method_1_code 4 = .ok (.return_, 1) := by decide +kernel
theorem d58_0 : decode prog_58_method_1_code 0 = .ok (.aload_n 0, 1) := by decide +kernel
theorem d58_1 : decode prog_58_method_1_code 1 = .ok (.invokespecial 3, 3) := by decide +kernel
theorem d58_4 : decode prog_58_method_1_code 4 = .ok (.aload_n 0, 1) := by decide +kernel
theorem d58_5 : decode prog_58_method_1_code 5 = .ok (.aload_n 1, 1) := by decide +kernel
theorem d58_6 : decode prog_58_method_1_code 6 = .ok (.putfield 9, 3) := by decide +kernel
theorem d58_9 : decode prog_58_method_1_code 9 = .ok (.aload_n 0, 1) := by decide +kernel
theorem d58_10 : decode prog_58_method_1_code 10 = .ok (.aload_n 2, 1) := by decide +kernel
theorem d58_11 : decode prog_58_method_1_code 11 = .ok (.putfield 13, 3) := by decide +kernel
theorem d58_14 : decode prog_58_method_1_code 14 = .ok (.aload_n 0, 1) := by decide +kernel
theorem d58_15 : decode prog_58_method_1_code 15 = .ok (.aload_n 3, 1) := by decide +kernel
theorem d58_16 : decode prog_58_method_1_code 16 = .ok (.putfield 16, 3) := by decide +kernel
theorem d58_19 : decode prog_58_method_1_code 19 = .ok (.return_, 1) := by decide +kernel
theorem d585_0 : decode prog_58_method_5_code 0 = .ok (.aload_n 0, 1) := by decide +kernel
theorem d585_1 : decode prog_58_method_5_code 1 = .ok (.getfield 13, 3) := by decide +kernel
theorem d585_4 : decode prog_58_method_5_code 4 = .ok (.ifnull 10, 3) := by decide +kernel
theorem d585_7 : decode prog_58_method_5_code 7 = .ok (.aload_n 0, 1) := by decide +kernel
theorem d585_8 : decode prog_58_method_5_code 8 = .ok (.getfield 13, 3) := by decide +kernel
theorem d585_11 : decode prog_58_method_5_code 11 = .ok (.goto 7, 3) := by decide +kernel
theorem d585_14 : decode prog_58_method_5_code 14 = .ok (.aload_n 0, 1) := by decide +kernel
theorem d585_15 : decode prog_58_method_5_code 15 = .ok (.getfield 9, 3) := by decide +kernel
theorem d585_18 : decode prog_58_method_5_code 18 = .ok (.areturn, 1) := by decide +kernel
theorem d149_0 : decode jdk_42_method_149_code 0 = .ok (.aload_n 0, 1) := by decide +kernel
theorem d149_1 : decode jdk_42_method_149_code 1 = .ok (.invokespecial 1, 3) := by decide +kernel
theorem d149_4 : decode jdk_42_method_149_code 4 = .ok (.iload_n 3, 1) := by decide +kernel
theorem d149_5 : decode jdk_42_method_149_code 5 = .ok (.ifCond .ne 22, 3) := by decide +kernel
theorem d149_8 : decode jdk_42_method_149_code 8 = .ok (.aload_n 0, 1) := by decide +kernel
theorem d149_9 : decode jdk_42_method_149_code 9 = .ok (.ldc 7, 2) := by decide +kernel
theorem d149_11 : decode jdk_42_method_149_code 11 = .ok (.getfield 9, 3) := by decide +kernel
theorem d149_14 : decode jdk_42_method_149_code 14 = .ok (.putfield 9, 3) := by decide +kernel
theorem d149_17 : decode jdk_42_method_149_code 17 = .ok (.aload_n 0, 1) := by decide +kernel
theorem d149_18 : decode jdk_42_method_149_code 18 = .ok (.ldc 7, 2) := by decide +kernel
theorem d149_20 : decode jdk_42_method_149_code 20 = .ok (.getfield 15, 3) := by decide +kernel
theorem d149_23 : decode jdk_42_method_149_code 23 = .ok (.putfield 15, 3) := by decide +kernel
theorem d149_26 : decode jdk_42_method_149_code 26 = .ok (.return_, 1) := by decide +kernel
theorem d3_0 : decode jdk_42_method_3_code 0 = .ok (.aload_n 0, 1) := by decide +kernel
theorem d3_1 : decode jdk_42_method_3_code 1 = .ok (.aload_n 1, 1) := by decide +kernel
theorem d3_2 : decode jdk_42_method_3_code 2 = .ok (.iconst 0, 1) := by decide +kernel
theorem d3_3 : decode jdk_42_method_3_code 3 = .ok (.aload_n 1, 1) := by decide +kernel
theorem d3_4 : decode jdk_42_method_3_code 4 = .ok (.arraylength, 1) := by decide +kernel
theorem d3_5 : decode jdk_42_method_3_code 5 = .ok (.aconst_null, 1) := by decide +kernel
theorem d3_6 : decode jdk_42_method_3_code 6 = .ok (.invokespecial 27, 3) := by decide +kernel
theorem d3_9 : decode jdk_42_method_3_code 9 = .ok (.return_, 1) := by decide +kernel
theorem pn0 : plainName "com/example/attestry/attestry/saml/StatusInnermostCodePinLaw" = true := by first | (simp [plainName, overriddenIn]; done) | decide +kernel
theorem pn1 : plainName "com/example/attestry/attestry/saml/Status" = true := by first | (simp [plainName, overriddenIn]; done) | decide +kernel
theorem pd0 : parseMethodDescriptor "([C)V" = some ⟨[(.array .char)], none⟩ := by decide +kernel
theorem pd1 : parseMethodDescriptor "()V" = some ⟨[], none⟩ := by decide +kernel
theorem pd2 : parseMethodDescriptor "([CIILjava/lang/Void;)V" = some ⟨[(.array .char), .int, .int, (.object "java/lang/Void")], none⟩ := by decide +kernel
theorem pd3 : parseMethodDescriptor "(I)Ljava/lang/String;" = some ⟨[.int], some (.object "java/lang/String")⟩ := by decide +kernel
theorem pd4 : parseMethodDescriptor "(Ljava/lang/String;Ljava/lang/String;Ljava/lang/String;)V" = some ⟨[(.object "java/lang/String"), (.object "java/lang/String"), (.object "java/lang/String")], none⟩ := by decide +kernel
theorem pd5 : parseMethodDescriptor "()Ljava/lang/String;" = some ⟨[], some (.object "java/lang/String")⟩ := by decide +kernel
theorem own_wS {a0 : Array Value} {Z : State} (hw : ∀ d ∈ tables_1, d.before a0 Z = true) : ∀ d ∈ Bundle.stringAtoms, d.before a0 Z = true := by
  intro d hd
  simp only [Bundle.stringAtoms, List.mem_cons, List.not_mem_nil, or_false] at hd
  rcases hd with rfl | rfl | rfl | rfl | rfl | rfl | rfl
  · exact hw _ (List.mem_of_getElem? (i := 7) rfl)
  · exact hw _ (List.mem_of_getElem? (i := 6) rfl)
  · exact hw _ (List.mem_of_getElem? (i := 23) rfl)
  · exact hw _ (List.mem_of_getElem? (i := 33) rfl)
  · exact hw _ (List.mem_of_getElem? (i := 31) rfl)
  · exact hw _ (List.mem_of_getElem? (i := 58) rfl)
  · exact hw _ (List.mem_of_getElem? (i := 59) rfl)
theorem own_EW {a0 : Array Value} {Z : State} (hw : ∀ d ∈ tables_1, d.before a0 Z = true) : EW Z a0 consts_1 := (EW.cons (hw _ (List.mem_of_getElem? (i := 57) rfl)) (by decide +kernel) EW.nil)
theorem own_255 (y : Int32) : ¬ nar .char ((y &&& (255 : Int32)).toUInt32.toUInt16.toUInt32.toInt32) < 0 ∧ ¬ (255 : Int32) < nar .char ((y &&& (255 : Int32)).toUInt32.toUInt16.toUInt32.toInt32) := by
  have e1 : (y &&& 255).toInt = y.toInt % 2 ^ 8 := Jvm.Kit.i32_mask y 255 (k := 8) (by decide) (by decide)
  have e2 : nar .char ((y &&& (255 : Int32)).toUInt32.toUInt16.toUInt32.toInt32) = y &&& 255 := by
    rw [i2c_mask]; show (y &&& 255).toUInt32.toUInt16.toUInt32.toInt32 = _; exact i2c_mask y
  rw [e2, Int32.lt_iff_toInt_lt, Int32.lt_iff_toInt_lt, e1, show (0 : Int32).toInt = 0 from rfl, show (255 : Int32).toInt = 255 from rfl]; omega

def Q2 (Z : State) (x : Int32) (G1 : Int32) (h0 : Heap) (n0 : Nat) (v : Option Value) (h : Heap) (L : List Loc) : Prop := (∃ r : Addr, v = some (.ref r)) ∧ Fr n0 L ∧ Keep h0 h []
theorem ef2 (m : MethodId) (x : Int32) : entryFrame m #[(.int x)] 2 = mkF m 0 #[.val (.int x), .unset] [] := by first | (simp [entryFrame, mkF, argsToLocals, Value.category, List.replicate]; done) | rfl
set_option maxRecDepth 65536 in
set_option maxHeartbeats 40000000 in
theorem rm2 (l : Launch) (Z : State) (a0 : Array Value) (hw : ∀ d ∈ tables_1, d.before a0 Z = true) (ws : List Jvm.Cond) (x : Int32) (G1 : Int32) (h0 : Heap) (n0 : Nat) (Z0 : n0 ≤ h0.size) (O2 : Sta Z Z.heap "java/lang/String" "COMPACT_STRINGS" "Z" (.int G1)) (P5 : ¬ G1 = 0) (X00 : Old Z n0 h0) :
    MetFree l (⟨"com/example/attestry/attestry/saml/StatusInnermostCodePinLaw", "drawn", "(I)Ljava/lang/String;"⟩ : MethodName) (head1 (Jvm.Cond.code (⟨"com/example/attestry/attestry/saml/StatusInnermostCodePinLaw", "drawn", "(I)Ljava/lang/String;"⟩ : MethodName) method_2_code 2 (some (.object "java/lang/String")) :: ws) ({ frames := 4, cells := 3, slots := 8, locals := 66 } : Room)) (fun aa UU => aa = #[(.int x)] ∧ Z.Warmed39 UU.vm ∧ UU.heap = h0) (fun _ _ _ _ _ => True) (fun _ UU oo UT => ∃ vv LL, oo = .returned vv ∧ Q2 Z x G1 h0 n0 vv UT.heap LL ∧ FrameEnd UU oo UT LL ({ frames := 4, cells := 3, slots := 8, locals := 66 } : Room).cells ({ frames := 4, cells := 3, slots := 8, locals := 66 } : Room).slots) := by
  refine MetFree.of_bodySF (plainFor_of_name pn0) hisR ?_
  intro p e s m args below meth c s₁ Bd hml0 hP hK
  obtain ⟨rfl, hZ, hh⟩ := hP
  have hx := Bd.exec
  have hby := Bd.bytes
  have hml : c.maxLocals = 2 := hml0
  have hown : s.vm.findClass "com/example/attestry/attestry/saml/StatusInnermostCodePinLaw" = some m.cls := findClass_of_methodNamed Bd.named
  have hnm := (name_of_methodNamed Bd.named Bd.method).1
  have X0 : Stand p l e ({ frames := 4, cells := 3, slots := 8, locals := 66 } : Room) s m #[(.int x)] below meth c s₁ [] 0 0 := Stand.of_body Bd
  have e0 : s₁.heap = h0 := by rw [← hh, Bd.state]; rfl
  have N0 := Fr.nil n0
  have c0 : Steps p.tables e below (s₁.setTop (entryFrame m #[(.int x)] 2)) (s₁.setTop (mkF m 0 #[.val (.int x), .unset] [])) := castTop (ef2 m x) (Steps.refl _)
  show ∃ s₂ oo, Steps p.tables e below (s₁.setTop (entryFrame m #[(.int x)] 2)) s₂ ∧ _ ∧ _ ∧ _
  generalize s₁.setTop (entryFrame m #[(.int x)] 2) = S0 at c0 ⊢
  have c1 : Steps p.tables e below S0 (s₁.setTop (mkF m 1 #[.val (.int x), .unset] [(.int (2 : Int32))])) := by
    refine c0.trans ?_
    show Steps p.tables e below (s₁.setTop (mkF m 0 #[.val (.int x), .unset] [])) _
    refine XS.iconst X0.here hx rfl (hb hby d2_0) ?_
    exact Steps.refl _
  obtain ⟨T2, h2, kA2, X2, e2, E2, A2, st2⟩ := newP X0 hx hZ (hw _ (List.mem_of_getElem? (i := 4) rfl)) e0 (g := (mkF m 1 #[.val (.int x), .unset] [(.int (2 : Int32))])) rfl (hb hby d2_1) rfl (by decide : ¬ ((2 : Int32) < (0 : Int32))) (cap := 2) (by decide) (by decide) (by decide) (by decide)
  obtain ⟨b2, g2⟩ : ∃ z, z = h0.size := ⟨_, rfl⟩
  rw [← g2] at A2 st2
  have c2 : Steps p.tables e below S0 (T2.setTop (mkF m 3 #[.val (.int x), .unset] [(.ref b2)])) := by
    refine c1.trans ?_
    show Steps p.tables e below (s₁.setTop (mkF m 1 #[.val (.int x), .unset] [(.int (2 : Int32))])) _
    refine st2 _ ?_
    exact Steps.refl _
  have V2 := Arv.new A2 (by decide)
  have gb : n0 ≤ b2 := Nat.le_trans Z0 (Nat.le_of_eq g2.symm)
  have O1 := X00.ext E2
  have K1 := (Keep.refl h0 []).ext E2
  have zb : h0.size ≤ b2 := Nat.le_of_eq g2.symm
  have c3 : Steps p.tables e below S0 (T2.setTop (mkF m 12 #[.val (.int x), .val (.ref b2)] [(.int ((x &&& (255 : Int32)).toUInt32.toUInt16.toUInt32.toInt32)), (.int (0 : Int32)), (.ref b2)])) := by
    refine c2.trans ?_
    show Steps p.tables e below (T2.setTop (mkF m 3 #[.val (.int x), .unset] [(.ref b2)])) _
    refine XS.astoreN X2.here hx rfl (hb hby d2_3) rfl rfl (l' := #[.val (.int x), .val (.ref b2)]) rfl ?_
    show Steps p.tables e below (T2.setTop (mkF m 4 #[.val (.int x), .val (.ref b2)] [])) _
    refine XS.aloadN X2.here hx rfl (hb hby d2_4) rfl rfl ?_
    show Steps p.tables e below (T2.setTop (mkF m 5 #[.val (.int x), .val (.ref b2)] [(.ref b2)])) _
    refine XS.iconst X2.here hx rfl (hb hby d2_5) ?_
    show Steps p.tables e below (T2.setTop (mkF m 6 #[.val (.int x), .val (.ref b2)] [(.int (0 : Int32)), (.ref b2)])) _
    refine XS.iloadN X2.here hx rfl (hb hby d2_6) rfl ?_
    show Steps p.tables e below (T2.setTop (mkF m 7 #[.val (.int x), .val (.ref b2)] [(.int x), (.int (0 : Int32)), (.ref b2)])) _
    refine XS.sipush X2.here hx rfl (hb hby d2_7) ?_
    show Steps p.tables e below (T2.setTop (mkF m 10 #[.val (.int x), .val (.ref b2)] [(.int (255 : Int32)), (.int x), (.int (0 : Int32)), (.ref b2)])) _
    refine XS.iand X2.here hx rfl (hb hby d2_10) rfl ?_
    show Steps p.tables e below (T2.setTop (mkF m 11 #[.val (.int x), .val (.ref b2)] [(.int (x &&& (255 : Int32))), (.int (0 : Int32)), (.ref b2)])) _
    refine XS.i2c X2.here hx rfl (hb hby d2_11) rfl ?_
    exact Steps.refl _
  have Vp4 : Arv Z _ b2 kA2 .char (2 : Int32) [(.int 0)] (.int 0) := V2.pad (pad_rep [] (.int 0) 1)
  obtain ⟨cl4, Ar4, qr4, S4, M4, Hs4, U4⟩ := Vp4
  obtain ⟨T4, h4, X4, e4, W4, st4⟩ := stC X2 hx hZ e2 Ar4 (j := (0 : Int32)) (inb_of S4 ⟨(by decide), (by decide)⟩) (g := (mkF m 12 #[.val (.int x), .val (.ref b2)] [(.int ((x &&& (255 : Int32)).toUInt32.toUInt16.toUInt32.toInt32)), (.int (0 : Int32)), (.ref b2)])) rfl rfl (hb hby d2_12)
  have V4 : Arv Z h4 b2 kA2 .char (2 : Int32) [(.int (nar .char ((x &&& (255 : Int32)).toUInt32.toUInt16.toUInt32.toInt32)))] (.int 0) := Arv.set Ar4 qr4 S4 M4 Hs4 U4 (fits_nar_char _) W4 0 rfl (Nat.le_of_ble_eq_true rfl)
  have c4 : Steps p.tables e below S0 (T4.setTop (mkF m 13 #[.val (.int x), .val (.ref b2)] [])) := by
    refine c3.trans ?_
    show Steps p.tables e below (T2.setTop (mkF m 12 #[.val (.int x), .val (.ref b2)] [(.int ((x &&& (255 : Int32)).toUInt32.toUInt16.toUInt32.toInt32)), (.int (0 : Int32)), (.ref b2)])) _
    refine st4 _ ?_
    exact Steps.refl _
  have Na := Fr.snoc X4 N0 gb
  have O2' := O1.wr W4 gb
  have K2 := K1.wr W4 (Or.inr zb)
  have c5 : Steps p.tables e below S0 (T4.setTop (mkF m 24 #[.val (.int x), .val (.ref b2)] [(.int ((((x.toUInt32 >>> ((8 : Int32) &&& 31).toUInt32).toInt32) &&& (255 : Int32)).toUInt32.toUInt16.toUInt32.toInt32)), (.int (1 : Int32)), (.ref b2)])) := by
    refine c4.trans ?_
    show Steps p.tables e below (T4.setTop (mkF m 13 #[.val (.int x), .val (.ref b2)] [])) _
    refine XS.aloadN X4.here hx rfl (hb hby d2_13) rfl rfl ?_
    show Steps p.tables e below (T4.setTop (mkF m 14 #[.val (.int x), .val (.ref b2)] [(.ref b2)])) _
    refine XS.iconst X4.here hx rfl (hb hby d2_14) ?_
    show Steps p.tables e below (T4.setTop (mkF m 15 #[.val (.int x), .val (.ref b2)] [(.int (1 : Int32)), (.ref b2)])) _
    refine XS.iloadN X4.here hx rfl (hb hby d2_15) rfl ?_
    show Steps p.tables e below (T4.setTop (mkF m 16 #[.val (.int x), .val (.ref b2)] [(.int x), (.int (1 : Int32)), (.ref b2)])) _
    refine XS.bipush X4.here hx rfl (hb hby d2_16) ?_
    show Steps p.tables e below (T4.setTop (mkF m 18 #[.val (.int x), .val (.ref b2)] [(.int (8 : Int32)), (.int x), (.int (1 : Int32)), (.ref b2)])) _
    refine XS.iushr X4.here hx rfl (hb hby d2_18) rfl ?_
    show Steps p.tables e below (T4.setTop (mkF m 19 #[.val (.int x), .val (.ref b2)] [(.int ((x.toUInt32 >>> ((8 : Int32) &&& 31).toUInt32).toInt32)), (.int (1 : Int32)), (.ref b2)])) _
    refine XS.sipush X4.here hx rfl (hb hby d2_19) ?_
    show Steps p.tables e below (T4.setTop (mkF m 22 #[.val (.int x), .val (.ref b2)] [(.int (255 : Int32)), (.int ((x.toUInt32 >>> ((8 : Int32) &&& 31).toUInt32).toInt32)), (.int (1 : Int32)), (.ref b2)])) _
    refine XS.iand X4.here hx rfl (hb hby d2_22) rfl ?_
    show Steps p.tables e below (T4.setTop (mkF m 23 #[.val (.int x), .val (.ref b2)] [(.int (((x.toUInt32 >>> ((8 : Int32) &&& 31).toUInt32).toInt32) &&& (255 : Int32))), (.int (1 : Int32)), (.ref b2)])) _
    refine XS.i2c X4.here hx rfl (hb hby d2_23) rfl ?_
    exact Steps.refl _
  have Vp6 : Arv Z _ b2 kA2 .char (2 : Int32) [(.int (nar .char ((x &&& (255 : Int32)).toUInt32.toUInt16.toUInt32.toInt32))), (.int 0)] (.int 0) := V4.pad (pad_rep [(.int (nar .char ((x &&& (255 : Int32)).toUInt32.toUInt16.toUInt32.toInt32)))] (.int 0) 1)
  obtain ⟨cl6, Ar6, qr6, S6, M6, Hs6, U6⟩ := Vp6
  obtain ⟨T6, h6, X6, e6, W6, st6⟩ := stC X4 hx hZ e4 Ar6 (j := (1 : Int32)) (inb_of S6 ⟨(by decide), (by decide)⟩) (g := (mkF m 24 #[.val (.int x), .val (.ref b2)] [(.int ((((x.toUInt32 >>> ((8 : Int32) &&& 31).toUInt32).toInt32) &&& (255 : Int32)).toUInt32.toUInt16.toUInt32.toInt32)), (.int (1 : Int32)), (.ref b2)])) rfl rfl (hb hby d2_24)
  have V6 : Arv Z h6 b2 kA2 .char (2 : Int32) [(.int (nar .char ((x &&& (255 : Int32)).toUInt32.toUInt16.toUInt32.toInt32))), (.int (nar .char ((((x.toUInt32 >>> ((8 : Int32) &&& 31).toUInt32).toInt32) &&& (255 : Int32)).toUInt32.toUInt16.toUInt32.toInt32)))] (.int 0) := Arv.set Ar6 qr6 S6 M6 Hs6 U6 (fits_nar_char _) W6 1 rfl (Nat.le_of_ble_eq_true rfl)
  have c6 : Steps p.tables e below S0 (T6.setTop (mkF m 25 #[.val (.int x), .val (.ref b2)] [])) := by
    refine c5.trans ?_
    show Steps p.tables e below (T4.setTop (mkF m 24 #[.val (.int x), .val (.ref b2)] [(.int ((((x.toUInt32 >>> ((8 : Int32) &&& 31).toUInt32).toInt32) &&& (255 : Int32)).toUInt32.toUInt16.toUInt32.toInt32)), (.int (1 : Int32)), (.ref b2)])) _
    refine st6 _ ?_
    exact Steps.refl _
  have Nb := Fr.snoc X6 Na gb
  have O3 := O2'.wr W6 gb
  have K3 := K2.wr W6 (Or.inr zb)
  obtain ⟨T7, h7, X7, e7, E7, A7, D7, -, st7⟩ := newO X6 hx hZ hown (hw _ (List.mem_of_getElem? (i := 5) rfl)) (hw _ (List.mem_of_getElem? (i := 6) rfl)) (hw _ (List.mem_of_getElem? (i := 7) rfl)) e6 (g := (mkF m 25 #[.val (.int x), .val (.ref b2)] [])) rfl (hb hby d2_25) (by decide) (by decide)
  obtain ⟨b7, g7⟩ : ∃ z, z = h6.size := ⟨_, rfl⟩
  rw [← g7] at A7 D7 st7
  have c7 : Steps p.tables e below S0 (T7.setTop (mkF m 28 #[.val (.int x), .val (.ref b2)] [(.ref b7)])) := by
    refine c6.trans ?_
    show Steps p.tables e below (T6.setTop (mkF m 25 #[.val (.int x), .val (.ref b2)] [])) _
    refine st7 _ ?_
    exact Steps.refl _
  have O4 := O3.ext E7
  have K4 := K3.ext E7
  have Zs : n0 ≤ h6.size := Nat.le_trans Z0 K3.1
  have gs : n0 ≤ b7 := Nat.le_trans Zs (Nat.le_of_eq g7.symm)
  have zs : h0.size ≤ b7 := Nat.le_trans K3.1 (Nat.le_of_eq g7.symm)
  have Fv : Fld Z h7 b7 "java/lang/String" "value" "[B" .null := D7 (Or.inr (hw _ (List.mem_of_getElem? (i := 33) rfl))) (ty := (.array .byte)) (by decide)
  have Fc : Fld Z h7 b7 "java/lang/String" "coder" "B" (.int 0) := D7 (Or.inr (hw _ (List.mem_of_getElem? (i := 31) rfl))) (ty := .byte) (by decide)
  have hws : ∀ d ∈ StrChars.Road.words, d.before a0 Z = true := fun d hd => hw d ((by decide +kernel : ∀ d ∈ StrChars.Road.words, d ∈ tables_1) d hd)
  have hp : ∀ c ∈ ([nar .char ((x &&& (255 : Int32)).toUInt32.toUInt16.toUInt32.toInt32), nar .char (((x.toUInt32 >>> ((8 : Int32) &&& 31).toUInt32).toInt32 &&& (255 : Int32)).toUInt32.toUInt16.toUInt32.toInt32)] : List Int32), ¬ c < 0 ∧ ¬ (255 : Int32) < c := by
    intro c hc
    simp only [List.mem_cons, List.not_mem_nil, or_false] at hc
    rcases hc with rfl | rfl
    · exact own_255 _
    · exact own_255 _
  have c8 : Steps p.tables e below S0 (T7.setTop (mkF m 30 #[.val (.int x), .val (.ref b2)] [(.ref b2), (.ref b7), (.ref b7)])) := by
    refine c7.trans ?_
    show Steps p.tables e below (T7.setTop (mkF m 28 #[.val (.int x), .val (.ref b2)] [(.ref b7)])) _
    refine XS.dup X7.here hx rfl (hb hby d2_28) rfl rfl ?_
    show Steps p.tables e below (T7.setTop (mkF m 29 #[.val (.int x), .val (.ref b2)] [(.ref b7), (.ref b7)])) _
    refine XS.aloadN X7.here hx rfl (hb hby d2_29) rfl rfl ?_
    exact Steps.refl _
  obtain ⟨_, _, ⟨T9, L9, k9, n9⟩, -, X9, ⟨Lc9, hQ9, l9, y9, z9⟩, st9⟩ := X7.specialBack hx (y := (⟨"java/lang/String", "<init>", "([C)V"⟩ : MethodName)) rfl hown (mvT hZ (hw _ (List.mem_of_getElem? (i := 8) rfl))) (mvT hZ (hw _ (List.mem_of_getElem? (i := 9) rfl))) (mvT hZ (hw _ (List.mem_of_getElem? (i := 10) rfl))) (by decide) (StrChars.Road.backV (W := 1) hZ hws (kI := 4) (hw _ (List.mem_of_getElem? (i := 6) rfl)) (cs := ([nar .char ((x &&& (255 : Int32)).toUInt32.toUInt16.toUInt32.toInt32), nar .char (((x.toUInt32 >>> ((8 : Int32) &&& 31).toUInt32).toInt32 &&& (255 : Int32)).toUInt32.toUInt16.toUInt32.toInt32)] : List Int32)) (bs := ([nar .char ((x &&& (255 : Int32)).toUInt32.toUInt16.toUInt32.toInt32), nar .char (((x.toUInt32 >>> ((8 : Int32) &&& 31).toUInt32).toInt32 &&& (255 : Int32)).toUInt32.toUInt16.toUInt32.toInt32)] : List Int32).map (fun c => c.toInt8.toInt32)) (n := 2) gs (Nat.le_trans Zs E7.1) A7 Fv Fc (V6.ext E7) (O2.ext O4.2) P5 rfl rfl (by decide) (by decide) hp rfl (by decide) (by decide)) (g := (mkF m 30 #[.val (.int x), .val (.ref b2)] [(.ref b2), (.ref b7), (.ref b7)])) rfl (by rw [hml]; rfl) (Steps.refl _) (a := b7) (argsL := [(.ref b2)]) (rest := [(.ref b7)]) (lenOf pd0 rfl) rfl (by show 2 * 0 + _ ≤ _; exact Nat.le_of_eq rfl) (hb hby d2_30) (fun _ _ => ⟨rfl, e7, (by decide : 2 + 1 ≤ _), (by decide : 6 + 2 ≤ _)⟩)
  dsimp only [Pt.U, Pt.locs, Pt.cells, Pt.slots] at X9 l9 y9 z9 st9 hQ9
  subst l9 y9 z9
  obtain ⟨rfl, N5, K5, -⟩ := hQ9
  have c9 : Steps p.tables e below S0 (T9.setTop (mkF m 33 #[.val (.int x), .val (.ref b2)] [(.ref b7)])) := by
    refine c8.trans ?_
    show Steps p.tables e below (T7.setTop (mkF m 30 #[.val (.int x), .val (.ref b2)] [(.ref b2), (.ref b7), (.ref b7)])) _
    refine st9.trans ?_
    exact Steps.refl _
  obtain ⟨fs, hr, hrun, hended, hW, hsame⟩ := X9.leave (v := some (.ref b7)) (fun h => by rw [Bd.returns] at h; cases h)
  refine ⟨_, _, c9.trans ?_, hrun, hended, _, _, rfl, ?_, ⟨_, rfl⟩, hW, hsame.mono (by decide) (by decide)⟩
  · show Steps p.tables e below (T9.setTop (mkF m 33 #[.val (.int x), .val (.ref b2)] [(.ref b7)])) _
    exact retA X9 hx Bd.returns rfl rfl (hb hby d2_33) hr
  · show Q2 Z x G1 h0 n0 _ T9.heap _
    exact ⟨⟨_, rfl⟩, Fr.app Nb N5, K4.trans K5 (fun x hx => by cases List.mem_singleton.mp hx; exact Or.inr zs)⟩
def Q30 (Z : State) (a : Addr) (h0 : Heap) (n0 : Nat) (v : Option Value) (h : Heap) (L : List Loc) : Prop := v = none ∧ Fr n0 L ∧ h = h0
theorem ef30 (m : MethodId) (a : Addr) : entryFrame m #[(.ref a)] 1 = mkF m 0 #[.val (.ref a)] [] := by first | (simp [entryFrame, mkF, argsToLocals, Value.category, List.replicate]; done) | rfl
set_option maxRecDepth 65536 in
set_option maxHeartbeats 40000000 in
theorem rm30 (l : Launch) (Z : State) (a0 : Array Value) (hw : ∀ d ∈ tables_1, d.before a0 Z = true) (ws : List Jvm.Cond) (a : Addr) (h0 : Heap) (n0 : Nat) (Z0 : n0 ≤ h0.size)  :
    MetFree l (⟨"java/lang/Record", "<init>", "()V"⟩ : MethodName) (head1 (Jvm.Cond.code (⟨"java/lang/Record", "<init>", "()V"⟩ : MethodName) jdk_30_method_1_code 1 none :: ws) ({ frames := 1, cells := 0, slots := 0, locals := 12 } : Room)) (fun aa UU => aa = #[(.ref a)] ∧ Z.Warmed39 UU.vm ∧ UU.heap = h0) (fun _ _ _ _ _ => True) (fun _ UU oo UT => ∃ vv LL, oo = .returned vv ∧ Q30 Z a h0 n0 vv UT.heap LL ∧ FrameEnd UU oo UT LL ({ frames := 1, cells := 0, slots := 0, locals := 12 } : Room).cells ({ frames := 1, cells := 0, slots := 0, locals := 12 } : Room).slots) := by
  refine MetFree.of_bodySF (by decide +kernel) hisR ?_
  intro p e s m args below meth c s₁ Bd hml0 hP hK
  obtain ⟨rfl, hZ, hh⟩ := hP
  have hx := Bd.exec
  have hby := Bd.bytes
  have hml : c.maxLocals = 1 := hml0
  have hown : s.vm.findClass "java/lang/Record" = some m.cls := findClass_of_methodNamed Bd.named
  have hnm := (name_of_methodNamed Bd.named Bd.method).1
  have X0 : Stand p l e ({ frames := 1, cells := 0, slots := 0, locals := 12 } : Room) s m #[(.ref a)] below meth c s₁ [] 0 0 := Stand.of_body Bd
  have e0 : s₁.heap = h0 := by rw [← hh, Bd.state]; rfl
  have N0 := Fr.nil n0
  have c0 : Steps p.tables e below (s₁.setTop (entryFrame m #[(.ref a)] 1)) (s₁.setTop (mkF m 0 #[.val (.ref a)] [])) := castTop (ef30 m a) (Steps.refl _)
  show ∃ s₂ oo, Steps p.tables e below (s₁.setTop (entryFrame m #[(.ref a)] 1)) s₂ ∧ _ ∧ _ ∧ _
  generalize s₁.setTop (entryFrame m #[(.ref a)] 1) = S0 at c0 ⊢
  have c1 : Steps p.tables e below S0 (s₁.setTop (mkF m 1 #[.val (.ref a)] [(.ref a)])) := by
    refine c0.trans ?_
    show Steps p.tables e below (s₁.setTop (mkF m 0 #[.val (.ref a)] [])) _
    refine XS.aloadN X0.here hx rfl (hb hby d30_0) rfl rfl ?_
    exact Steps.refl _
  obtain ⟨T2, X2, e2, st2⟩ := initO X0 hx hZ hown (hw _ (List.mem_of_getElem? (i := 45) rfl)) (hw _ (List.mem_of_getElem? (i := 16) rfl)) (hw _ (List.mem_of_getElem? (i := 17) rfl)) e0 (g := (mkF m 1 #[.val (.ref a)] [(.ref a)])) rfl (by rw [hml]; rfl) rfl (hb hby d30_1) (by decide) (W := 0) (by show 2 * 0 + _ ≤ _; exact Nat.le_of_eq rfl) (by decide)
  have c2 : Steps p.tables e below S0 (T2.setTop (mkF m 4 #[.val (.ref a)] [])) := by
    refine c1.trans ?_
    show Steps p.tables e below (s₁.setTop (mkF m 1 #[.val (.ref a)] [(.ref a)])) _
    refine st2 _ ?_
    exact Steps.refl _
  obtain ⟨fs, hr, hrun, hended, hW, hsame⟩ := X2.leave (v := none) (fun _ => rfl)
  refine ⟨_, _, c2.trans ?_, hrun, hended, _, _, rfl, ?_, ⟨_, rfl⟩, hW, hsame.mono (by decide) (by decide)⟩
  · show Steps p.tables e below (T2.setTop (mkF m 4 #[.val (.ref a)] [])) _
    exact X2.returnOut hx Bd.returns (hb hby d30_4) hr
  · show Q30 Z a h0 n0 _ T2.heap _
    rw [e2]
    exact ⟨rfl, N0, rfl⟩
def Q58 (Z : State) (o : Addr) (vc : Value) (vs : Value) (vm : Value) (h0 : Heap) (n0 : Nat) (v : Option Value) (h : Heap) (L : List Loc) : Prop := v = none ∧ Fr n0 L ∧ Keep h0 h [o] ∧ Exa Z h o "com/example/attestry/attestry/saml/Status" ∧ Fld Z h o "com/example/attestry/attestry/saml/Status" "code" "Ljava/lang/String;" vc ∧ Fld Z h o "com/example/attestry/attestry/saml/Status" "subcode" "Ljava/lang/String;" vs
theorem ef58 (m : MethodId) (o : Addr) (vc : Value) (vs : Value) (vm : Value) (hvc : vc.isRef = true) (hvs : vs.isRef = true) (hvm : vm.isRef = true) : entryFrame m #[(.ref o), vc, vs, vm] 4 = mkF m 0 #[.val (.ref o), .val vc, .val vs, .val vm] [] := by
  rcases own_ref hvc with rfl | ⟨_, rfl⟩ <;> rcases own_ref hvs with rfl | ⟨_, rfl⟩ <;> rcases own_ref hvm with rfl | ⟨_, rfl⟩ <;> rfl
set_option maxRecDepth 65536 in
set_option maxHeartbeats 40000000 in
theorem rm58 (l : Launch) (Z : State) (a0 : Array Value) (hw : ∀ d ∈ tables_1, d.before a0 Z = true) (ws : List Jvm.Cond) (o : Addr) (vc : Value) (vs : Value) (vm : Value) (h0 : Heap) (n0 : Nat) (Z0 : n0 ≤ h0.size) (hvc : vc.isRef = true) (hvs : vs.isRef = true) (hvm : vm.isRef = true) (Eo : Exa Z h0 o "com/example/attestry/attestry/saml/Status") (Fc : Fld Z h0 o "com/example/attestry/attestry/saml/Status" "code" "Ljava/lang/String;" .null) (Fs : Fld Z h0 o "com/example/attestry/attestry/saml/Status" "subcode" "Ljava/lang/String;" .null) (Fm : Fld Z h0 o "com/example/attestry/attestry/saml/Status" "message" "Ljava/lang/String;" .null) (go : n0 ≤ o) :
    MetFree l (⟨"com/example/attestry/attestry/saml/Status", "<init>", "(Ljava/lang/String;Ljava/lang/String;Ljava/lang/String;)V"⟩ : MethodName) (head1 (Jvm.Cond.code (⟨"com/example/attestry/attestry/saml/Status", "<init>", "(Ljava/lang/String;Ljava/lang/String;Ljava/lang/String;)V"⟩ : MethodName) prog_58_method_1_code 4 none :: ws) ({ frames := 2, cells := 0, slots := 0, locals := 30 } : Room)) (fun aa UU => aa = #[(.ref o), vc, vs, vm] ∧ Z.Warmed39 UU.vm ∧ UU.heap = h0) (fun _ _ _ _ _ => True) (fun _ UU oo UT => ∃ vv LL, oo = .returned vv ∧ Q58 Z o vc vs vm h0 n0 vv UT.heap LL ∧ FrameEnd UU oo UT LL ({ frames := 2, cells := 0, slots := 0, locals := 30 } : Room).cells ({ frames := 2, cells := 0, slots := 0, locals := 30 } : Room).slots) := by
  refine MetFree.of_bodySF (plainFor_of_name pn1) hisR ?_
  intro p e s m args below meth c s₁ Bd hml0 hP hK
  obtain ⟨rfl, hZ, hh⟩ := hP
  have hx := Bd.exec
  have hby := Bd.bytes
  have hml : c.maxLocals = 4 := hml0
  have hown : s.vm.findClass "com/example/attestry/attestry/saml/Status" = some m.cls := findClass_of_methodNamed Bd.named
  have hnm := (name_of_methodNamed Bd.named Bd.method).1
  have X0 : Stand p l e ({ frames := 2, cells := 0, slots := 0, locals := 30 } : Room) s m #[(.ref o), vc, vs, vm] below meth c s₁ [] 0 0 := Stand.of_body Bd
  have e0 : s₁.heap = h0 := by rw [← hh, Bd.state]; rfl
  have N0 := Fr.nil n0
  have c0 : Steps p.tables e below (s₁.setTop (entryFrame m #[(.ref o), vc, vs, vm] 4)) (s₁.setTop (mkF m 0 #[.val (.ref o), .val vc, .val vs, .val vm] [])) := castTop (ef58 m o vc vs vm hvc hvs hvm) (Steps.refl _)
  show ∃ s₂ oo, Steps p.tables e below (s₁.setTop (entryFrame m #[(.ref o), vc, vs, vm] 4)) s₂ ∧ _ ∧ _ ∧ _
  generalize s₁.setTop (entryFrame m #[(.ref o), vc, vs, vm] 4) = S0 at c0 ⊢
  have c1 : Steps p.tables e below S0 (s₁.setTop (mkF m 1 #[.val (.ref o), .val vc, .val vs, .val vm] [(.ref o)])) := by
    refine c0.trans ?_
    show Steps p.tables e below (s₁.setTop (mkF m 0 #[.val (.ref o), .val vc, .val vs, .val vm] [])) _
    refine XS.aloadN X0.here hx rfl (hb hby d58_0) rfl rfl ?_
    exact Steps.refl _
  obtain ⟨_, _, ⟨T2, L2, k2, n2⟩, -, X2, ⟨Lc2, hQ2, l2, y2, z2⟩, st2⟩ := X0.specialBack hx (y := (⟨"java/lang/Record", "<init>", "()V"⟩ : MethodName)) rfl hown (mvT hZ (hw _ (List.mem_of_getElem? (i := 40) rfl))) (mvT hZ (hw _ (List.mem_of_getElem? (i := 41) rfl))) (mvT hZ (hw _ (List.mem_of_getElem? (i := 44) rfl))) (by decide) (backOf (W := 0) (rm30 l Z a0 hw [] o h0 n0 Z0) hZ (hw _ (List.mem_of_getElem? (i := 44) rfl)) (hw _ (List.mem_of_getElem? (i := 43) rfl)) (by decide) (by decide)) (g := (mkF m 1 #[.val (.ref o), .val vc, .val vs, .val vm] [(.ref o)])) rfl (by rw [hml]; rfl) (Steps.refl _) (a := o) (argsL := []) (rest := []) (lenOf pd1 rfl) rfl (by show 2 * 0 + _ ≤ _; exact Nat.le_of_eq rfl) (hb hby d58_1) (fun _ _ => ⟨rfl, e0, (by decide : 0 + 0 ≤ _), (by decide : 0 + 0 ≤ _)⟩)
  dsimp only [Pt.U, Pt.locs, Pt.cells, Pt.slots] at X2 l2 y2 z2 st2 hQ2
  subst l2 y2 z2
  obtain ⟨rfl, N1, e1⟩ := hQ2
  have c2 : Steps p.tables e below S0 (T2.setTop (mkF m 4 #[.val (.ref o), .val vc, .val vs, .val vm] [])) := by
    refine c1.trans ?_
    show Steps p.tables e below (s₁.setTop (mkF m 1 #[.val (.ref o), .val vc, .val vs, .val vm] [(.ref o)])) _
    refine st2.trans ?_
    exact Steps.refl _
  have Np := Fr.app N0 N1
  have c3 : Steps p.tables e below S0 (T2.setTop (mkF m 6 #[.val (.ref o), .val vc, .val vs, .val vm] [vc, (.ref o)])) := by
    refine c2.trans ?_
    show Steps p.tables e below (T2.setTop (mkF m 4 #[.val (.ref o), .val vc, .val vs, .val vm] [])) _
    refine XS.aloadN X2.here hx rfl (hb hby d58_4) rfl rfl ?_
    show Steps p.tables e below (T2.setTop (mkF m 5 #[.val (.ref o), .val vc, .val vs, .val vm] [(.ref o)])) _
    refine XS.aloadN X2.here hx rfl (hb hby d58_5) rfl hvc ?_
    exact Steps.refl _
  obtain ⟨T4, h4, X4, e4, W4, st4⟩ := putF X2 hx hZ hown (host := "") (Or.inl (hw _ (List.mem_of_getElem? (i := 46) rfl))) Via.refl e1 Fc Eo (Or.inr ⟨(hw _ (List.mem_of_getElem? (i := 47) rfl)), rfl, hnm⟩) (hw _ (List.mem_of_getElem? (i := 35) rfl)) (ty := (.object "java/lang/String")) (by decide) (own_narrow hvc) (own_fits hvc) (g := (mkF m 6 #[.val (.ref o), .val vc, .val vs, .val vm] [vc, (.ref o)])) rfl rfl (hb hby d58_6)
  have c4 : Steps p.tables e below S0 (T4.setTop (mkF m 9 #[.val (.ref o), .val vc, .val vs, .val vm] [])) := by
    refine c3.trans ?_
    show Steps p.tables e below (T2.setTop (mkF m 6 #[.val (.ref o), .val vc, .val vs, .val vm] [vc, (.ref o)])) _
    refine st4 _ ?_
    exact Steps.refl _
  have Na := Fr.snoc X4 Np go
  have Fc1 := Fc.same W4
  have Fs1 := Fs.other W4 (Or.inr (slot_ne (Or.inr (hw _ (List.mem_of_getElem? (i := 49) rfl))) (Or.inr (hw _ (List.mem_of_getElem? (i := 47) rfl))) (by decide) (t := (.object "java/lang/String")) (t' := (.object "java/lang/String")) (by decide) (by decide)))
  have Fm1 := Fm.other W4 (Or.inr (slot_ne (Or.inr (hw _ (List.mem_of_getElem? (i := 51) rfl))) (Or.inr (hw _ (List.mem_of_getElem? (i := 47) rfl))) (by decide) (t := (.object "java/lang/String")) (t' := (.object "java/lang/String")) (by decide) (by decide)))
  have c5 : Steps p.tables e below S0 (T4.setTop (mkF m 11 #[.val (.ref o), .val vc, .val vs, .val vm] [vs, (.ref o)])) := by
    refine c4.trans ?_
    show Steps p.tables e below (T4.setTop (mkF m 9 #[.val (.ref o), .val vc, .val vs, .val vm] [])) _
    refine XS.aloadN X4.here hx rfl (hb hby d58_9) rfl rfl ?_
    show Steps p.tables e below (T4.setTop (mkF m 10 #[.val (.ref o), .val vc, .val vs, .val vm] [(.ref o)])) _
    refine XS.aloadN X4.here hx rfl (hb hby d58_10) rfl hvs ?_
    exact Steps.refl _
  obtain ⟨T6, h6, X6, e6, W6, st6⟩ := putF X4 hx hZ hown (host := "") (Or.inl (hw _ (List.mem_of_getElem? (i := 48) rfl))) Via.refl e4 Fs1 (Eo.wr W4) (Or.inr ⟨(hw _ (List.mem_of_getElem? (i := 49) rfl)), rfl, hnm⟩) (hw _ (List.mem_of_getElem? (i := 35) rfl)) (ty := (.object "java/lang/String")) (by decide) (own_narrow hvs) (own_fits hvs) (g := (mkF m 11 #[.val (.ref o), .val vc, .val vs, .val vm] [vs, (.ref o)])) rfl rfl (hb hby d58_11)
  have c6 : Steps p.tables e below S0 (T6.setTop (mkF m 14 #[.val (.ref o), .val vc, .val vs, .val vm] [])) := by
    refine c5.trans ?_
    show Steps p.tables e below (T4.setTop (mkF m 11 #[.val (.ref o), .val vc, .val vs, .val vm] [vs, (.ref o)])) _
    refine st6 _ ?_
    exact Steps.refl _
  have Nb := Fr.snoc X6 Na go
  have Fc2 := Fc1.other W6 (Or.inr (slot_ne (Or.inr (hw _ (List.mem_of_getElem? (i := 47) rfl))) (Or.inr (hw _ (List.mem_of_getElem? (i := 49) rfl))) (by decide) (t := (.object "java/lang/String")) (t' := (.object "java/lang/String")) (by decide) (by decide)))
  have Fs2 := Fs1.same W6
  have Fm2 := Fm1.other W6 (Or.inr (slot_ne (Or.inr (hw _ (List.mem_of_getElem? (i := 51) rfl))) (Or.inr (hw _ (List.mem_of_getElem? (i := 49) rfl))) (by decide) (t := (.object "java/lang/String")) (t' := (.object "java/lang/String")) (by decide) (by decide)))
  have c7 : Steps p.tables e below S0 (T6.setTop (mkF m 16 #[.val (.ref o), .val vc, .val vs, .val vm] [vm, (.ref o)])) := by
    refine c6.trans ?_
    show Steps p.tables e below (T6.setTop (mkF m 14 #[.val (.ref o), .val vc, .val vs, .val vm] [])) _
    refine XS.aloadN X6.here hx rfl (hb hby d58_14) rfl rfl ?_
    show Steps p.tables e below (T6.setTop (mkF m 15 #[.val (.ref o), .val vc, .val vs, .val vm] [(.ref o)])) _
    refine XS.aloadN X6.here hx rfl (hb hby d58_15) rfl hvm ?_
    exact Steps.refl _
  obtain ⟨T8, h8, X8, e8, W8, st8⟩ := putF X6 hx hZ hown (host := "") (Or.inl (hw _ (List.mem_of_getElem? (i := 50) rfl))) Via.refl e6 Fm2 ((Eo.wr W4).wr W6) (Or.inr ⟨(hw _ (List.mem_of_getElem? (i := 51) rfl)), rfl, hnm⟩) (hw _ (List.mem_of_getElem? (i := 35) rfl)) (ty := (.object "java/lang/String")) (by decide) (own_narrow hvm) (own_fits hvm) (g := (mkF m 16 #[.val (.ref o), .val vc, .val vs, .val vm] [vm, (.ref o)])) rfl rfl (hb hby d58_16)
  have c8 : Steps p.tables e below S0 (T8.setTop (mkF m 19 #[.val (.ref o), .val vc, .val vs, .val vm] [])) := by
    refine c7.trans ?_
    show Steps p.tables e below (T6.setTop (mkF m 16 #[.val (.ref o), .val vc, .val vs, .val vm] [vm, (.ref o)])) _
    refine st8 _ ?_
    exact Steps.refl _
  have Nc := Fr.snoc X8 Nb go
  have Fc3 := Fc2.other W8 (Or.inr (slot_ne (Or.inr (hw _ (List.mem_of_getElem? (i := 47) rfl))) (Or.inr (hw _ (List.mem_of_getElem? (i := 51) rfl))) (by decide) (t := (.object "java/lang/String")) (t' := (.object "java/lang/String")) (by decide) (by decide)))
  have Fs3 := Fs2.other W8 (Or.inr (slot_ne (Or.inr (hw _ (List.mem_of_getElem? (i := 49) rfl))) (Or.inr (hw _ (List.mem_of_getElem? (i := 51) rfl))) (by decide) (t := (.object "java/lang/String")) (t' := (.object "java/lang/String")) (by decide) (by decide)))
  obtain ⟨fs, hr, hrun, hended, hW, hsame⟩ := X8.leave (v := none) (fun _ => rfl)
  refine ⟨_, _, c8.trans ?_, hrun, hended, _, _, rfl, ?_, ⟨_, rfl⟩, hW, hsame.mono (by decide) (by decide)⟩
  · show Steps p.tables e below (T8.setTop (mkF m 19 #[.val (.ref o), .val vc, .val vs, .val vm] [])) _
    exact X8.returnOut hx Bd.returns (hb hby d58_19) hr
  · show Q58 Z o vc vs vm h0 n0 _ T8.heap _
    rw [e8]
    exact ⟨rfl, Nc, (((Keep.refl _ _).wr W4 (Or.inl (List.mem_of_getElem? (i := 0) rfl))).wr W6 (Or.inl (List.mem_of_getElem? (i := 0) rfl))).wr W8 (Or.inl (List.mem_of_getElem? (i := 0) rfl)), ((Eo.wr W4).wr W6).wr W8, Fc3, Fs3⟩
def Q585 (Z : State) (o : Addr) (vc : Value) (vs : Value) (h0 : Heap) (n0 : Nat) (v : Option Value) (h : Heap) (L : List Loc) : Prop := v = some (if vs = .null then vc else vs) ∧ Fr n0 L ∧ h = h0
theorem ef585 (m : MethodId) (o : Addr) : entryFrame m #[(.ref o)] 1 = mkF m 0 #[.val (.ref o)] [] := by first | (simp [entryFrame, mkF, argsToLocals, Value.category, List.replicate]; done) | rfl
set_option maxRecDepth 65536 in
set_option maxHeartbeats 40000000 in
theorem rm585 (l : Launch) (Z : State) (a0 : Array Value) (hw : ∀ d ∈ tables_1, d.before a0 Z = true) (ws : List Jvm.Cond) (o : Addr) (vc : Value) (vs : Value) (h0 : Heap) (n0 : Nat) (Z0 : n0 ≤ h0.size) (hvc : vc.isRef = true) (hvs : vs.isRef = true) (Fc : Fld Z h0 o "com/example/attestry/attestry/saml/Status" "code" "Ljava/lang/String;" vc) (Fs : Fld Z h0 o "com/example/attestry/attestry/saml/Status" "subcode" "Ljava/lang/String;" vs) :
    MetFree l (⟨"com/example/attestry/attestry/saml/Status", "innermostCode", "()Ljava/lang/String;"⟩ : MethodName) (head1 (Jvm.Cond.code (⟨"com/example/attestry/attestry/saml/Status", "innermostCode", "()Ljava/lang/String;"⟩ : MethodName) prog_58_method_5_code 1 (some (.object "java/lang/String")) :: ws) ({ frames := 0, cells := 0, slots := 0, locals := 0 } : Room)) (fun aa UU => aa = #[(.ref o)] ∧ Z.Warmed39 UU.vm ∧ UU.heap = h0) (fun _ _ _ _ _ => True) (fun _ UU oo UT => ∃ vv LL, oo = .returned vv ∧ Q585 Z o vc vs h0 n0 vv UT.heap LL ∧ FrameEnd UU oo UT LL ({ frames := 0, cells := 0, slots := 0, locals := 0 } : Room).cells ({ frames := 0, cells := 0, slots := 0, locals := 0 } : Room).slots) := by
  refine MetFree.of_bodySF (plainFor_of_name pn1) hisR ?_
  intro p e s m args below meth c s₁ Bd hml0 hP hK
  obtain ⟨rfl, hZ, hh⟩ := hP
  have hx := Bd.exec
  have hby := Bd.bytes
  have hml : c.maxLocals = 1 := hml0
  have hown : s.vm.findClass "com/example/attestry/attestry/saml/Status" = some m.cls := findClass_of_methodNamed Bd.named
  have hnm := (name_of_methodNamed Bd.named Bd.method).1
  have X0 : Stand p l e ({ frames := 0, cells := 0, slots := 0, locals := 0 } : Room) s m #[(.ref o)] below meth c s₁ [] 0 0 := Stand.of_body Bd
  have e0 : s₁.heap = h0 := by rw [← hh, Bd.state]; rfl
  have N0 := Fr.nil n0
  have c0 : Steps p.tables e below (s₁.setTop (entryFrame m #[(.ref o)] 1)) (s₁.setTop (mkF m 0 #[.val (.ref o)] [])) := castTop (ef585 m o) (Steps.refl _)
  show ∃ s₂ oo, Steps p.tables e below (s₁.setTop (entryFrame m #[(.ref o)] 1)) s₂ ∧ _ ∧ _ ∧ _
  generalize s₁.setTop (entryFrame m #[(.ref o)] 1) = S0 at c0 ⊢
  rcases own_ref hvs with rfl | ⟨b, rfl⟩
  · have c1 : Steps p.tables e below S0 (s₁.setTop (mkF m 1 #[.val (.ref o)] [(.ref o)])) := by
      refine c0.trans ?_
      show Steps p.tables e below (s₁.setTop (mkF m 0 #[.val (.ref o)] [])) _
      refine XS.aloadN X0.here hx rfl (hb hby d585_0) rfl rfl ?_
      exact Steps.refl _
    obtain ⟨T2, X2, e2, st2⟩ := getF X0 hx hZ hown (host := "") (Or.inl (hw _ (List.mem_of_getElem? (i := 48) rfl))) Via.refl e0 Fs (g := (mkF m 1 #[.val (.ref o)] [(.ref o)])) rfl rfl (hb hby d585_1)
    have c2 : Steps p.tables e below S0 (T2.setTop (mkF m 4 #[.val (.ref o)] [.null])) := by
      refine c1.trans ?_
      show Steps p.tables e below (s₁.setTop (mkF m 1 #[.val (.ref o)] [(.ref o)])) _
      refine st2 _ ?_
      exact Steps.refl _
    have c3 : Steps p.tables e below S0 (T2.setTop (mkF m 14 #[.val (.ref o)] [])) := by
      refine c2.trans ?_
      show Steps p.tables e below (T2.setTop (mkF m 4 #[.val (.ref o)] [.null])) _
      refine XS.ifnullYes X2.here hx rfl (pc0 := 4) (pc' := 14) rfl (hb hby d585_4) rfl (by decide) (by decide) ?_
      exact Steps.refl _
    have c4 : Steps p.tables e below S0 (T2.setTop (mkF m 15 #[.val (.ref o)] [(.ref o)])) := by
      refine c3.trans ?_
      show Steps p.tables e below (T2.setTop (mkF m 14 #[.val (.ref o)] [])) _
      refine XS.aloadN X2.here hx rfl (hb hby d585_14) rfl rfl ?_
      exact Steps.refl _
    obtain ⟨T5, X5, e5, st5⟩ := getF X2 hx hZ hown (host := "") (Or.inl (hw _ (List.mem_of_getElem? (i := 46) rfl))) Via.refl e2 Fc (g := (mkF m 15 #[.val (.ref o)] [(.ref o)])) rfl rfl (hb hby d585_15)
    have c5 : Steps p.tables e below S0 (T5.setTop (mkF m 18 #[.val (.ref o)] [vc])) := by
      refine c4.trans ?_
      show Steps p.tables e below (T2.setTop (mkF m 15 #[.val (.ref o)] [(.ref o)])) _
      refine st5 _ ?_
      exact Steps.refl _
    obtain ⟨fs, hr, hrun, hended, hW, hsame⟩ := X5.leave (v := some vc) (fun h => by rw [Bd.returns] at h; cases h)
    refine ⟨_, _, c5.trans ?_, hrun, hended, _, _, rfl, ?_, ⟨_, rfl⟩, hW, hsame.mono (by decide) (by decide)⟩
    · show Steps p.tables e below (T5.setTop (mkF m 18 #[.val (.ref o)] [vc])) _
      exact retA X5 hx Bd.returns rfl hvc (hb hby d585_18) hr
    · show Q585 Z o vc .null h0 n0 _ T5.heap _
      rw [e5]
      exact ⟨rfl, N0, rfl⟩
  · have c6 : Steps p.tables e below S0 (s₁.setTop (mkF m 1 #[.val (.ref o)] [(.ref o)])) := by
      refine c0.trans ?_
      show Steps p.tables e below (s₁.setTop (mkF m 0 #[.val (.ref o)] [])) _
      refine XS.aloadN X0.here hx rfl (hb hby d585_0) rfl rfl ?_
      exact Steps.refl _
    obtain ⟨T7, X7, e7, st7⟩ := getF X0 hx hZ hown (host := "") (Or.inl (hw _ (List.mem_of_getElem? (i := 48) rfl))) Via.refl e0 Fs (g := (mkF m 1 #[.val (.ref o)] [(.ref o)])) rfl rfl (hb hby d585_1)
    have c7 : Steps p.tables e below S0 (T7.setTop (mkF m 4 #[.val (.ref o)] [(.ref b)])) := by
      refine c6.trans ?_
      show Steps p.tables e below (s₁.setTop (mkF m 1 #[.val (.ref o)] [(.ref o)])) _
      refine st7 _ ?_
      exact Steps.refl _
    have c8 : Steps p.tables e below S0 (T7.setTop (mkF m 7 #[.val (.ref o)] [])) := by
      refine c7.trans ?_
      show Steps p.tables e below (T7.setTop (mkF m 4 #[.val (.ref o)] [(.ref b)])) _
      refine XS.ifnullNo X7.here hx rfl (hb hby d585_4) rfl ?_
      exact Steps.refl _
    have c9 : Steps p.tables e below S0 (T7.setTop (mkF m 8 #[.val (.ref o)] [(.ref o)])) := by
      refine c8.trans ?_
      show Steps p.tables e below (T7.setTop (mkF m 7 #[.val (.ref o)] [])) _
      refine XS.aloadN X7.here hx rfl (hb hby d585_7) rfl rfl ?_
      exact Steps.refl _
    obtain ⟨T10, X10, e10, st10⟩ := getF X7 hx hZ hown (host := "") (Or.inl (hw _ (List.mem_of_getElem? (i := 48) rfl))) Via.refl e7 Fs (g := (mkF m 8 #[.val (.ref o)] [(.ref o)])) rfl rfl (hb hby d585_8)
    have c10 : Steps p.tables e below S0 (T10.setTop (mkF m 11 #[.val (.ref o)] [(.ref b)])) := by
      refine c9.trans ?_
      show Steps p.tables e below (T7.setTop (mkF m 8 #[.val (.ref o)] [(.ref o)])) _
      refine st10 _ ?_
      exact Steps.refl _
    have c11 : Steps p.tables e below S0 (T10.setTop (mkF m 18 #[.val (.ref o)] [(.ref b)])) := by
      refine c10.trans ?_
      show Steps p.tables e below (T10.setTop (mkF m 11 #[.val (.ref o)] [(.ref b)])) _
      refine XS.goto X10.here hx rfl (pc0 := 11) (pc' := 18) rfl (hb hby d585_11) (by decide) (by decide) ?_
      exact Steps.refl _
    obtain ⟨fs, hr, hrun, hended, hW, hsame⟩ := X10.leave (v := some (.ref b)) (fun h => by rw [Bd.returns] at h; cases h)
    refine ⟨_, _, c11.trans ?_, hrun, hended, _, _, rfl, ?_, ⟨_, rfl⟩, hW, hsame.mono (by decide) (by decide)⟩
    · show Steps p.tables e below (T10.setTop (mkF m 18 #[.val (.ref o)] [(.ref b)])) _
      exact retA X10 hx Bd.returns rfl rfl (hb hby d585_18) hr
    · show Q585 Z o vc (.ref b) h0 n0 _ T10.heap _
      rw [e10]
      exact ⟨rfl, N0, rfl⟩
def Q149 (Z : State) (a : Addr) (b : Addr) (h0 : Heap) (n0 : Nat) (v : Option Value) (h : Heap) (L : List Loc) : Prop := v = none ∧ Fr n0 L ∧ Keep h0 h [a] ∧ (∃ (t : Addr) (kb : ClassId), Fld Z h a "java/lang/String" "value" "[B" (.ref t) ∧ Fld Z h a "java/lang/String" "coder" "B" (.int 0) ∧ Arv Z h t kb .byte 0 [] (.int 0)) ∧ Exa Z h a "java/lang/String"
theorem ef149 (m : MethodId) (a : Addr) (b : Addr) : entryFrame m #[(.ref a), (.ref b), (.int (0 : Int32)), (.int (0 : Int32)), .null] 6 = mkF m 0 #[.val (.ref a), .val (.ref b), .val (.int (0 : Int32)), .val (.int (0 : Int32)), .val .null, .unset] [] := by first | (simp [entryFrame, mkF, argsToLocals, Value.category, List.replicate]; done) | rfl
set_option maxRecDepth 65536 in
set_option maxHeartbeats 40000000 in
theorem rm149 (l : Launch) (Z : State) (a0 : Array Value) (hw : ∀ d ∈ tables_1, d.before a0 Z = true) (ws : List Jvm.Cond) (a : Addr) (b : Addr) (h0 : Heap) (n0 : Nat) (Z0 : n0 ≤ h0.size) (Ea : Exa Z h0 a "java/lang/String") (Fv : Fld Z h0 a "java/lang/String" "value" "[B" .null) (Fc : Fld Z h0 a "java/lang/String" "coder" "B" (.int 0)) (ga : n0 ≤ a) :
    MetFree l (⟨"java/lang/String", "<init>", "([CIILjava/lang/Void;)V"⟩ : MethodName) (head1 (Jvm.Cond.code (⟨"java/lang/String", "<init>", "([CIILjava/lang/Void;)V"⟩ : MethodName) jdk_42_method_149_code 6 none :: ws) ({ frames := 1, cells := 4, slots := 8, locals := 20 } : Room)) (fun aa UU => aa = #[(.ref a), (.ref b), (.int (0 : Int32)), (.int (0 : Int32)), .null] ∧ Z.Warmed39 UU.vm ∧ UU.heap = h0 ∧ CHv Z consts_1 UU.vm h0 ∧ ∀ x ∈ ([a] : List Addr), Safe Z consts_1 UU.vm h0 x) (fun _ _ _ _ _ => True) (fun _ UU oo UT => ∃ vv LL, oo = .returned vv ∧ Q149 Z a b h0 n0 vv UT.heap LL ∧ CHr Z consts_1 UU.vm UU.heap UT.vm UT.heap ∧ ReturnedEndW UU oo UT LL ({ frames := 1, cells := 4, slots := 8, locals := 20 } : Room).cells ({ frames := 1, cells := 4, slots := 8, locals := 20 } : Room).slots) := by
  refine MetFree.of_bodySF (by decide +kernel) hisR ?_
  intro p e s m args below meth c s₁ Bd hml0 hP hK
  obtain ⟨rfl, hZ, hh, hC, hX⟩ := hP
  have hx := Bd.exec
  have hby := Bd.bytes
  have hml : c.maxLocals = 6 := hml0
  have hown : s.vm.findClass "java/lang/String" = some m.cls := findClass_of_methodNamed Bd.named
  have hnm := (name_of_methodNamed Bd.named Bd.method).1
  have X0 : Stand p l e ({ frames := 1, cells := 4, slots := 8, locals := 20 } : Room) s m #[(.ref a), (.ref b), (.int (0 : Int32)), (.int (0 : Int32)), .null] below meth c s₁ [] 0 0 := Stand.of_body Bd
  have e0 : s₁.heap = h0 := by rw [← hh, Bd.state]; rfl
  have N0 := Fr.nil n0
  have c0 : Steps p.tables e below (s₁.setTop (entryFrame m #[(.ref a), (.ref b), (.int (0 : Int32)), (.int (0 : Int32)), .null] 6)) (s₁.setTop (mkF m 0 #[.val (.ref a), .val (.ref b), .val (.int (0 : Int32)), .val (.int (0 : Int32)), .val .null, .unset] [])) := castTop (ef149 m a b) (Steps.refl _)
  show ∃ s₂ oo, Steps p.tables e below (s₁.setTop (entryFrame m #[(.ref a), (.ref b), (.int (0 : Int32)), (.int (0 : Int32)), .null] 6)) s₂ ∧ _ ∧ _ ∧ _
  generalize s₁.setTop (entryFrame m #[(.ref a), (.ref b), (.int (0 : Int32)), (.int (0 : Int32)), .null] 6) = S0 at c0 ⊢
  obtain ⟨V0, hV0⟩ : ∃ V, V = s.vm := ⟨_, rfl⟩
  have Xs : Stand p l e ({ frames := 1, cells := 4, slots := 8, locals := 20 } : Room) (s.setVm V0) m #[(.ref a), (.ref b), (.int (0 : Int32)), (.int (0 : Int32)), .null] below meth c s₁ [] 0 0 := by subst hV0; exact X0
  have hS : s.Since V0 h0.size := by subst hV0; exact (State.WarmedH.refl s).since _
  replace hZ : Z.Warmed39 (s.setVm V0).vm := by subst hV0; exact hZ
  replace hown : (s.setVm V0).vm.findClass "java/lang/String" = some m.cls := by subst hV0; exact hown
  have hk : h0.size ≤ h0.size := Nat.le_refl _
  have Zh := Z0
  have hR : CHr Z consts_1 V0 h0 V0 h0 := by subst hV0; exact CHr.refl hC
  have hEL := own_EW hw
  have Sf_a : Safe Z consts_1 V0 h0 a := by subst hV0; exact hX _ (List.mem_of_getElem? (i := 0) rfl)
  have c1 : Steps p.tables e below S0 (s₁.setTop (mkF m 1 #[.val (.ref a), .val (.ref b), .val (.int (0 : Int32)), .val (.int (0 : Int32)), .val .null, .unset] [(.ref a)])) := by
    refine c0.trans ?_
    show Steps p.tables e below (s₁.setTop (mkF m 0 #[.val (.ref a), .val (.ref b), .val (.int (0 : Int32)), .val (.int (0 : Int32)), .val .null, .unset] [])) _
    refine XS.aloadN Xs.here hx rfl (hb hby d149_0) rfl rfl ?_
    exact Steps.refl _
  obtain ⟨T2, X2, e2, st2⟩ := initO Xs hx hZ hown (hw _ (List.mem_of_getElem? (i := 15) rfl)) (hw _ (List.mem_of_getElem? (i := 16) rfl)) (hw _ (List.mem_of_getElem? (i := 17) rfl)) e0 (g := (mkF m 1 #[.val (.ref a), .val (.ref b), .val (.int (0 : Int32)), .val (.int (0 : Int32)), .val .null, .unset] [(.ref a)])) rfl (by rw [hml]; rfl) rfl (hb hby d149_1) (by decide) (W := 0) (by show 2 * 0 + _ ≤ _; exact Nat.le_of_eq rfl) (by decide)
  have c2 : Steps p.tables e below S0 (T2.setTop (mkF m 4 #[.val (.ref a), .val (.ref b), .val (.int (0 : Int32)), .val (.int (0 : Int32)), .val .null, .unset] [])) := by
    refine c1.trans ?_
    show Steps p.tables e below (s₁.setTop (mkF m 1 #[.val (.ref a), .val (.ref b), .val (.int (0 : Int32)), .val (.int (0 : Int32)), .val .null, .unset] [(.ref a)])) _
    refine st2 _ ?_
    exact Steps.refl _
  have c3 : Steps p.tables e below S0 (T2.setTop (mkF m 8 #[.val (.ref a), .val (.ref b), .val (.int (0 : Int32)), .val (.int (0 : Int32)), .val .null, .unset] [])) := by
    refine c2.trans ?_
    show Steps p.tables e below (T2.setTop (mkF m 4 #[.val (.ref a), .val (.ref b), .val (.int (0 : Int32)), .val (.int (0 : Int32)), .val .null, .unset] [])) _
    refine XS.iloadN X2.here hx rfl (hb hby d149_4) rfl ?_
    show Steps p.tables e below (T2.setTop (mkF m 5 #[.val (.ref a), .val (.ref b), .val (.int (0 : Int32)), .val (.int (0 : Int32)), .val .null, .unset] [(.int (0 : Int32))])) _
    refine XS.ifNo X2.here hx rfl (hb hby d149_5) rfl ((if0 _ _).trans (teq rfl).2) ?_
    exact Steps.refl _
  have c4 : Steps p.tables e below S0 (T2.setTop (mkF m 9 #[.val (.ref a), .val (.ref b), .val (.int (0 : Int32)), .val (.int (0 : Int32)), .val .null, .unset] [(.ref a)])) := by
    refine c3.trans ?_
    show Steps p.tables e below (T2.setTop (mkF m 8 #[.val (.ref a), .val (.ref b), .val (.int (0 : Int32)), .val (.int (0 : Int32)), .val .null, .unset] [])) _
    refine XS.aloadN X2.here hx rfl (hb hby d149_8) rfl rfl ?_
    exact Steps.refl _
  obtain ⟨q5, T5, h5, k5, r5, kq5, X5, e5, E5, hS, hk, hZ, hown, Xq5, Fc5, Fv5, Vq5, ql5, rl5, hCs5, -, -, st5⟩ := ldcCH X2 hx hZ hown (hw _ (List.mem_of_getElem? (i := 57) rfl)) (own_wS hw) e2 hS hk hEL (by decide) hR.1 (vs := []) (z := 0) (by decide +kernel) (by decide) (by decide) (g := (mkF m 9 #[.val (.ref a), .val (.ref b), .val (.int (0 : Int32)), .val (.int (0 : Int32)), .val .null, .unset] [(.ref a)])) rfl (hb hby d149_9) (n := 0) (by decide) (by decide) (by decide) (by decide)
  have hR := hR.trans hCs5
  have c5 : Steps p.tables e below S0 (T5.setTop (mkF m 11 #[.val (.ref a), .val (.ref b), .val (.int (0 : Int32)), .val (.int (0 : Int32)), .val .null, .unset] [(.ref q5), (.ref a)])) := by
    refine c4.trans ?_
    show Steps p.tables e below (T2.setTop (mkF m 9 #[.val (.ref a), .val (.ref b), .val (.int (0 : Int32)), .val (.int (0 : Int32)), .val .null, .unset] [(.ref a)])) _
    refine st5 _ ?_
    exact Steps.refl _
  have Sf_a := hCs5.safe Ea.lt Sf_a
  have Zh := Nat.le_trans Zh E5.1
  obtain ⟨T6, X6, e6, st6⟩ := getF X5 hx hZ hown (host := "") (Or.inl (hw _ (List.mem_of_getElem? (i := 32) rfl))) Via.refl e5 Fv5 (g := (mkF m 11 #[.val (.ref a), .val (.ref b), .val (.int (0 : Int32)), .val (.int (0 : Int32)), .val .null, .unset] [(.ref q5), (.ref a)])) rfl rfl (hb hby d149_11)
  have c6 : Steps p.tables e below S0 (T6.setTop (mkF m 14 #[.val (.ref a), .val (.ref b), .val (.int (0 : Int32)), .val (.int (0 : Int32)), .val .null, .unset] [(.ref r5), (.ref a)])) := by
    refine c5.trans ?_
    show Steps p.tables e below (T5.setTop (mkF m 11 #[.val (.ref a), .val (.ref b), .val (.int (0 : Int32)), .val (.int (0 : Int32)), .val .null, .unset] [(.ref q5), (.ref a)])) _
    refine st6 _ ?_
    exact Steps.refl _
  obtain ⟨T7, h7, X7, e7, W7, st7⟩ := putF X6 hx hZ hown (host := "") (Or.inl (hw _ (List.mem_of_getElem? (i := 32) rfl))) Via.refl e6 (Fv.ext E5) (Ea.ext E5) (Or.inr ⟨(hw _ (List.mem_of_getElem? (i := 33) rfl)), rfl, hnm⟩) (hw _ (List.mem_of_getElem? (i := 6) rfl)) (ty := (.array .byte)) (by decide) rfl rfl (g := (mkF m 14 #[.val (.ref a), .val (.ref b), .val (.int (0 : Int32)), .val (.int (0 : Int32)), .val .null, .unset] [(.ref r5), (.ref a)])) rfl rfl (hb hby d149_14)
  have c7 : Steps p.tables e below S0 (T7.setTop (mkF m 17 #[.val (.ref a), .val (.ref b), .val (.int (0 : Int32)), .val (.int (0 : Int32)), .val .null, .unset] [])) := by
    refine c6.trans ?_
    show Steps p.tables e below (T6.setTop (mkF m 14 #[.val (.ref a), .val (.ref b), .val (.int (0 : Int32)), .val (.int (0 : Int32)), .val .null, .unset] [(.ref r5), (.ref a)])) _
    refine st7 _ ?_
    exact Steps.refl _
  have Na := Fr.snoc X7 N0 ga
  have Ea1 := (Ea.ext E5).wr W7
  have Fv1 := (Fv.ext E5).same W7
  have Fc1 := (Fc.ext E5).other W7 (Or.inr (slot_ne (Or.inr (hw _ (List.mem_of_getElem? (i := 31) rfl))) (Or.inr (hw _ (List.mem_of_getElem? (i := 33) rfl))) (by decide) (t := .byte) (t' := (.array .byte)) (by decide) (by decide)))
  have nab : a ≠ r5 := (Ea.ext E5).neArv Vq5 (hw _ (List.mem_of_getElem? (i := 6) rfl))
  have Vb1 := Vq5.other W7 (Ne.symm nab)
  have K1 := ((Keep.refl h0 [a]).ext E5).wr W7 (Or.inl (List.mem_of_getElem? (i := 0) rfl))
  have hRs7 := CHr.wr W7 Sf_a hR.1
  have hR := hR.trans hRs7
  have Zh := Nat.le_trans Zh (Nat.le_of_eq (own_wsz W7).symm)
  have hk := Nat.le_trans hk (Nat.le_of_eq (own_wsz W7).symm)
  have Sf_a := hRs7.safe (Ea.ext E5).lt Sf_a
  have c8 : Steps p.tables e below S0 (T7.setTop (mkF m 18 #[.val (.ref a), .val (.ref b), .val (.int (0 : Int32)), .val (.int (0 : Int32)), .val .null, .unset] [(.ref a)])) := by
    refine c7.trans ?_
    show Steps p.tables e below (T7.setTop (mkF m 17 #[.val (.ref a), .val (.ref b), .val (.int (0 : Int32)), .val (.int (0 : Int32)), .val .null, .unset] [])) _
    refine XS.aloadN X7.here hx rfl (hb hby d149_17) rfl rfl ?_
    exact Steps.refl _
  obtain ⟨q9, T9, h9, k9, r9, kq9, X9, e9, E9, hS, hk, hZ, hown, Xq9, Fc9, Fv9, Vq9, ql9, rl9, hCs9, -, -, st9⟩ := ldcCH X7 hx hZ hown (hw _ (List.mem_of_getElem? (i := 57) rfl)) (own_wS hw) e7 hS hk hEL (by decide) hR.1 (vs := []) (z := 0) (by decide +kernel) (by decide) (by decide) (g := (mkF m 18 #[.val (.ref a), .val (.ref b), .val (.int (0 : Int32)), .val (.int (0 : Int32)), .val .null, .unset] [(.ref a)])) rfl (hb hby d149_18) (n := 0) (by decide) (by decide) (by decide) (by decide)
  have hR := hR.trans hCs9
  have c9 : Steps p.tables e below S0 (T9.setTop (mkF m 20 #[.val (.ref a), .val (.ref b), .val (.int (0 : Int32)), .val (.int (0 : Int32)), .val .null, .unset] [(.ref q9), (.ref a)])) := by
    refine c8.trans ?_
    show Steps p.tables e below (T7.setTop (mkF m 18 #[.val (.ref a), .val (.ref b), .val (.int (0 : Int32)), .val (.int (0 : Int32)), .val .null, .unset] [(.ref a)])) _
    refine st9 _ ?_
    exact Steps.refl _
  have Sf_a := hCs9.safe Ea1.lt Sf_a
  have Zh := Nat.le_trans Zh E9.1
  obtain ⟨T10, X10, e10, st10⟩ := getF X9 hx hZ hown (host := "") (Or.inl (hw _ (List.mem_of_getElem? (i := 30) rfl))) Via.refl e9 Fc9 (g := (mkF m 20 #[.val (.ref a), .val (.ref b), .val (.int (0 : Int32)), .val (.int (0 : Int32)), .val .null, .unset] [(.ref q9), (.ref a)])) rfl rfl (hb hby d149_20)
  have c10 : Steps p.tables e below S0 (T10.setTop (mkF m 23 #[.val (.ref a), .val (.ref b), .val (.int (0 : Int32)), .val (.int (0 : Int32)), .val .null, .unset] [(.int (0 : Int32)), (.ref a)])) := by
    refine c9.trans ?_
    show Steps p.tables e below (T9.setTop (mkF m 20 #[.val (.ref a), .val (.ref b), .val (.int (0 : Int32)), .val (.int (0 : Int32)), .val .null, .unset] [(.ref q9), (.ref a)])) _
    refine st10 _ ?_
    exact Steps.refl _
  obtain ⟨T11, h11, X11, e11, W11, st11⟩ := putFN X10 hx hZ hown (hw _ (List.mem_of_getElem? (i := 30) rfl)) Via.refl e10 (Fc1.ext E9) (Ea1.ext E9) (Or.inr ⟨(hw _ (List.mem_of_getElem? (i := 31) rfl)), rfl, hnm⟩) (hw _ (List.mem_of_getElem? (i := 6) rfl)) (ty := .byte) (v' := (.int (0 : Int32))) (by decide) rfl rfl (g := (mkF m 23 #[.val (.ref a), .val (.ref b), .val (.int (0 : Int32)), .val (.int (0 : Int32)), .val .null, .unset] [(.int (0 : Int32)), (.ref a)])) rfl rfl (hb hby d149_23)
  have c11 : Steps p.tables e below S0 (T11.setTop (mkF m 26 #[.val (.ref a), .val (.ref b), .val (.int (0 : Int32)), .val (.int (0 : Int32)), .val .null, .unset] [])) := by
    refine c10.trans ?_
    show Steps p.tables e below (T10.setTop (mkF m 23 #[.val (.ref a), .val (.ref b), .val (.int (0 : Int32)), .val (.int (0 : Int32)), .val .null, .unset] [(.int (0 : Int32)), (.ref a)])) _
    refine st11 _ ?_
    exact Steps.refl _
  have Nb := Fr.snoc X11 Na ga
  have hRs11 := CHr.wr W11 Sf_a hR.1
  have hR := hR.trans hRs11
  have Zh := Nat.le_trans Zh (Nat.le_of_eq (own_wsz W11).symm)
  have hk := Nat.le_trans hk (Nat.le_of_eq (own_wsz W11).symm)
  obtain ⟨fs, hr, hrun, hended, hW⟩ := X11.leaveW hS (by rw [e11]; exact hk) (v := none) (fun _ => rfl)
  refine ⟨_, _, c11.trans ?_, hrun, hended, _, _, rfl, ?_, ?_, hW.1, hW.2.1, hW.2.2.1, hW.2.2.2.mono (by decide) (by decide)⟩
  · show Steps p.tables e below (T11.setTop (mkF m 26 #[.val (.ref a), .val (.ref b), .val (.int (0 : Int32)), .val (.int (0 : Int32)), .val .null, .unset] [])) _
    exact X11.returnOut hx Bd.returns (hb hby d149_26) hr
  · show Q149 Z a b h0 n0 _ T11.heap _
    rw [e11]
    exact ⟨rfl, Nb, (K1.ext E9).wr W11 (Or.inl (List.mem_of_getElem? (i := 0) rfl)), ⟨_, _, (Fv1.ext E9).other W11 (Or.inr (slot_ne (Or.inr (hw _ (List.mem_of_getElem? (i := 33) rfl))) (Or.inr (hw _ (List.mem_of_getElem? (i := 31) rfl))) (by decide) (t := (.array .byte)) (t' := .byte) (by decide) (by decide))), (Fc1.ext E9).same W11, (Vb1.ext E9).other W11 (Ne.symm nab)⟩, (Ea1.ext E9).wr W11⟩
  · show CHr Z consts_1 s.vm s.heap T11.vm T11.heap
    rw [hh, e11, ← hV0]
    exact hR.trans (CHv.at X11 hZ hEL hR.1)
def Q3 (Z : State) (a : Addr) (b : Addr) (cb : Cell) (h0 : Heap) (n0 : Nat) (v : Option Value) (h : Heap) (L : List Loc) : Prop := v = none ∧ Fr n0 L ∧ Keep h0 h [a] ∧ (∃ (t : Addr) (kb : ClassId), Fld Z h a "java/lang/String" "value" "[B" (.ref t) ∧ Fld Z h a "java/lang/String" "coder" "B" (.int 0) ∧ Arv Z h t kb .byte 0 [] (.int 0)) ∧ Exa Z h a "java/lang/String"
theorem ef3 (m : MethodId) (a : Addr) (b : Addr) : entryFrame m #[(.ref a), (.ref b)] 2 = mkF m 0 #[.val (.ref a), .val (.ref b)] [] := by first | (simp [entryFrame, mkF, argsToLocals, Value.category, List.replicate]; done) | rfl
set_option maxRecDepth 65536 in
set_option maxHeartbeats 40000000 in
theorem rm3 (l : Launch) (Z : State) (a0 : Array Value) (hw : ∀ d ∈ tables_1, d.before a0 Z = true) (ws : List Jvm.Cond) (a : Addr) (b : Addr) (cb : Cell) (h0 : Heap) (n0 : Nat) (Z0 : n0 ≤ h0.size) (Ea : Exa Z h0 a "java/lang/String") (Fv : Fld Z h0 a "java/lang/String" "value" "[B" .null) (Fc : Fld Z h0 a "java/lang/String" "coder" "B" (.int 0)) (ga : n0 ≤ a) (Ab : Arr Z h0 b cb .char) (Sb : cb.slots.size = (0 : Int32).toNatClampNeg) :
    MetFree l (⟨"java/lang/String", "<init>", "([C)V"⟩ : MethodName) (head1 (Jvm.Cond.code (⟨"java/lang/String", "<init>", "([C)V"⟩ : MethodName) jdk_42_method_3_code 2 none :: ws) ({ frames := 2, cells := 4, slots := 8, locals := 40 } : Room)) (fun aa UU => aa = #[(.ref a), (.ref b)] ∧ Z.Warmed39 UU.vm ∧ UU.heap = h0 ∧ CHv Z consts_1 UU.vm h0 ∧ ∀ x ∈ ([a] : List Addr), Safe Z consts_1 UU.vm h0 x) (fun _ _ _ _ _ => True) (fun _ UU oo UT => ∃ vv LL, oo = .returned vv ∧ Q3 Z a b cb h0 n0 vv UT.heap LL ∧ CHr Z consts_1 UU.vm UU.heap UT.vm UT.heap ∧ ReturnedEndW UU oo UT LL ({ frames := 2, cells := 4, slots := 8, locals := 40 } : Room).cells ({ frames := 2, cells := 4, slots := 8, locals := 40 } : Room).slots) := by
  refine MetFree.of_bodySF (by decide +kernel) hisR ?_
  intro p e s m args below meth c s₁ Bd hml0 hP hK
  obtain ⟨rfl, hZ, hh, hC, hX⟩ := hP
  have hx := Bd.exec
  have hby := Bd.bytes
  have hml : c.maxLocals = 2 := hml0
  have hown : s.vm.findClass "java/lang/String" = some m.cls := findClass_of_methodNamed Bd.named
  have hnm := (name_of_methodNamed Bd.named Bd.method).1
  have X0 : Stand p l e ({ frames := 2, cells := 4, slots := 8, locals := 40 } : Room) s m #[(.ref a), (.ref b)] below meth c s₁ [] 0 0 := Stand.of_body Bd
  have e0 : s₁.heap = h0 := by rw [← hh, Bd.state]; rfl
  have N0 := Fr.nil n0
  have c0 : Steps p.tables e below (s₁.setTop (entryFrame m #[(.ref a), (.ref b)] 2)) (s₁.setTop (mkF m 0 #[.val (.ref a), .val (.ref b)] [])) := castTop (ef3 m a b) (Steps.refl _)
  show ∃ s₂ oo, Steps p.tables e below (s₁.setTop (entryFrame m #[(.ref a), (.ref b)] 2)) s₂ ∧ _ ∧ _ ∧ _
  generalize s₁.setTop (entryFrame m #[(.ref a), (.ref b)] 2) = S0 at c0 ⊢
  obtain ⟨V0, hV0⟩ : ∃ V, V = s.vm := ⟨_, rfl⟩
  have Xs : Stand p l e ({ frames := 2, cells := 4, slots := 8, locals := 40 } : Room) (s.setVm V0) m #[(.ref a), (.ref b)] below meth c s₁ [] 0 0 := by subst hV0; exact X0
  have hS : s.Since V0 h0.size := by subst hV0; exact (State.WarmedH.refl s).since _
  replace hZ : Z.Warmed39 (s.setVm V0).vm := by subst hV0; exact hZ
  replace hown : (s.setVm V0).vm.findClass "java/lang/String" = some m.cls := by subst hV0; exact hown
  have hk : h0.size ≤ h0.size := Nat.le_refl _
  have Zh := Z0
  have hR : CHr Z consts_1 V0 h0 V0 h0 := by subst hV0; exact CHr.refl hC
  have hEL := own_EW hw
  have Sf_a : Safe Z consts_1 V0 h0 a := by subst hV0; exact hX _ (List.mem_of_getElem? (i := 0) rfl)
  have c1 : Steps p.tables e below S0 (s₁.setTop (mkF m 4 #[.val (.ref a), .val (.ref b)] [(.ref b), (.int (0 : Int32)), (.ref b), (.ref a)])) := by
    refine c0.trans ?_
    show Steps p.tables e below (s₁.setTop (mkF m 0 #[.val (.ref a), .val (.ref b)] [])) _
    refine XS.aloadN Xs.here hx rfl (hb hby d3_0) rfl rfl ?_
    show Steps p.tables e below (s₁.setTop (mkF m 1 #[.val (.ref a), .val (.ref b)] [(.ref a)])) _
    refine XS.aloadN Xs.here hx rfl (hb hby d3_1) rfl rfl ?_
    show Steps p.tables e below (s₁.setTop (mkF m 2 #[.val (.ref a), .val (.ref b)] [(.ref b), (.ref a)])) _
    refine XS.iconst Xs.here hx rfl (hb hby d3_2) ?_
    show Steps p.tables e below (s₁.setTop (mkF m 3 #[.val (.ref a), .val (.ref b)] [(.int (0 : Int32)), (.ref b), (.ref a)])) _
    refine XS.aloadN Xs.here hx rfl (hb hby d3_3) rfl rfl ?_
    exact Steps.refl _
  have c2 : Steps p.tables e below S0 (s₁.setTop (mkF m 5 #[.val (.ref a), .val (.ref b)] [(.int (0 : Int32)), (.int (0 : Int32)), (.ref b), (.ref a)])) := by
    refine c1.trans ?_
    show Steps p.tables e below (s₁.setTop (mkF m 4 #[.val (.ref a), .val (.ref b)] [(.ref b), (.int (0 : Int32)), (.ref b), (.ref a)])) _
    refine Xs.arraylength hx (by rw [e0]; exact Ab.1) (State.isArrayOf_alike hZ.alike Ab.2.1) (g := (mkF m 4 #[.val (.ref a), .val (.ref b)] [(.ref b), (.int (0 : Int32)), (.ref b), (.ref a)])) rfl rfl (hb hby d3_4) _ ?_
    rw [len_of Sb (by decide)]
    exact Steps.refl _
  have c3 : Steps p.tables e below S0 (s₁.setTop (mkF m 6 #[.val (.ref a), .val (.ref b)] [.null, (.int (0 : Int32)), (.int (0 : Int32)), (.ref b), (.ref a)])) := by
    refine c2.trans ?_
    show Steps p.tables e below (s₁.setTop (mkF m 5 #[.val (.ref a), .val (.ref b)] [(.int (0 : Int32)), (.int (0 : Int32)), (.ref b), (.ref a)])) _
    refine XS.aconstNull Xs.here hx rfl (hb hby d3_5) ?_
    exact Steps.refl _
  obtain ⟨_, _, ⟨T4, L4, k4, n4⟩, -, X4, hS4, hge4, ⟨Lc4, hQ4, l4, y4, z4, hCr4⟩, st4⟩ := Xs.specialBackS hx (y := (⟨"java/lang/String", "<init>", "([CIILjava/lang/Void;)V"⟩ : MethodName)) rfl hown (mvT hZ (hw _ (List.mem_of_getElem? (i := 11) rfl))) (mvT hZ (hw _ (List.mem_of_getElem? (i := 12) rfl))) (mvT hZ (hw _ (List.mem_of_getElem? (i := 14) rfl))) (by decide) (backOfSX (W := 0) (rm149 l Z a0 hw [] a b h0 n0 Z0 Ea Fv Fc ga) hZ (hw _ (List.mem_of_getElem? (i := 14) rfl)) (hw _ (List.mem_of_getElem? (i := 7) rfl)) (by decide) (by decide) hEL hR.1 (fun x hx => by cases List.mem_singleton.mp hx; exact ⟨Ea.lt, Sf_a⟩)) (g := (mkF m 6 #[.val (.ref a), .val (.ref b)] [.null, (.int (0 : Int32)), (.int (0 : Int32)), (.ref b), (.ref a)])) rfl (by rw [hml]; rfl) (Steps.refl _) (a := a) (argsL := [(.ref b), (.int (0 : Int32)), (.int (0 : Int32)), .null]) (rest := []) (lenOf pd2 rfl) rfl (by show 2 * 0 + _ ≤ _; exact Nat.le_of_eq rfl) (hb hby d3_6) (fun _ _ => ⟨rfl, e0, (by decide : 0 + 4 ≤ _), (by decide : 0 + 8 ≤ _)⟩)
  dsimp only [Pt.U, Pt.locs, Pt.cells, Pt.slots] at X4 l4 y4 z4 st4 hQ4 hS4 hge4 hCr4
  subst l4 y4 z4
  obtain ⟨X4, hS, hZ, hown⟩ := rebS hS (by rw [e0]; exact hk) X4 hS4 hge4 hZ hown
  have hk : T4.heap.size ≤ T4.heap.size := Nat.le_refl _
  have hR := hR.trans hCr4
  obtain ⟨rfl, N1, K1, D1, A1⟩ := hQ4
  have c4 : Steps p.tables e below S0 (T4.setTop (mkF m 9 #[.val (.ref a), .val (.ref b)] [])) := by
    refine c3.trans ?_
    show Steps p.tables e below (s₁.setTop (mkF m 6 #[.val (.ref a), .val (.ref b)] [.null, (.int (0 : Int32)), (.int (0 : Int32)), (.ref b), (.ref a)])) _
    refine st4.trans ?_
    exact Steps.refl _
  obtain ⟨fs, hr, hrun, hended, hW⟩ := X4.leaveW hS hk (v := none) (fun _ => rfl)
  refine ⟨_, _, c4.trans ?_, hrun, hended, _, _, rfl, ?_, ?_, hW.1, hW.2.1, hW.2.2.1, hW.2.2.2.mono (by decide) (by decide)⟩
  · show Steps p.tables e below (T4.setTop (mkF m 9 #[.val (.ref a), .val (.ref b)] [])) _
    exact X4.returnOut hx Bd.returns (hb hby d3_9) hr
  · show Q3 Z a b cb h0 n0 _ T4.heap _
    exact ⟨rfl, Fr.app N0 N1, K1, D1, A1⟩
  · show CHr Z consts_1 s.vm s.heap T4.vm T4.heap
    rw [hh, ← hV0]
    exact hR.trans (CHv.at X4 hZ hEL hR.1)
def Q0 (Z : State) (i0 : Int32) (i1 : Int32) (i2 : Int32) (i3 : Int32) (G1 : Int32) (h0 : Heap) (n0 : Nat) (v : Option Value) (h : Heap) (L : List Loc) : Prop := v = some (.int 1) ∧ Fr n0 L
theorem ef0 (m : MethodId) (i0 : Int32) (i1 : Int32) (i2 : Int32) (i3 : Int32) : entryFrame m #[(.int i0), (.int i1), (.int i2), (.int i3)] maxLocals = mkF m 0 #[.val (.int i0), .val (.int i1), .val (.int i2), .val (.int i3), .unset, .unset, .unset, .unset, .unset, .unset, .unset, .unset, .unset] [] := by first | (simp [entryFrame, mkF, argsToLocals, Value.category, maxLocals]; done) | rfl
set_option maxRecDepth 65536 in
set_option maxHeartbeats 40000000 in
theorem rm0 (l : Launch) (Z : State) (a0 : Array Value) (hw : ∀ d ∈ tables_1, d.before a0 Z = true) (ws : List Jvm.Cond) (i0 : Int32) (i1 : Int32) (i2 : Int32) (i3 : Int32) (G1 : Int32) (h0 : Heap) (n0 : Nat) (Z0 : n0 ≤ h0.size) (O2 : Sta Z Z.heap "java/lang/String" "COMPACT_STRINGS" "Z" (.int G1)) (P5 : ¬ G1 = 0) (X00 : Old Z n0 h0) :
    MetFree l x (head1 (Jvm.Cond.code x code maxLocals ret :: ws) room_1) (fun aa UU => aa = #[(.int i0), (.int i1), (.int i2), (.int i3)] ∧ Z.Warmed39 UU.vm ∧ UU.heap = h0 ∧ CHv Z consts_1 UU.vm h0 ∧ ∀ x ∈ ([] : List Addr), Safe Z consts_1 UU.vm h0 x) (fun _ _ _ _ _ => True) (fun _ UU oo UT => ∃ vv LL, oo = .returned vv ∧ Q0 Z i0 i1 i2 i3 G1 h0 n0 vv UT.heap LL ∧ CHr Z consts_1 UU.vm UU.heap UT.vm UT.heap ∧ ReturnedEndW UU oo UT LL 32 1152) := by
  refine MetFree.of_bodySF (plainFor_of_name pn0) hisR ?_
  intro p e s m args below meth c s₁ Bd hml0 hP hK
  obtain ⟨rfl, hZ, hh, hC, hX⟩ := hP
  have hx := Bd.exec
  have hby := Bd.bytes
  have hml : c.maxLocals = 13 := hml0
  have hown : s.vm.findClass "com/example/attestry/attestry/saml/StatusInnermostCodePinLaw" = some m.cls := findClass_of_methodNamed Bd.named
  have hnm := (name_of_methodNamed Bd.named Bd.method).1
  have X0 : Stand p l e room_1 s m #[(.int i0), (.int i1), (.int i2), (.int i3)] below meth c s₁ [] 0 0 := Stand.of_body Bd
  have e0 : s₁.heap = h0 := by rw [← hh, Bd.state]; rfl
  have N0 := Fr.nil n0
  have c0 : Steps p.tables e below (s₁.setTop (entryFrame m #[(.int i0), (.int i1), (.int i2), (.int i3)] maxLocals)) (s₁.setTop (mkF m 0 #[.val (.int i0), .val (.int i1), .val (.int i2), .val (.int i3), .unset, .unset, .unset, .unset, .unset, .unset, .unset, .unset, .unset] [])) := castTop (ef0 m i0 i1 i2 i3) (Steps.refl _)
  show ∃ s₂ oo, Steps p.tables e below (s₁.setTop (entryFrame m #[(.int i0), (.int i1), (.int i2), (.int i3)] maxLocals)) s₂ ∧ _ ∧ _ ∧ _
  generalize s₁.setTop (entryFrame m #[(.int i0), (.int i1), (.int i2), (.int i3)] maxLocals) = S0 at c0 ⊢
  obtain ⟨V0, hV0⟩ : ∃ V, V = s.vm := ⟨_, rfl⟩
  have Xs : Stand p l e room_1 (s.setVm V0) m #[(.int i0), (.int i1), (.int i2), (.int i3)] below meth c s₁ [] 0 0 := by subst hV0; exact X0
  have hS : s.Since V0 h0.size := by subst hV0; exact (State.WarmedH.refl s).since _
  replace hZ : Z.Warmed39 (s.setVm V0).vm := by subst hV0; exact hZ
  replace hown : (s.setVm V0).vm.findClass "com/example/attestry/attestry/saml/StatusInnermostCodePinLaw" = some m.cls := by subst hV0; exact hown
  have hk : h0.size ≤ h0.size := Nat.le_refl _
  have Zh := Z0
  have hR : CHr Z consts_1 V0 h0 V0 h0 := by subst hV0; exact CHr.refl hC
  have hEL := own_EW hw
  have hO := X00
  have Nf := N0
  have c1 : Steps p.tables e below S0 (s₁.setTop (mkF m 3 #[.val (.int i0), .val (.int i1), .val (.int i2), .val (.int i3), .unset, .unset, .unset, .unset, .unset, .unset, .unset, .unset, .unset] [(.int (i3 &&& (1 : Int32)))])) := by
    refine c0.trans ?_
    show Steps p.tables e below (s₁.setTop (mkF m 0 #[.val (.int i0), .val (.int i1), .val (.int i2), .val (.int i3), .unset, .unset, .unset, .unset, .unset, .unset, .unset, .unset, .unset] [])) _
    refine XS.iloadN Xs.here hx rfl (hb hby at_0) rfl ?_
    show Steps p.tables e below (s₁.setTop (mkF m 1 #[.val (.int i0), .val (.int i1), .val (.int i2), .val (.int i3), .unset, .unset, .unset, .unset, .unset, .unset, .unset, .unset, .unset] [(.int i3)])) _
    refine XS.iconst Xs.here hx rfl (hb hby at_1) ?_
    show Steps p.tables e below (s₁.setTop (mkF m 2 #[.val (.int i0), .val (.int i1), .val (.int i2), .val (.int i3), .unset, .unset, .unset, .unset, .unset, .unset, .unset, .unset, .unset] [(.int (1 : Int32)), (.int i3)])) _
    refine XS.iand Xs.here hx rfl (hb hby at_2) rfl ?_
    exact Steps.refl _
  have c2 : Steps p.tables e below S0 (s₁.setTop (mkF m 11 #[.val (.int i0), .val (.int i1), .val (.int i2), .val (.int i3), .unset, .unset, .unset, .unset, .unset, .unset, .unset, .unset, .unset] [(.int (if (i3 &&& (1 : Int32)) = 0 then (0 : Int32) else (1 : Int32)))])) := by
    refine c1.trans ?_
    by_cases hj : (i3 &&& (1 : Int32)) = 0
    · rw [if_pos hj]
      show Steps p.tables e below (s₁.setTop (mkF m 3 #[.val (.int i0), .val (.int i1), .val (.int i2), .val (.int i3), .unset, .unset, .unset, .unset, .unset, .unset, .unset, .unset, .unset] [(.int (i3 &&& (1 : Int32)))])) _
      refine XS.ifYes Xs.here hx rfl (pc0 := 3) (pc' := 10) rfl (hb hby at_3) rfl ((if0 _ _).trans (teq hj).1) (by decide) (by decide) ?_
      show Steps p.tables e below (s₁.setTop (mkF m 10 #[.val (.int i0), .val (.int i1), .val (.int i2), .val (.int i3), .unset, .unset, .unset, .unset, .unset, .unset, .unset, .unset, .unset] [])) _
      refine XS.iconst Xs.here hx rfl (hb hby at_10) ?_
      exact Steps.refl _
    · rw [if_neg hj]
      show Steps p.tables e below (s₁.setTop (mkF m 3 #[.val (.int i0), .val (.int i1), .val (.int i2), .val (.int i3), .unset, .unset, .unset, .unset, .unset, .unset, .unset, .unset, .unset] [(.int (i3 &&& (1 : Int32)))])) _
      refine XS.ifNo Xs.here hx rfl (hb hby at_3) rfl ((if0 _ _).trans (feq hj).1) ?_
      show Steps p.tables e below (s₁.setTop (mkF m 6 #[.val (.int i0), .val (.int i1), .val (.int i2), .val (.int i3), .unset, .unset, .unset, .unset, .unset, .unset, .unset, .unset, .unset] [])) _
      refine XS.iconst Xs.here hx rfl (hb hby at_6) ?_
      show Steps p.tables e below (s₁.setTop (mkF m 7 #[.val (.int i0), .val (.int i1), .val (.int i2), .val (.int i3), .unset, .unset, .unset, .unset, .unset, .unset, .unset, .unset, .unset] [(.int (1 : Int32))])) _
      refine XS.goto Xs.here hx rfl (pc0 := 7) (pc' := 11) rfl (hb hby at_7) (by decide) (by decide) ?_
      exact Steps.refl _
  generalize (if (i3 &&& (1 : Int32)) = 0 then (0 : Int32) else (1 : Int32)) = f1 at c2
  have c3 : Steps p.tables e below S0 (s₁.setTop (mkF m 16 #[.val (.int i0), .val (.int i1), .val (.int i2), .val (.int i3), .val (.int f1), .unset, .unset, .unset, .unset, .unset, .unset, .unset, .unset] [(.int (i3 &&& (2 : Int32)))])) := by
    refine c2.trans ?_
    show Steps p.tables e below (s₁.setTop (mkF m 11 #[.val (.int i0), .val (.int i1), .val (.int i2), .val (.int i3), .unset, .unset, .unset, .unset, .unset, .unset, .unset, .unset, .unset] [(.int f1)])) _
    refine XS.istore Xs.here hx rfl (hb hby at_11) rfl (l' := #[.val (.int i0), .val (.int i1), .val (.int i2), .val (.int i3), .val (.int f1), .unset, .unset, .unset, .unset, .unset, .unset, .unset, .unset]) rfl ?_
    show Steps p.tables e below (s₁.setTop (mkF m 13 #[.val (.int i0), .val (.int i1), .val (.int i2), .val (.int i3), .val (.int f1), .unset, .unset, .unset, .unset, .unset, .unset, .unset, .unset] [])) _
    refine XS.iloadN Xs.here hx rfl (hb hby at_13) rfl ?_
    show Steps p.tables e below (s₁.setTop (mkF m 14 #[.val (.int i0), .val (.int i1), .val (.int i2), .val (.int i3), .val (.int f1), .unset, .unset, .unset, .unset, .unset, .unset, .unset, .unset] [(.int i3)])) _
    refine XS.iconst Xs.here hx rfl (hb hby at_14) ?_
    show Steps p.tables e below (s₁.setTop (mkF m 15 #[.val (.int i0), .val (.int i1), .val (.int i2), .val (.int i3), .val (.int f1), .unset, .unset, .unset, .unset, .unset, .unset, .unset, .unset] [(.int (2 : Int32)), (.int i3)])) _
    refine XS.iand Xs.here hx rfl (hb hby at_15) rfl ?_
    exact Steps.refl _
  have c4 : Steps p.tables e below S0 (s₁.setTop (mkF m 24 #[.val (.int i0), .val (.int i1), .val (.int i2), .val (.int i3), .val (.int f1), .unset, .unset, .unset, .unset, .unset, .unset, .unset, .unset] [(.int (if (i3 &&& (2 : Int32)) = 0 then (0 : Int32) else (1 : Int32)))])) := by
    refine c3.trans ?_
    by_cases hj : (i3 &&& (2 : Int32)) = 0
    · rw [if_pos hj]
      show Steps p.tables e below (s₁.setTop (mkF m 16 #[.val (.int i0), .val (.int i1), .val (.int i2), .val (.int i3), .val (.int f1), .unset, .unset, .unset, .unset, .unset, .unset, .unset, .unset] [(.int (i3 &&& (2 : Int32)))])) _
      refine XS.ifYes Xs.here hx rfl (pc0 := 16) (pc' := 23) rfl (hb hby at_16) rfl ((if0 _ _).trans (teq hj).1) (by decide) (by decide) ?_
      show Steps p.tables e below (s₁.setTop (mkF m 23 #[.val (.int i0), .val (.int i1), .val (.int i2), .val (.int i3), .val (.int f1), .unset, .unset, .unset, .unset, .unset, .unset, .unset, .unset] [])) _
      refine XS.iconst Xs.here hx rfl (hb hby at_23) ?_
      exact Steps.refl _
    · rw [if_neg hj]
      show Steps p.tables e below (s₁.setTop (mkF m 16 #[.val (.int i0), .val (.int i1), .val (.int i2), .val (.int i3), .val (.int f1), .unset, .unset, .unset, .unset, .unset, .unset, .unset, .unset] [(.int (i3 &&& (2 : Int32)))])) _
      refine XS.ifNo Xs.here hx rfl (hb hby at_16) rfl ((if0 _ _).trans (feq hj).1) ?_
      show Steps p.tables e below (s₁.setTop (mkF m 19 #[.val (.int i0), .val (.int i1), .val (.int i2), .val (.int i3), .val (.int f1), .unset, .unset, .unset, .unset, .unset, .unset, .unset, .unset] [])) _
      refine XS.iconst Xs.here hx rfl (hb hby at_19) ?_
      show Steps p.tables e below (s₁.setTop (mkF m 20 #[.val (.int i0), .val (.int i1), .val (.int i2), .val (.int i3), .val (.int f1), .unset, .unset, .unset, .unset, .unset, .unset, .unset, .unset] [(.int (1 : Int32))])) _
      refine XS.goto Xs.here hx rfl (pc0 := 20) (pc' := 24) rfl (hb hby at_20) (by decide) (by decide) ?_
      exact Steps.refl _
  generalize (if (i3 &&& (2 : Int32)) = 0 then (0 : Int32) else (1 : Int32)) = f2 at c4
  have c5 : Steps p.tables e below S0 (s₁.setTop (mkF m 29 #[.val (.int i0), .val (.int i1), .val (.int i2), .val (.int i3), .val (.int f1), .val (.int f2), .unset, .unset, .unset, .unset, .unset, .unset, .unset] [(.int (i3 &&& (4 : Int32)))])) := by
    refine c4.trans ?_
    show Steps p.tables e below (s₁.setTop (mkF m 24 #[.val (.int i0), .val (.int i1), .val (.int i2), .val (.int i3), .val (.int f1), .unset, .unset, .unset, .unset, .unset, .unset, .unset, .unset] [(.int f2)])) _
    refine XS.istore Xs.here hx rfl (hb hby at_24) rfl (l' := #[.val (.int i0), .val (.int i1), .val (.int i2), .val (.int i3), .val (.int f1), .val (.int f2), .unset, .unset, .unset, .unset, .unset, .unset, .unset]) rfl ?_
    show Steps p.tables e below (s₁.setTop (mkF m 26 #[.val (.int i0), .val (.int i1), .val (.int i2), .val (.int i3), .val (.int f1), .val (.int f2), .unset, .unset, .unset, .unset, .unset, .unset, .unset] [])) _
    refine XS.iloadN Xs.here hx rfl (hb hby at_26) rfl ?_
    show Steps p.tables e below (s₁.setTop (mkF m 27 #[.val (.int i0), .val (.int i1), .val (.int i2), .val (.int i3), .val (.int f1), .val (.int f2), .unset, .unset, .unset, .unset, .unset, .unset, .unset] [(.int i3)])) _
    refine XS.iconst Xs.here hx rfl (hb hby at_27) ?_
    show Steps p.tables e below (s₁.setTop (mkF m 28 #[.val (.int i0), .val (.int i1), .val (.int i2), .val (.int i3), .val (.int f1), .val (.int f2), .unset, .unset, .unset, .unset, .unset, .unset, .unset] [(.int (4 : Int32)), (.int i3)])) _
    refine XS.iand Xs.here hx rfl (hb hby at_28) rfl ?_
    exact Steps.refl _
  have c6 : Steps p.tables e below S0 (s₁.setTop (mkF m 37 #[.val (.int i0), .val (.int i1), .val (.int i2), .val (.int i3), .val (.int f1), .val (.int f2), .unset, .unset, .unset, .unset, .unset, .unset, .unset] [(.int (if (i3 &&& (4 : Int32)) = 0 then (0 : Int32) else (1 : Int32)))])) := by
    refine c5.trans ?_
    by_cases hj : (i3 &&& (4 : Int32)) = 0
    · rw [if_pos hj]
      show Steps p.tables e below (s₁.setTop (mkF m 29 #[.val (.int i0), .val (.int i1), .val (.int i2), .val (.int i3), .val (.int f1), .val (.int f2), .unset, .unset, .unset, .unset, .unset, .unset, .unset] [(.int (i3 &&& (4 : Int32)))])) _
      refine XS.ifYes Xs.here hx rfl (pc0 := 29) (pc' := 36) rfl (hb hby at_29) rfl ((if0 _ _).trans (teq hj).1) (by decide) (by decide) ?_
      show Steps p.tables e below (s₁.setTop (mkF m 36 #[.val (.int i0), .val (.int i1), .val (.int i2), .val (.int i3), .val (.int f1), .val (.int f2), .unset, .unset, .unset, .unset, .unset, .unset, .unset] [])) _
      refine XS.iconst Xs.here hx rfl (hb hby at_36) ?_
      exact Steps.refl _
    · rw [if_neg hj]
      show Steps p.tables e below (s₁.setTop (mkF m 29 #[.val (.int i0), .val (.int i1), .val (.int i2), .val (.int i3), .val (.int f1), .val (.int f2), .unset, .unset, .unset, .unset, .unset, .unset, .unset] [(.int (i3 &&& (4 : Int32)))])) _
      refine XS.ifNo Xs.here hx rfl (hb hby at_29) rfl ((if0 _ _).trans (feq hj).1) ?_
      show Steps p.tables e below (s₁.setTop (mkF m 32 #[.val (.int i0), .val (.int i1), .val (.int i2), .val (.int i3), .val (.int f1), .val (.int f2), .unset, .unset, .unset, .unset, .unset, .unset, .unset] [])) _
      refine XS.iconst Xs.here hx rfl (hb hby at_32) ?_
      show Steps p.tables e below (s₁.setTop (mkF m 33 #[.val (.int i0), .val (.int i1), .val (.int i2), .val (.int i3), .val (.int f1), .val (.int f2), .unset, .unset, .unset, .unset, .unset, .unset, .unset] [(.int (1 : Int32))])) _
      refine XS.goto Xs.here hx rfl (pc0 := 33) (pc' := 37) rfl (hb hby at_33) (by decide) (by decide) ?_
      exact Steps.refl _
  generalize (if (i3 &&& (4 : Int32)) = 0 then (0 : Int32) else (1 : Int32)) = f3 at c6
  have c7 : Steps p.tables e below S0 (s₁.setTop (mkF m 43 #[.val (.int i0), .val (.int i1), .val (.int i2), .val (.int i3), .val (.int f1), .val (.int f2), .val (.int f3), .unset, .unset, .unset, .unset, .unset, .unset] [(.int (i3 &&& (8 : Int32)))])) := by
    refine c6.trans ?_
    show Steps p.tables e below (s₁.setTop (mkF m 37 #[.val (.int i0), .val (.int i1), .val (.int i2), .val (.int i3), .val (.int f1), .val (.int f2), .unset, .unset, .unset, .unset, .unset, .unset, .unset] [(.int f3)])) _
    refine XS.istore Xs.here hx rfl (hb hby at_37) rfl (l' := #[.val (.int i0), .val (.int i1), .val (.int i2), .val (.int i3), .val (.int f1), .val (.int f2), .val (.int f3), .unset, .unset, .unset, .unset, .unset, .unset]) rfl ?_
    show Steps p.tables e below (s₁.setTop (mkF m 39 #[.val (.int i0), .val (.int i1), .val (.int i2), .val (.int i3), .val (.int f1), .val (.int f2), .val (.int f3), .unset, .unset, .unset, .unset, .unset, .unset] [])) _
    refine XS.iloadN Xs.here hx rfl (hb hby at_39) rfl ?_
    show Steps p.tables e below (s₁.setTop (mkF m 40 #[.val (.int i0), .val (.int i1), .val (.int i2), .val (.int i3), .val (.int f1), .val (.int f2), .val (.int f3), .unset, .unset, .unset, .unset, .unset, .unset] [(.int i3)])) _
    refine XS.bipush Xs.here hx rfl (hb hby at_40) ?_
    show Steps p.tables e below (s₁.setTop (mkF m 42 #[.val (.int i0), .val (.int i1), .val (.int i2), .val (.int i3), .val (.int f1), .val (.int f2), .val (.int f3), .unset, .unset, .unset, .unset, .unset, .unset] [(.int (8 : Int32)), (.int i3)])) _
    refine XS.iand Xs.here hx rfl (hb hby at_42) rfl ?_
    exact Steps.refl _
  have c8 : Steps p.tables e below S0 (s₁.setTop (mkF m 51 #[.val (.int i0), .val (.int i1), .val (.int i2), .val (.int i3), .val (.int f1), .val (.int f2), .val (.int f3), .unset, .unset, .unset, .unset, .unset, .unset] [(.int (if (i3 &&& (8 : Int32)) = 0 then (0 : Int32) else (1 : Int32)))])) := by
    refine c7.trans ?_
    by_cases hj : (i3 &&& (8 : Int32)) = 0
    · rw [if_pos hj]
      show Steps p.tables e below (s₁.setTop (mkF m 43 #[.val (.int i0), .val (.int i1), .val (.int i2), .val (.int i3), .val (.int f1), .val (.int f2), .val (.int f3), .unset, .unset, .unset, .unset, .unset, .unset] [(.int (i3 &&& (8 : Int32)))])) _
      refine XS.ifYes Xs.here hx rfl (pc0 := 43) (pc' := 50) rfl (hb hby at_43) rfl ((if0 _ _).trans (teq hj).1) (by decide) (by decide) ?_
      show Steps p.tables e below (s₁.setTop (mkF m 50 #[.val (.int i0), .val (.int i1), .val (.int i2), .val (.int i3), .val (.int f1), .val (.int f2), .val (.int f3), .unset, .unset, .unset, .unset, .unset, .unset] [])) _
      refine XS.iconst Xs.here hx rfl (hb hby at_50) ?_
      exact Steps.refl _
    · rw [if_neg hj]
      show Steps p.tables e below (s₁.setTop (mkF m 43 #[.val (.int i0), .val (.int i1), .val (.int i2), .val (.int i3), .val (.int f1), .val (.int f2), .val (.int f3), .unset, .unset, .unset, .unset, .unset, .unset] [(.int (i3 &&& (8 : Int32)))])) _
      refine XS.ifNo Xs.here hx rfl (hb hby at_43) rfl ((if0 _ _).trans (feq hj).1) ?_
      show Steps p.tables e below (s₁.setTop (mkF m 46 #[.val (.int i0), .val (.int i1), .val (.int i2), .val (.int i3), .val (.int f1), .val (.int f2), .val (.int f3), .unset, .unset, .unset, .unset, .unset, .unset] [])) _
      refine XS.iconst Xs.here hx rfl (hb hby at_46) ?_
      show Steps p.tables e below (s₁.setTop (mkF m 47 #[.val (.int i0), .val (.int i1), .val (.int i2), .val (.int i3), .val (.int f1), .val (.int f2), .val (.int f3), .unset, .unset, .unset, .unset, .unset, .unset] [(.int (1 : Int32))])) _
      refine XS.goto Xs.here hx rfl (pc0 := 47) (pc' := 51) rfl (hb hby at_47) (by decide) (by decide) ?_
      exact Steps.refl _
  generalize (if (i3 &&& (8 : Int32)) = 0 then (0 : Int32) else (1 : Int32)) = f4 at c8
  have c9 : Steps p.tables e below S0 (s₁.setTop (mkF m 55 #[.val (.int i0), .val (.int i1), .val (.int i2), .val (.int i3), .val (.int f1), .val (.int f2), .val (.int f3), .val (.int f4), .unset, .unset, .unset, .unset, .unset] [(.int f1)])) := by
    refine c8.trans ?_
    show Steps p.tables e below (s₁.setTop (mkF m 51 #[.val (.int i0), .val (.int i1), .val (.int i2), .val (.int i3), .val (.int f1), .val (.int f2), .val (.int f3), .unset, .unset, .unset, .unset, .unset, .unset] [(.int f4)])) _
    refine XS.istore Xs.here hx rfl (hb hby at_51) rfl (l' := #[.val (.int i0), .val (.int i1), .val (.int i2), .val (.int i3), .val (.int f1), .val (.int f2), .val (.int f3), .val (.int f4), .unset, .unset, .unset, .unset, .unset]) rfl ?_
    show Steps p.tables e below (s₁.setTop (mkF m 53 #[.val (.int i0), .val (.int i1), .val (.int i2), .val (.int i3), .val (.int f1), .val (.int f2), .val (.int f3), .val (.int f4), .unset, .unset, .unset, .unset, .unset] [])) _
    refine XS.iload Xs.here hx rfl (hb hby at_53) rfl ?_
    exact Steps.refl _
  by_cases hc1 : f1 = 0
  · have c10 : Steps p.tables e below S0 (s₁.setTop (mkF m 62 #[.val (.int i0), .val (.int i1), .val (.int i2), .val (.int i3), .val (.int f1), .val (.int f2), .val (.int f3), .val (.int f4), .unset, .unset, .unset, .unset, .unset] [])) := by
      refine c9.trans ?_
      show Steps p.tables e below (s₁.setTop (mkF m 55 #[.val (.int i0), .val (.int i1), .val (.int i2), .val (.int i3), .val (.int f1), .val (.int f2), .val (.int f3), .val (.int f4), .unset, .unset, .unset, .unset, .unset] [(.int f1)])) _
      refine XS.ifYes Xs.here hx rfl (pc0 := 55) (pc' := 62) rfl (hb hby at_55) rfl ((if0 _ _).trans (teq hc1).1) (by decide) (by decide) ?_
      exact Steps.refl _
    have c11 : Steps p.tables e below S0 (s₁.setTop (mkF m 63 #[.val (.int i0), .val (.int i1), .val (.int i2), .val (.int i3), .val (.int f1), .val (.int f2), .val (.int f3), .val (.int f4), .unset, .unset, .unset, .unset, .unset] [(.int i0)])) := by
      refine c10.trans ?_
      show Steps p.tables e below (s₁.setTop (mkF m 62 #[.val (.int i0), .val (.int i1), .val (.int i2), .val (.int i3), .val (.int f1), .val (.int f2), .val (.int f3), .val (.int f4), .unset, .unset, .unset, .unset, .unset] [])) _
      refine XS.iloadN Xs.here hx rfl (hb hby at_62) rfl ?_
      exact Steps.refl _
    obtain ⟨_, _, ⟨T12, L12, k12, n12⟩, -, X12, ⟨Lc12, hQ12, l12, y12, z12⟩, st12⟩ := Jvm.LawKit.callS Xs hx (y := (⟨"com/example/attestry/attestry/saml/StatusInnermostCodePinLaw", "drawn", "(I)Ljava/lang/String;"⟩ : MethodName)) hown (mvT hZ (hw _ (List.mem_of_getElem? (i := 0) rfl))) (mvT hZ (hw _ (List.mem_of_getElem? (i := 1) rfl))) (mvT hZ (hw _ (List.mem_of_getElem? (i := 2) rfl))) (mvT hZ (hw _ (List.mem_of_getElem? (i := 3) rfl))) (by decide) (backOf (W := 0) (rm2 l Z a0 hw [] i0 G1 h0 n0 Zh O2 P5 hO) hZ (hw _ (List.mem_of_getElem? (i := 3) rfl)) (hw _ (List.mem_of_getElem? (i := 2) rfl)) (by decide) (by decide)) (g := (mkF m 63 #[.val (.int i0), .val (.int i1), .val (.int i2), .val (.int i3), .val (.int f1), .val (.int f2), .val (.int f3), .val (.int f4), .unset, .unset, .unset, .unset, .unset] [(.int i0)])) rfl (by rw [hml]; rfl) (argsL := [(.int i0)]) (rest := []) (lenOf pd3 rfl) rfl (by show 2 * 0 + _ ≤ _; exact Nat.le_of_eq rfl) (hb hby at_63) (fun _ _ => ⟨rfl, e0, (by decide : 0 + 3 ≤ _), (by decide : 0 + 8 ≤ _)⟩)
    dsimp only [Pt.U, Pt.locs, Pt.cells, Pt.slots] at X12 l12 y12 z12 st12 hQ12
    subst l12 y12 z12
    obtain ⟨⟨rc, rfl⟩, Nd, Kd⟩ := hQ12
    have c12 : Steps p.tables e below S0 (T12.setTop (mkF m 66 #[.val (.int i0), .val (.int i1), .val (.int i2), .val (.int i3), .val (.int f1), .val (.int f2), .val (.int f3), .val (.int f4), .unset, .unset, .unset, .unset, .unset] [(.ref rc)])) := by
      refine c11.trans ?_
      show Steps p.tables e below (s₁.setTop (mkF m 63 #[.val (.int i0), .val (.int i1), .val (.int i2), .val (.int i3), .val (.int f1), .val (.int f2), .val (.int f3), .val (.int f4), .unset, .unset, .unset, .unset, .unset] [(.int i0)])) _
      refine st12 _ ?_
      exact Steps.refl _
    have hRs12 := CHr.keep Kd (fun x hx => by cases hx) hR.1
    have hR := hR.trans hRs12
    have Zh := Nat.le_trans Zh Kd.1
    have hk := Nat.le_trans hk Kd.1
    have hO := hO.keep Kd (fun x hx => by cases hx)
    have Nf := Fr.app Nf Nd
    have c13 : Steps p.tables e below S0 (T12.setTop (mkF m 70 #[.val (.int i0), .val (.int i1), .val (.int i2), .val (.int i3), .val (.int f1), .val (.int f2), .val (.int f3), .val (.int f4), .val (.ref rc), .unset, .unset, .unset, .unset] [(.int f2)])) := by
      refine c12.trans ?_
      show Steps p.tables e below (T12.setTop (mkF m 66 #[.val (.int i0), .val (.int i1), .val (.int i2), .val (.int i3), .val (.int f1), .val (.int f2), .val (.int f3), .val (.int f4), .unset, .unset, .unset, .unset, .unset] [(.ref rc)])) _
      refine XS.astore X12.here hx rfl (hb hby at_66) rfl rfl (l' := #[.val (.int i0), .val (.int i1), .val (.int i2), .val (.int i3), .val (.int f1), .val (.int f2), .val (.int f3), .val (.int f4), .val (.ref rc), .unset, .unset, .unset, .unset]) rfl ?_
      show Steps p.tables e below (T12.setTop (mkF m 68 #[.val (.int i0), .val (.int i1), .val (.int i2), .val (.int i3), .val (.int f1), .val (.int f2), .val (.int f3), .val (.int f4), .val (.ref rc), .unset, .unset, .unset, .unset] [])) _
      refine XS.iload X12.here hx rfl (hb hby at_68) rfl ?_
      exact Steps.refl _
    by_cases hs2 : f2 = 0
    · have c14 : Steps p.tables e below S0 (T12.setTop (mkF m 81 #[.val (.int i0), .val (.int i1), .val (.int i2), .val (.int i3), .val (.int f1), .val (.int f2), .val (.int f3), .val (.int f4), .val (.ref rc), .unset, .unset, .unset, .unset] [(.int f3)])) := by
        refine c13.trans ?_
        show Steps p.tables e below (T12.setTop (mkF m 70 #[.val (.int i0), .val (.int i1), .val (.int i2), .val (.int i3), .val (.int f1), .val (.int f2), .val (.int f3), .val (.int f4), .val (.ref rc), .unset, .unset, .unset, .unset] [(.int f2)])) _
        refine XS.ifYes X12.here hx rfl (pc0 := 70) (pc' := 79) rfl (hb hby at_70) rfl ((if0 _ _).trans (teq hs2).1) (by decide) (by decide) ?_
        show Steps p.tables e below (T12.setTop (mkF m 79 #[.val (.int i0), .val (.int i1), .val (.int i2), .val (.int i3), .val (.int f1), .val (.int f2), .val (.int f3), .val (.int f4), .val (.ref rc), .unset, .unset, .unset, .unset] [])) _
        refine XS.iload X12.here hx rfl (hb hby at_79) rfl ?_
        exact Steps.refl _
      by_cases hs3 : f3 = 0
      · have c15 : Steps p.tables e below S0 (T12.setTop (mkF m 99 #[.val (.int i0), .val (.int i1), .val (.int i2), .val (.int i3), .val (.int f1), .val (.int f2), .val (.int f3), .val (.int f4), .val (.ref rc), .unset, .unset, .unset, .unset] [])) := by
          refine c14.trans ?_
          show Steps p.tables e below (T12.setTop (mkF m 81 #[.val (.int i0), .val (.int i1), .val (.int i2), .val (.int i3), .val (.int f1), .val (.int f2), .val (.int f3), .val (.int f4), .val (.ref rc), .unset, .unset, .unset, .unset] [(.int f3)])) _
          refine XS.ifYes X12.here hx rfl (pc0 := 81) (pc' := 99) rfl (hb hby at_81) rfl ((if0 _ _).trans (teq hs3).1) (by decide) (by decide) ?_
          exact Steps.refl _
        have c16 : Steps p.tables e below S0 (T12.setTop (mkF m 100 #[.val (.int i0), .val (.int i1), .val (.int i2), .val (.int i3), .val (.int f1), .val (.int f2), .val (.int f3), .val (.int f4), .val (.ref rc), .unset, .unset, .unset, .unset] [(.int i1)])) := by
          refine c15.trans ?_
          show Steps p.tables e below (T12.setTop (mkF m 99 #[.val (.int i0), .val (.int i1), .val (.int i2), .val (.int i3), .val (.int f1), .val (.int f2), .val (.int f3), .val (.int f4), .val (.ref rc), .unset, .unset, .unset, .unset] [])) _
          refine XS.iloadN X12.here hx rfl (hb hby at_99) rfl ?_
          exact Steps.refl _
        obtain ⟨_, _, ⟨T17, L17, k17, n17⟩, -, X17, ⟨Lc17, hQ17, l17, y17, z17⟩, st17⟩ := Jvm.LawKit.callS X12 hx (y := (⟨"com/example/attestry/attestry/saml/StatusInnermostCodePinLaw", "drawn", "(I)Ljava/lang/String;"⟩ : MethodName)) hown (mvT hZ (hw _ (List.mem_of_getElem? (i := 0) rfl))) (mvT hZ (hw _ (List.mem_of_getElem? (i := 1) rfl))) (mvT hZ (hw _ (List.mem_of_getElem? (i := 2) rfl))) (mvT hZ (hw _ (List.mem_of_getElem? (i := 3) rfl))) (by decide) (backOf (W := 0) (rm2 l Z a0 hw [] i1 G1 T12.heap n0 Zh O2 P5 hO) hZ (hw _ (List.mem_of_getElem? (i := 3) rfl)) (hw _ (List.mem_of_getElem? (i := 2) rfl)) (by decide) (by decide)) (g := (mkF m 100 #[.val (.int i0), .val (.int i1), .val (.int i2), .val (.int i3), .val (.int f1), .val (.int f2), .val (.int f3), .val (.int f4), .val (.ref rc), .unset, .unset, .unset, .unset] [(.int i1)])) rfl (by rw [hml]; rfl) (argsL := [(.int i1)]) (rest := []) (lenOf pd3 rfl) rfl (by show 2 * 0 + _ ≤ _; exact Nat.le_of_eq rfl) (hb hby at_100) (fun _ _ => ⟨rfl, rfl, (by decide : 3 + 3 ≤ _), (by decide : 8 + 8 ≤ _)⟩)
        dsimp only [Pt.U, Pt.locs, Pt.cells, Pt.slots] at X17 l17 y17 z17 st17 hQ17
        subst l17 y17 z17
        obtain ⟨⟨rs, rfl⟩, Nd, Kd⟩ := hQ17
        have c17 : Steps p.tables e below S0 (T17.setTop (mkF m 103 #[.val (.int i0), .val (.int i1), .val (.int i2), .val (.int i3), .val (.int f1), .val (.int f2), .val (.int f3), .val (.int f4), .val (.ref rc), .unset, .unset, .unset, .unset] [(.ref rs)])) := by
          refine c16.trans ?_
          show Steps p.tables e below (T12.setTop (mkF m 100 #[.val (.int i0), .val (.int i1), .val (.int i2), .val (.int i3), .val (.int f1), .val (.int f2), .val (.int f3), .val (.int f4), .val (.ref rc), .unset, .unset, .unset, .unset] [(.int i1)])) _
          refine st17 _ ?_
          exact Steps.refl _
        have hRs17 := CHr.keep Kd (fun x hx => by cases hx) hR.1
        have hR := hR.trans hRs17
        have Zh := Nat.le_trans Zh Kd.1
        have hk := Nat.le_trans hk Kd.1
        have hO := hO.keep Kd (fun x hx => by cases hx)
        have Nf := Fr.app Nf Nd
        have c18 : Steps p.tables e below S0 (T17.setTop (mkF m 105 #[.val (.int i0), .val (.int i1), .val (.int i2), .val (.int i3), .val (.int f1), .val (.int f2), .val (.int f3), .val (.int f4), .val (.ref rc), .val (.ref rs), .unset, .unset, .unset] [])) := by
          refine c17.trans ?_
          show Steps p.tables e below (T17.setTop (mkF m 103 #[.val (.int i0), .val (.int i1), .val (.int i2), .val (.int i3), .val (.int f1), .val (.int f2), .val (.int f3), .val (.int f4), .val (.ref rc), .unset, .unset, .unset, .unset] [(.ref rs)])) _
          refine XS.astore X17.here hx rfl (hb hby at_103) rfl rfl (l' := #[.val (.int i0), .val (.int i1), .val (.int i2), .val (.int i3), .val (.int f1), .val (.int f2), .val (.int f3), .val (.int f4), .val (.ref rc), .val (.ref rs), .unset, .unset, .unset]) rfl ?_
          exact Steps.refl _
        have c19 : Steps p.tables e below S0 (T17.setTop (mkF m 107 #[.val (.int i0), .val (.int i1), .val (.int i2), .val (.int i3), .val (.int f1), .val (.int f2), .val (.int f3), .val (.int f4), .val (.ref rc), .val (.ref rs), .unset, .unset, .unset] [(.int f4)])) := by
          refine c18.trans ?_
          show Steps p.tables e below (T17.setTop (mkF m 105 #[.val (.int i0), .val (.int i1), .val (.int i2), .val (.int i3), .val (.int f1), .val (.int f2), .val (.int f3), .val (.int f4), .val (.ref rc), .val (.ref rs), .unset, .unset, .unset] [])) _
          refine XS.iload X17.here hx rfl (hb hby at_105) rfl ?_
          exact Steps.refl _
        by_cases hm : f4 = 0
        · have c20 : Steps p.tables e below S0 (T17.setTop (mkF m 114 #[.val (.int i0), .val (.int i1), .val (.int i2), .val (.int i3), .val (.int f1), .val (.int f2), .val (.int f3), .val (.int f4), .val (.ref rc), .val (.ref rs), .unset, .unset, .unset] [])) := by
            refine c19.trans ?_
            show Steps p.tables e below (T17.setTop (mkF m 107 #[.val (.int i0), .val (.int i1), .val (.int i2), .val (.int i3), .val (.int f1), .val (.int f2), .val (.int f3), .val (.int f4), .val (.ref rc), .val (.ref rs), .unset, .unset, .unset] [(.int f4)])) _
            refine XS.ifYes X17.here hx rfl (pc0 := 107) (pc' := 114) rfl (hb hby at_107) rfl ((if0 _ _).trans (teq hm).1) (by decide) (by decide) ?_
            exact Steps.refl _
          have c21 : Steps p.tables e below S0 (T17.setTop (mkF m 115 #[.val (.int i0), .val (.int i1), .val (.int i2), .val (.int i3), .val (.int f1), .val (.int f2), .val (.int f3), .val (.int f4), .val (.ref rc), .val (.ref rs), .unset, .unset, .unset] [(.int i2)])) := by
            refine c20.trans ?_
            show Steps p.tables e below (T17.setTop (mkF m 114 #[.val (.int i0), .val (.int i1), .val (.int i2), .val (.int i3), .val (.int f1), .val (.int f2), .val (.int f3), .val (.int f4), .val (.ref rc), .val (.ref rs), .unset, .unset, .unset] [])) _
            refine XS.iloadN X17.here hx rfl (hb hby at_114) rfl ?_
            exact Steps.refl _
          obtain ⟨_, _, ⟨T22, L22, k22, n22⟩, -, X22, ⟨Lc22, hQ22, l22, y22, z22⟩, st22⟩ := Jvm.LawKit.callS X17 hx (y := (⟨"com/example/attestry/attestry/saml/StatusInnermostCodePinLaw", "drawn", "(I)Ljava/lang/String;"⟩ : MethodName)) hown (mvT hZ (hw _ (List.mem_of_getElem? (i := 0) rfl))) (mvT hZ (hw _ (List.mem_of_getElem? (i := 1) rfl))) (mvT hZ (hw _ (List.mem_of_getElem? (i := 2) rfl))) (mvT hZ (hw _ (List.mem_of_getElem? (i := 3) rfl))) (by decide) (backOf (W := 0) (rm2 l Z a0 hw [] i2 G1 T17.heap n0 Zh O2 P5 hO) hZ (hw _ (List.mem_of_getElem? (i := 3) rfl)) (hw _ (List.mem_of_getElem? (i := 2) rfl)) (by decide) (by decide)) (g := (mkF m 115 #[.val (.int i0), .val (.int i1), .val (.int i2), .val (.int i3), .val (.int f1), .val (.int f2), .val (.int f3), .val (.int f4), .val (.ref rc), .val (.ref rs), .unset, .unset, .unset] [(.int i2)])) rfl (by rw [hml]; rfl) (argsL := [(.int i2)]) (rest := []) (lenOf pd3 rfl) rfl (by show 2 * 0 + _ ≤ _; exact Nat.le_of_eq rfl) (hb hby at_115) (fun _ _ => ⟨rfl, rfl, (by decide : 6 + 3 ≤ _), (by decide : 16 + 8 ≤ _)⟩)
          dsimp only [Pt.U, Pt.locs, Pt.cells, Pt.slots] at X22 l22 y22 z22 st22 hQ22
          subst l22 y22 z22
          obtain ⟨⟨rm, rfl⟩, Nd, Kd⟩ := hQ22
          have c22 : Steps p.tables e below S0 (T22.setTop (mkF m 118 #[.val (.int i0), .val (.int i1), .val (.int i2), .val (.int i3), .val (.int f1), .val (.int f2), .val (.int f3), .val (.int f4), .val (.ref rc), .val (.ref rs), .unset, .unset, .unset] [(.ref rm)])) := by
            refine c21.trans ?_
            show Steps p.tables e below (T17.setTop (mkF m 115 #[.val (.int i0), .val (.int i1), .val (.int i2), .val (.int i3), .val (.int f1), .val (.int f2), .val (.int f3), .val (.int f4), .val (.ref rc), .val (.ref rs), .unset, .unset, .unset] [(.int i2)])) _
            refine st22 _ ?_
            exact Steps.refl _
          have hRs22 := CHr.keep Kd (fun x hx => by cases hx) hR.1
          have hR := hR.trans hRs22
          have Zh := Nat.le_trans Zh Kd.1
          have hk := Nat.le_trans hk Kd.1
          have hO := hO.keep Kd (fun x hx => by cases hx)
          have Nf := Fr.app Nf Nd
          have c23 : Steps p.tables e below S0 (T22.setTop (mkF m 120 #[.val (.int i0), .val (.int i1), .val (.int i2), .val (.int i3), .val (.int f1), .val (.int f2), .val (.int f3), .val (.int f4), .val (.ref rc), .val (.ref rs), .val (.ref rm), .unset, .unset] [])) := by
            refine c22.trans ?_
            show Steps p.tables e below (T22.setTop (mkF m 118 #[.val (.int i0), .val (.int i1), .val (.int i2), .val (.int i3), .val (.int f1), .val (.int f2), .val (.int f3), .val (.int f4), .val (.ref rc), .val (.ref rs), .unset, .unset, .unset] [(.ref rm)])) _
            refine XS.astore X22.here hx rfl (hb hby at_118) rfl rfl (l' := #[.val (.int i0), .val (.int i1), .val (.int i2), .val (.int i3), .val (.int f1), .val (.int f2), .val (.int f3), .val (.int f4), .val (.ref rc), .val (.ref rs), .val (.ref rm), .unset, .unset]) rfl ?_
            exact Steps.refl _
          obtain ⟨T24, h24, X24, e24, E24, A24, D24, -, st24⟩ := newO X22 hx hZ hown (hw _ (List.mem_of_getElem? (i := 34) rfl)) (hw _ (List.mem_of_getElem? (i := 35) rfl)) (hw _ (List.mem_of_getElem? (i := 36) rfl)) rfl (g := (mkF m 120 #[.val (.int i0), .val (.int i1), .val (.int i2), .val (.int i3), .val (.int f1), .val (.int f2), .val (.int f3), .val (.int f4), .val (.ref rc), .val (.ref rs), .val (.ref rm), .unset, .unset] [])) rfl (hb hby at_120) (by decide) (by decide)
          obtain ⟨b24, g24⟩ : ∃ z, z = T22.heap.size := ⟨_, rfl⟩
          rw [← g24] at A24 D24 st24
          have c24 : Steps p.tables e below S0 (T24.setTop (mkF m 123 #[.val (.int i0), .val (.int i1), .val (.int i2), .val (.int i3), .val (.int f1), .val (.int f2), .val (.int f3), .val (.int f4), .val (.ref rc), .val (.ref rs), .val (.ref rm), .unset, .unset] [(.ref b24)])) := by
            refine c23.trans ?_
            show Steps p.tables e below (T22.setTop (mkF m 120 #[.val (.int i0), .val (.int i1), .val (.int i2), .val (.int i3), .val (.int f1), .val (.int f2), .val (.int f3), .val (.int f4), .val (.ref rc), .val (.ref rs), .val (.ref rm), .unset, .unset] [])) _
            refine st24 _ ?_
            exact Steps.refl _
          have Sf_b24 := Safe.ext E24 hR.1 (Safe.new (Nat.le_of_eq g24.symm))
          have gb24 : n0 ≤ b24 := Nat.le_trans Zh (Nat.le_of_eq g24.symm)
          have hRs24 := CHr.ext E24 hR.1
          have hR := hR.trans hRs24
          have Zh := Nat.le_trans Zh E24.1
          have hk := Nat.le_trans hk E24.1
          have Gc : Fld Z h24 b24 "com/example/attestry/attestry/saml/Status" "code" "Ljava/lang/String;" .null := D24 (Or.inr (hw _ (List.mem_of_getElem? (i := 47) rfl))) (ty := (.object "java/lang/String")) (by decide)
          have Gs : Fld Z h24 b24 "com/example/attestry/attestry/saml/Status" "subcode" "Ljava/lang/String;" .null := D24 (Or.inr (hw _ (List.mem_of_getElem? (i := 49) rfl))) (ty := (.object "java/lang/String")) (by decide)
          have Gm : Fld Z h24 b24 "com/example/attestry/attestry/saml/Status" "message" "Ljava/lang/String;" .null := D24 (Or.inr (hw _ (List.mem_of_getElem? (i := 51) rfl))) (ty := (.object "java/lang/String")) (by decide)
          have c25 : Steps p.tables e below S0 (T24.setTop (mkF m 130 #[.val (.int i0), .val (.int i1), .val (.int i2), .val (.int i3), .val (.int f1), .val (.int f2), .val (.int f3), .val (.int f4), .val (.ref rc), .val (.ref rs), .val (.ref rm), .unset, .unset] [(.ref rm), (.ref rs), (.ref rc), (.ref b24), (.ref b24)])) := by
            refine c24.trans ?_
            show Steps p.tables e below (T24.setTop (mkF m 123 #[.val (.int i0), .val (.int i1), .val (.int i2), .val (.int i3), .val (.int f1), .val (.int f2), .val (.int f3), .val (.int f4), .val (.ref rc), .val (.ref rs), .val (.ref rm), .unset, .unset] [(.ref b24)])) _
            refine XS.dup X24.here hx rfl (hb hby at_123) rfl rfl ?_
            show Steps p.tables e below (T24.setTop (mkF m 124 #[.val (.int i0), .val (.int i1), .val (.int i2), .val (.int i3), .val (.int f1), .val (.int f2), .val (.int f3), .val (.int f4), .val (.ref rc), .val (.ref rs), .val (.ref rm), .unset, .unset] [(.ref b24), (.ref b24)])) _
            refine XS.aload X24.here hx rfl (hb hby at_124) rfl rfl ?_
            show Steps p.tables e below (T24.setTop (mkF m 126 #[.val (.int i0), .val (.int i1), .val (.int i2), .val (.int i3), .val (.int f1), .val (.int f2), .val (.int f3), .val (.int f4), .val (.ref rc), .val (.ref rs), .val (.ref rm), .unset, .unset] [(.ref rc), (.ref b24), (.ref b24)])) _
            refine XS.aload X24.here hx rfl (hb hby at_126) rfl rfl ?_
            show Steps p.tables e below (T24.setTop (mkF m 128 #[.val (.int i0), .val (.int i1), .val (.int i2), .val (.int i3), .val (.int f1), .val (.int f2), .val (.int f3), .val (.int f4), .val (.ref rc), .val (.ref rs), .val (.ref rm), .unset, .unset] [(.ref rs), (.ref rc), (.ref b24), (.ref b24)])) _
            refine XS.aload X24.here hx rfl (hb hby at_128) rfl rfl ?_
            exact Steps.refl _
          obtain ⟨_, _, ⟨T26, L26, k26, n26⟩, -, X26, ⟨Lc26, hQ26, l26, y26, z26⟩, st26⟩ := X24.specialBack hx (y := (⟨"com/example/attestry/attestry/saml/Status", "<init>", "(Ljava/lang/String;Ljava/lang/String;Ljava/lang/String;)V"⟩ : MethodName)) rfl hown (mvT hZ (hw _ (List.mem_of_getElem? (i := 37) rfl))) (mvT hZ (hw _ (List.mem_of_getElem? (i := 38) rfl))) (mvT hZ (hw _ (List.mem_of_getElem? (i := 39) rfl))) (by decide) (backOf (W := 1) (rm58 l Z a0 hw [] b24 (.ref rc) (.ref rs) (.ref rm) h24 n0 Zh rfl rfl rfl A24 Gc Gs Gm gb24) hZ (hw _ (List.mem_of_getElem? (i := 39) rfl)) (hw _ (List.mem_of_getElem? (i := 36) rfl)) (by decide) (by decide)) (g := (mkF m 130 #[.val (.int i0), .val (.int i1), .val (.int i2), .val (.int i3), .val (.int f1), .val (.int f2), .val (.int f3), .val (.int f4), .val (.ref rc), .val (.ref rs), .val (.ref rm), .unset, .unset] [(.ref rm), (.ref rs), (.ref rc), (.ref b24), (.ref b24)])) rfl (by rw [hml]; rfl) (Steps.refl _) (a := b24) (argsL := [(.ref rc), (.ref rs), (.ref rm)]) (rest := [(.ref b24)]) (lenOf pd4 rfl) rfl (by show 2 * 0 + _ ≤ _; exact Nat.le_of_eq rfl) (hb hby at_130) (fun _ _ => ⟨rfl, e24, (by decide : 10 + 0 ≤ _), (by decide : 27 + 0 ≤ _)⟩)
          dsimp only [Pt.U, Pt.locs, Pt.cells, Pt.slots] at X26 l26 y26 z26 st26 hQ26
          subst l26 y26 z26
          obtain ⟨rfl, Nt, Kt, At, Tc, Ts⟩ := hQ26
          have c26 : Steps p.tables e below S0 (T26.setTop (mkF m 133 #[.val (.int i0), .val (.int i1), .val (.int i2), .val (.int i3), .val (.int f1), .val (.int f2), .val (.int f3), .val (.int f4), .val (.ref rc), .val (.ref rs), .val (.ref rm), .unset, .unset] [(.ref b24)])) := by
            refine c25.trans ?_
            show Steps p.tables e below (T24.setTop (mkF m 130 #[.val (.int i0), .val (.int i1), .val (.int i2), .val (.int i3), .val (.int f1), .val (.int f2), .val (.int f3), .val (.int f4), .val (.ref rc), .val (.ref rs), .val (.ref rm), .unset, .unset] [(.ref rm), (.ref rs), (.ref rc), (.ref b24), (.ref b24)])) _
            refine st26.trans ?_
            exact Steps.refl _
          have Nf := Fr.app Nf Nt
          have hRs26 := CHr.keep Kt (fun x hx => by cases List.mem_singleton.mp hx; exact Sf_b24) hR.1
          have hR := hR.trans hRs26
          have Zh := Nat.le_trans Zh Kt.1
          have hk := Nat.le_trans hk Kt.1
          have c27 : Steps p.tables e below S0 (T26.setTop (mkF m 137 #[.val (.int i0), .val (.int i1), .val (.int i2), .val (.int i3), .val (.int f1), .val (.int f2), .val (.int f3), .val (.int f4), .val (.ref rc), .val (.ref rs), .val (.ref rm), .val (.ref b24), .unset] [(.ref b24)])) := by
            refine c26.trans ?_
            show Steps p.tables e below (T26.setTop (mkF m 133 #[.val (.int i0), .val (.int i1), .val (.int i2), .val (.int i3), .val (.int f1), .val (.int f2), .val (.int f3), .val (.int f4), .val (.ref rc), .val (.ref rs), .val (.ref rm), .unset, .unset] [(.ref b24)])) _
            refine XS.astore X26.here hx rfl (hb hby at_133) rfl rfl (l' := #[.val (.int i0), .val (.int i1), .val (.int i2), .val (.int i3), .val (.int f1), .val (.int f2), .val (.int f3), .val (.int f4), .val (.ref rc), .val (.ref rs), .val (.ref rm), .val (.ref b24), .unset]) rfl ?_
            show Steps p.tables e below (T26.setTop (mkF m 135 #[.val (.int i0), .val (.int i1), .val (.int i2), .val (.int i3), .val (.int f1), .val (.int f2), .val (.int f3), .val (.int f4), .val (.ref rc), .val (.ref rs), .val (.ref rm), .val (.ref b24), .unset] [])) _
            refine XS.aload X26.here hx rfl (hb hby at_135) rfl rfl ?_
            exact Steps.refl _
          obtain ⟨cq28, kq28, q28a, q28b, q28c⟩ := isOf hZ rfl At
          obtain ⟨_, _, ⟨T28, L28, k28, n28⟩, -, X28, ⟨Lc28, hQ28, l28, y28, z28⟩, st28⟩ := X26.virtualBack hx (y := (⟨"com/example/attestry/attestry/saml/Status", "innermostCode", "()Ljava/lang/String;"⟩ : MethodName)) (z := (⟨"com/example/attestry/attestry/saml/Status", "innermostCode", "()Ljava/lang/String;"⟩ : MethodName)) hown (mvT hZ (hw _ (List.mem_of_getElem? (i := 52) rfl))) (mvT hZ (hw _ (List.mem_of_getElem? (i := 53) rfl))) (notFace_of_selects (args := #[]) (mvT hZ (hw _ (List.mem_of_getElem? (i := 55) rfl)))) (mvT hZ (hw _ (List.mem_of_getElem? (i := 55) rfl))) (mvT hZ (hw _ (List.mem_of_getElem? (i := 54) rfl))) (by decide) (backOf (W := 0) (rm585 l Z a0 hw [] b24 (.ref rc) (.ref rs) T26.heap n0 Zh rfl rfl Tc Ts) hZ (hw _ (List.mem_of_getElem? (i := 56) rfl)) (hw _ (List.mem_of_getElem? (i := 36) rfl)) (by decide) (by decide)) q28a q28c (g := (mkF m 137 #[.val (.int i0), .val (.int i1), .val (.int i2), .val (.int i3), .val (.int f1), .val (.int f2), .val (.int f3), .val (.int f4), .val (.ref rc), .val (.ref rs), .val (.ref rm), .val (.ref b24), .unset] [(.ref b24)])) rfl (by rw [hml]; rfl) (Steps.refl _) (argsL := []) (rest := []) (lenOf pd5 rfl) rfl (by show 2 * 0 + _ ≤ _; exact Nat.le_of_eq rfl) (hb hby at_137) (fun _ _ => ⟨rfl, rfl, (by decide : 10 + 0 ≤ _), (by decide : 27 + 0 ≤ _)⟩)
          dsimp only [Pt.U, Pt.locs, Pt.cells, Pt.slots] at X28 l28 y28 z28 st28 hQ28
          subst l28 y28 z28
          obtain ⟨rfl, Nu, eu⟩ := hQ28
          have c28 : Steps p.tables e below S0 (T28.setTop (mkF m 140 #[.val (.int i0), .val (.int i1), .val (.int i2), .val (.int i3), .val (.int f1), .val (.int f2), .val (.int f3), .val (.int f4), .val (.ref rc), .val (.ref rs), .val (.ref rm), .val (.ref b24), .unset] [(.ref rs)])) := by
            refine c27.trans ?_
            show Steps p.tables e below (T26.setTop (mkF m 137 #[.val (.int i0), .val (.int i1), .val (.int i2), .val (.int i3), .val (.int f1), .val (.int f2), .val (.int f3), .val (.int f4), .val (.ref rc), .val (.ref rs), .val (.ref rm), .val (.ref b24), .unset] [(.ref b24)])) _
            refine st28.trans ?_
            exact Steps.refl _
          have c29 : Steps p.tables e below S0 (T28.setTop (mkF m 142 #[.val (.int i0), .val (.int i1), .val (.int i2), .val (.int i3), .val (.int f1), .val (.int f2), .val (.int f3), .val (.int f4), .val (.ref rc), .val (.ref rs), .val (.ref rm), .val (.ref b24), .val (.ref rs)] [])) := by
            refine c28.trans ?_
            show Steps p.tables e below (T28.setTop (mkF m 140 #[.val (.int i0), .val (.int i1), .val (.int i2), .val (.int i3), .val (.int f1), .val (.int f2), .val (.int f3), .val (.int f4), .val (.ref rc), .val (.ref rs), .val (.ref rm), .val (.ref b24), .unset] [(.ref rs)])) _
            refine XS.astore X28.here hx rfl (hb hby at_140) rfl rfl (l' := #[.val (.int i0), .val (.int i1), .val (.int i2), .val (.int i3), .val (.int f1), .val (.int f2), .val (.int f3), .val (.int f4), .val (.ref rc), .val (.ref rs), .val (.ref rm), .val (.ref b24), .val (.ref rs)]) rfl ?_
            exact Steps.refl _
          have c30 : Steps p.tables e below S0 (T28.setTop (mkF m 159 #[.val (.int i0), .val (.int i1), .val (.int i2), .val (.int i3), .val (.int f1), .val (.int f2), .val (.int f3), .val (.int f4), .val (.ref rc), .val (.ref rs), .val (.ref rm), .val (.ref b24), .val (.ref rs)] [(.int (1 : Int32))])) := by
            refine c29.trans ?_
            show Steps p.tables e below (T28.setTop (mkF m 142 #[.val (.int i0), .val (.int i1), .val (.int i2), .val (.int i3), .val (.int f1), .val (.int f2), .val (.int f3), .val (.int f4), .val (.ref rc), .val (.ref rs), .val (.ref rm), .val (.ref b24), .val (.ref rs)] [])) _
            refine XS.aload X28.here hx rfl (hb hby at_142) rfl rfl ?_
            show Steps p.tables e below (T28.setTop (mkF m 144 #[.val (.int i0), .val (.int i1), .val (.int i2), .val (.int i3), .val (.int f1), .val (.int f2), .val (.int f3), .val (.int f4), .val (.ref rc), .val (.ref rs), .val (.ref rm), .val (.ref b24), .val (.ref rs)] [(.ref rs)])) _
            refine XS.ifnullNo X28.here hx rfl (hb hby at_144) rfl ?_
            show Steps p.tables e below (T28.setTop (mkF m 147 #[.val (.int i0), .val (.int i1), .val (.int i2), .val (.int i3), .val (.int f1), .val (.int f2), .val (.int f3), .val (.int f4), .val (.ref rc), .val (.ref rs), .val (.ref rm), .val (.ref b24), .val (.ref rs)] [])) _
            refine XS.aload X28.here hx rfl (hb hby at_147) rfl rfl ?_
            show Steps p.tables e below (T28.setTop (mkF m 149 #[.val (.int i0), .val (.int i1), .val (.int i2), .val (.int i3), .val (.int f1), .val (.int f2), .val (.int f3), .val (.int f4), .val (.ref rc), .val (.ref rs), .val (.ref rm), .val (.ref b24), .val (.ref rs)] [(.ref rs)])) _
            refine XS.aload X28.here hx rfl (hb hby at_149) rfl rfl ?_
            show Steps p.tables e below (T28.setTop (mkF m 151 #[.val (.int i0), .val (.int i1), .val (.int i2), .val (.int i3), .val (.int f1), .val (.int f2), .val (.int f3), .val (.int f4), .val (.ref rc), .val (.ref rs), .val (.ref rm), .val (.ref b24), .val (.ref rs)] [(.ref rs), (.ref rs)])) _
            refine Jvm.RoadKit.acmp (g := (mkF m 151 #[.val (.int i0), .val (.int i1), .val (.int i2), .val (.int i3), .val (.int f1), .val (.int f2), .val (.int f3), .val (.int f4), .val (.ref rc), .val (.ref rs), .val (.ref rm), .val (.ref b24), .val (.ref rs)] [(.ref rs), (.ref rs)])) X28 hx rfl rfl rfl (pc0 := 151) (pc' := 154) (same := true) rfl (hb hby at_151) rfl (decide_eq_true rfl) (by decide) (by decide) ?_
            show Steps p.tables e below (T28.setTop (mkF m 154 #[.val (.int i0), .val (.int i1), .val (.int i2), .val (.int i3), .val (.int f1), .val (.int f2), .val (.int f3), .val (.int f4), .val (.ref rc), .val (.ref rs), .val (.ref rm), .val (.ref b24), .val (.ref rs)] [])) _
            refine XS.iconst X28.here hx rfl (hb hby at_154) ?_
            show Steps p.tables e below (T28.setTop (mkF m 155 #[.val (.int i0), .val (.int i1), .val (.int i2), .val (.int i3), .val (.int f1), .val (.int f2), .val (.int f3), .val (.int f4), .val (.ref rc), .val (.ref rs), .val (.ref rm), .val (.ref b24), .val (.ref rs)] [(.int (1 : Int32))])) _
            refine XS.goto X28.here hx rfl (pc0 := 155) (pc' := 159) rfl (hb hby at_155) (by decide) (by decide) ?_
            exact Steps.refl _
          obtain ⟨fs, hr, hrun, hended, hW⟩ := X28.leaveW hS (by rw [eu]; exact hk) (v := some (.int 1)) (fun h => by rw [Bd.returns] at h; cases h)
          refine ⟨_, _, c30.trans ?_, hrun, hended, _, _, rfl, ?_, ?_, hW.1, hW.2.1, hW.2.2.1, hW.2.2.2.mono (by decide) (by decide)⟩
          · show Steps p.tables e below (T28.setTop (mkF m 159 #[.val (.int i0), .val (.int i1), .val (.int i2), .val (.int i3), .val (.int f1), .val (.int f2), .val (.int f3), .val (.int f4), .val (.ref rc), .val (.ref rs), .val (.ref rm), .val (.ref b24), .val (.ref rs)] [(.int (1 : Int32))])) _
            exact retN X28 hx (t := .boolean) Bd.returns (by simp) (hb hby at_159) hr
          · show Q0 Z i0 i1 i2 i3 G1 h0 n0 _ T28.heap _
            rw [eu]
            exact ⟨rfl, Fr.app Nf Nu⟩
          · show CHr Z consts_1 s.vm s.heap T28.vm T28.heap
            rw [hh, eu, ← hV0]
            exact hR.trans (CHv.at X28 hZ hEL hR.1)
        · have c31 : Steps p.tables e below S0 (T17.setTop (mkF m 120 #[.val (.int i0), .val (.int i1), .val (.int i2), .val (.int i3), .val (.int f1), .val (.int f2), .val (.int f3), .val (.int f4), .val (.ref rc), .val (.ref rs), .val .null, .unset, .unset] [])) := by
            refine c19.trans ?_
            show Steps p.tables e below (T17.setTop (mkF m 107 #[.val (.int i0), .val (.int i1), .val (.int i2), .val (.int i3), .val (.int f1), .val (.int f2), .val (.int f3), .val (.int f4), .val (.ref rc), .val (.ref rs), .unset, .unset, .unset] [(.int f4)])) _
            refine XS.ifNo X17.here hx rfl (hb hby at_107) rfl ((if0 _ _).trans (feq hm).1) ?_
            show Steps p.tables e below (T17.setTop (mkF m 110 #[.val (.int i0), .val (.int i1), .val (.int i2), .val (.int i3), .val (.int f1), .val (.int f2), .val (.int f3), .val (.int f4), .val (.ref rc), .val (.ref rs), .unset, .unset, .unset] [])) _
            refine XS.aconstNull X17.here hx rfl (hb hby at_110) ?_
            show Steps p.tables e below (T17.setTop (mkF m 111 #[.val (.int i0), .val (.int i1), .val (.int i2), .val (.int i3), .val (.int f1), .val (.int f2), .val (.int f3), .val (.int f4), .val (.ref rc), .val (.ref rs), .unset, .unset, .unset] [.null])) _
            refine XS.goto X17.here hx rfl (pc0 := 111) (pc' := 118) rfl (hb hby at_111) (by decide) (by decide) ?_
            show Steps p.tables e below (T17.setTop (mkF m 118 #[.val (.int i0), .val (.int i1), .val (.int i2), .val (.int i3), .val (.int f1), .val (.int f2), .val (.int f3), .val (.int f4), .val (.ref rc), .val (.ref rs), .unset, .unset, .unset] [.null])) _
            refine XS.astore X17.here hx rfl (hb hby at_118) rfl rfl (l' := #[.val (.int i0), .val (.int i1), .val (.int i2), .val (.int i3), .val (.int f1), .val (.int f2), .val (.int f3), .val (.int f4), .val (.ref rc), .val (.ref rs), .val .null, .unset, .unset]) rfl ?_
            exact Steps.refl _
          obtain ⟨T32, h32, X32, e32, E32, A32, D32, -, st32⟩ := newO X17 hx hZ hown (hw _ (List.mem_of_getElem? (i := 34) rfl)) (hw _ (List.mem_of_getElem? (i := 35) rfl)) (hw _ (List.mem_of_getElem? (i := 36) rfl)) rfl (g := (mkF m 120 #[.val (.int i0), .val (.int i1), .val (.int i2), .val (.int i3), .val (.int f1), .val (.int f2), .val (.int f3), .val (.int f4), .val (.ref rc), .val (.ref rs), .val .null, .unset, .unset] [])) rfl (hb hby at_120) (by decide) (by decide)
          obtain ⟨b32, g32⟩ : ∃ z, z = T17.heap.size := ⟨_, rfl⟩
          rw [← g32] at A32 D32 st32
          have c32 : Steps p.tables e below S0 (T32.setTop (mkF m 123 #[.val (.int i0), .val (.int i1), .val (.int i2), .val (.int i3), .val (.int f1), .val (.int f2), .val (.int f3), .val (.int f4), .val (.ref rc), .val (.ref rs), .val .null, .unset, .unset] [(.ref b32)])) := by
            refine c31.trans ?_
            show Steps p.tables e below (T17.setTop (mkF m 120 #[.val (.int i0), .val (.int i1), .val (.int i2), .val (.int i3), .val (.int f1), .val (.int f2), .val (.int f3), .val (.int f4), .val (.ref rc), .val (.ref rs), .val .null, .unset, .unset] [])) _
            refine st32 _ ?_
            exact Steps.refl _
          have Sf_b32 := Safe.ext E32 hR.1 (Safe.new (Nat.le_of_eq g32.symm))
          have gb32 : n0 ≤ b32 := Nat.le_trans Zh (Nat.le_of_eq g32.symm)
          have hRs32 := CHr.ext E32 hR.1
          have hR := hR.trans hRs32
          have Zh := Nat.le_trans Zh E32.1
          have hk := Nat.le_trans hk E32.1
          have Gc : Fld Z h32 b32 "com/example/attestry/attestry/saml/Status" "code" "Ljava/lang/String;" .null := D32 (Or.inr (hw _ (List.mem_of_getElem? (i := 47) rfl))) (ty := (.object "java/lang/String")) (by decide)
          have Gs : Fld Z h32 b32 "com/example/attestry/attestry/saml/Status" "subcode" "Ljava/lang/String;" .null := D32 (Or.inr (hw _ (List.mem_of_getElem? (i := 49) rfl))) (ty := (.object "java/lang/String")) (by decide)
          have Gm : Fld Z h32 b32 "com/example/attestry/attestry/saml/Status" "message" "Ljava/lang/String;" .null := D32 (Or.inr (hw _ (List.mem_of_getElem? (i := 51) rfl))) (ty := (.object "java/lang/String")) (by decide)
          have c33 : Steps p.tables e below S0 (T32.setTop (mkF m 130 #[.val (.int i0), .val (.int i1), .val (.int i2), .val (.int i3), .val (.int f1), .val (.int f2), .val (.int f3), .val (.int f4), .val (.ref rc), .val (.ref rs), .val .null, .unset, .unset] [.null, (.ref rs), (.ref rc), (.ref b32), (.ref b32)])) := by
            refine c32.trans ?_
            show Steps p.tables e below (T32.setTop (mkF m 123 #[.val (.int i0), .val (.int i1), .val (.int i2), .val (.int i3), .val (.int f1), .val (.int f2), .val (.int f3), .val (.int f4), .val (.ref rc), .val (.ref rs), .val .null, .unset, .unset] [(.ref b32)])) _
            refine XS.dup X32.here hx rfl (hb hby at_123) rfl rfl ?_
            show Steps p.tables e below (T32.setTop (mkF m 124 #[.val (.int i0), .val (.int i1), .val (.int i2), .val (.int i3), .val (.int f1), .val (.int f2), .val (.int f3), .val (.int f4), .val (.ref rc), .val (.ref rs), .val .null, .unset, .unset] [(.ref b32), (.ref b32)])) _
            refine XS.aload X32.here hx rfl (hb hby at_124) rfl rfl ?_
            show Steps p.tables e below (T32.setTop (mkF m 126 #[.val (.int i0), .val (.int i1), .val (.int i2), .val (.int i3), .val (.int f1), .val (.int f2), .val (.int f3), .val (.int f4), .val (.ref rc), .val (.ref rs), .val .null, .unset, .unset] [(.ref rc), (.ref b32), (.ref b32)])) _
            refine XS.aload X32.here hx rfl (hb hby at_126) rfl rfl ?_
            show Steps p.tables e below (T32.setTop (mkF m 128 #[.val (.int i0), .val (.int i1), .val (.int i2), .val (.int i3), .val (.int f1), .val (.int f2), .val (.int f3), .val (.int f4), .val (.ref rc), .val (.ref rs), .val .null, .unset, .unset] [(.ref rs), (.ref rc), (.ref b32), (.ref b32)])) _
            refine XS.aload X32.here hx rfl (hb hby at_128) rfl rfl ?_
            exact Steps.refl _
          obtain ⟨_, _, ⟨T34, L34, k34, n34⟩, -, X34, ⟨Lc34, hQ34, l34, y34, z34⟩, st34⟩ := X32.specialBack hx (y := (⟨"com/example/attestry/attestry/saml/Status", "<init>", "(Ljava/lang/String;Ljava/lang/String;Ljava/lang/String;)V"⟩ : MethodName)) rfl hown (mvT hZ (hw _ (List.mem_of_getElem? (i := 37) rfl))) (mvT hZ (hw _ (List.mem_of_getElem? (i := 38) rfl))) (mvT hZ (hw _ (List.mem_of_getElem? (i := 39) rfl))) (by decide) (backOf (W := 1) (rm58 l Z a0 hw [] b32 (.ref rc) (.ref rs) .null h32 n0 Zh rfl rfl rfl A32 Gc Gs Gm gb32) hZ (hw _ (List.mem_of_getElem? (i := 39) rfl)) (hw _ (List.mem_of_getElem? (i := 36) rfl)) (by decide) (by decide)) (g := (mkF m 130 #[.val (.int i0), .val (.int i1), .val (.int i2), .val (.int i3), .val (.int f1), .val (.int f2), .val (.int f3), .val (.int f4), .val (.ref rc), .val (.ref rs), .val .null, .unset, .unset] [.null, (.ref rs), (.ref rc), (.ref b32), (.ref b32)])) rfl (by rw [hml]; rfl) (Steps.refl _) (a := b32) (argsL := [(.ref rc), (.ref rs), .null]) (rest := [(.ref b32)]) (lenOf pd4 rfl) rfl (by show 2 * 0 + _ ≤ _; exact Nat.le_of_eq rfl) (hb hby at_130) (fun _ _ => ⟨rfl, e32, (by decide : 7 + 0 ≤ _), (by decide : 19 + 0 ≤ _)⟩)
          dsimp only [Pt.U, Pt.locs, Pt.cells, Pt.slots] at X34 l34 y34 z34 st34 hQ34
          subst l34 y34 z34
          obtain ⟨rfl, Nt, Kt, At, Tc, Ts⟩ := hQ34
          have c34 : Steps p.tables e below S0 (T34.setTop (mkF m 133 #[.val (.int i0), .val (.int i1), .val (.int i2), .val (.int i3), .val (.int f1), .val (.int f2), .val (.int f3), .val (.int f4), .val (.ref rc), .val (.ref rs), .val .null, .unset, .unset] [(.ref b32)])) := by
            refine c33.trans ?_
            show Steps p.tables e below (T32.setTop (mkF m 130 #[.val (.int i0), .val (.int i1), .val (.int i2), .val (.int i3), .val (.int f1), .val (.int f2), .val (.int f3), .val (.int f4), .val (.ref rc), .val (.ref rs), .val .null, .unset, .unset] [.null, (.ref rs), (.ref rc), (.ref b32), (.ref b32)])) _
            refine st34.trans ?_
            exact Steps.refl _
          have Nf := Fr.app Nf Nt
          have hRs34 := CHr.keep Kt (fun x hx => by cases List.mem_singleton.mp hx; exact Sf_b32) hR.1
          have hR := hR.trans hRs34
          have Zh := Nat.le_trans Zh Kt.1
          have hk := Nat.le_trans hk Kt.1
          have c35 : Steps p.tables e below S0 (T34.setTop (mkF m 137 #[.val (.int i0), .val (.int i1), .val (.int i2), .val (.int i3), .val (.int f1), .val (.int f2), .val (.int f3), .val (.int f4), .val (.ref rc), .val (.ref rs), .val .null, .val (.ref b32), .unset] [(.ref b32)])) := by
            refine c34.trans ?_
            show Steps p.tables e below (T34.setTop (mkF m 133 #[.val (.int i0), .val (.int i1), .val (.int i2), .val (.int i3), .val (.int f1), .val (.int f2), .val (.int f3), .val (.int f4), .val (.ref rc), .val (.ref rs), .val .null, .unset, .unset] [(.ref b32)])) _
            refine XS.astore X34.here hx rfl (hb hby at_133) rfl rfl (l' := #[.val (.int i0), .val (.int i1), .val (.int i2), .val (.int i3), .val (.int f1), .val (.int f2), .val (.int f3), .val (.int f4), .val (.ref rc), .val (.ref rs), .val .null, .val (.ref b32), .unset]) rfl ?_
            show Steps p.tables e below (T34.setTop (mkF m 135 #[.val (.int i0), .val (.int i1), .val (.int i2), .val (.int i3), .val (.int f1), .val (.int f2), .val (.int f3), .val (.int f4), .val (.ref rc), .val (.ref rs), .val .null, .val (.ref b32), .unset] [])) _
            refine XS.aload X34.here hx rfl (hb hby at_135) rfl rfl ?_
            exact Steps.refl _
          obtain ⟨cq36, kq36, q36a, q36b, q36c⟩ := isOf hZ rfl At
          obtain ⟨_, _, ⟨T36, L36, k36, n36⟩, -, X36, ⟨Lc36, hQ36, l36, y36, z36⟩, st36⟩ := X34.virtualBack hx (y := (⟨"com/example/attestry/attestry/saml/Status", "innermostCode", "()Ljava/lang/String;"⟩ : MethodName)) (z := (⟨"com/example/attestry/attestry/saml/Status", "innermostCode", "()Ljava/lang/String;"⟩ : MethodName)) hown (mvT hZ (hw _ (List.mem_of_getElem? (i := 52) rfl))) (mvT hZ (hw _ (List.mem_of_getElem? (i := 53) rfl))) (notFace_of_selects (args := #[]) (mvT hZ (hw _ (List.mem_of_getElem? (i := 55) rfl)))) (mvT hZ (hw _ (List.mem_of_getElem? (i := 55) rfl))) (mvT hZ (hw _ (List.mem_of_getElem? (i := 54) rfl))) (by decide) (backOf (W := 0) (rm585 l Z a0 hw [] b32 (.ref rc) (.ref rs) T34.heap n0 Zh rfl rfl Tc Ts) hZ (hw _ (List.mem_of_getElem? (i := 56) rfl)) (hw _ (List.mem_of_getElem? (i := 36) rfl)) (by decide) (by decide)) q36a q36c (g := (mkF m 137 #[.val (.int i0), .val (.int i1), .val (.int i2), .val (.int i3), .val (.int f1), .val (.int f2), .val (.int f3), .val (.int f4), .val (.ref rc), .val (.ref rs), .val .null, .val (.ref b32), .unset] [(.ref b32)])) rfl (by rw [hml]; rfl) (Steps.refl _) (argsL := []) (rest := []) (lenOf pd5 rfl) rfl (by show 2 * 0 + _ ≤ _; exact Nat.le_of_eq rfl) (hb hby at_137) (fun _ _ => ⟨rfl, rfl, (by decide : 7 + 0 ≤ _), (by decide : 19 + 0 ≤ _)⟩)
          dsimp only [Pt.U, Pt.locs, Pt.cells, Pt.slots] at X36 l36 y36 z36 st36 hQ36
          subst l36 y36 z36
          obtain ⟨rfl, Nu, eu⟩ := hQ36
          have c36 : Steps p.tables e below S0 (T36.setTop (mkF m 140 #[.val (.int i0), .val (.int i1), .val (.int i2), .val (.int i3), .val (.int f1), .val (.int f2), .val (.int f3), .val (.int f4), .val (.ref rc), .val (.ref rs), .val .null, .val (.ref b32), .unset] [(.ref rs)])) := by
            refine c35.trans ?_
            show Steps p.tables e below (T34.setTop (mkF m 137 #[.val (.int i0), .val (.int i1), .val (.int i2), .val (.int i3), .val (.int f1), .val (.int f2), .val (.int f3), .val (.int f4), .val (.ref rc), .val (.ref rs), .val .null, .val (.ref b32), .unset] [(.ref b32)])) _
            refine st36.trans ?_
            exact Steps.refl _
          have c37 : Steps p.tables e below S0 (T36.setTop (mkF m 142 #[.val (.int i0), .val (.int i1), .val (.int i2), .val (.int i3), .val (.int f1), .val (.int f2), .val (.int f3), .val (.int f4), .val (.ref rc), .val (.ref rs), .val .null, .val (.ref b32), .val (.ref rs)] [])) := by
            refine c36.trans ?_
            show Steps p.tables e below (T36.setTop (mkF m 140 #[.val (.int i0), .val (.int i1), .val (.int i2), .val (.int i3), .val (.int f1), .val (.int f2), .val (.int f3), .val (.int f4), .val (.ref rc), .val (.ref rs), .val .null, .val (.ref b32), .unset] [(.ref rs)])) _
            refine XS.astore X36.here hx rfl (hb hby at_140) rfl rfl (l' := #[.val (.int i0), .val (.int i1), .val (.int i2), .val (.int i3), .val (.int f1), .val (.int f2), .val (.int f3), .val (.int f4), .val (.ref rc), .val (.ref rs), .val .null, .val (.ref b32), .val (.ref rs)]) rfl ?_
            exact Steps.refl _
          have c38 : Steps p.tables e below S0 (T36.setTop (mkF m 159 #[.val (.int i0), .val (.int i1), .val (.int i2), .val (.int i3), .val (.int f1), .val (.int f2), .val (.int f3), .val (.int f4), .val (.ref rc), .val (.ref rs), .val .null, .val (.ref b32), .val (.ref rs)] [(.int (1 : Int32))])) := by
            refine c37.trans ?_
            show Steps p.tables e below (T36.setTop (mkF m 142 #[.val (.int i0), .val (.int i1), .val (.int i2), .val (.int i3), .val (.int f1), .val (.int f2), .val (.int f3), .val (.int f4), .val (.ref rc), .val (.ref rs), .val .null, .val (.ref b32), .val (.ref rs)] [])) _
            refine XS.aload X36.here hx rfl (hb hby at_142) rfl rfl ?_
            show Steps p.tables e below (T36.setTop (mkF m 144 #[.val (.int i0), .val (.int i1), .val (.int i2), .val (.int i3), .val (.int f1), .val (.int f2), .val (.int f3), .val (.int f4), .val (.ref rc), .val (.ref rs), .val .null, .val (.ref b32), .val (.ref rs)] [(.ref rs)])) _
            refine XS.ifnullNo X36.here hx rfl (hb hby at_144) rfl ?_
            show Steps p.tables e below (T36.setTop (mkF m 147 #[.val (.int i0), .val (.int i1), .val (.int i2), .val (.int i3), .val (.int f1), .val (.int f2), .val (.int f3), .val (.int f4), .val (.ref rc), .val (.ref rs), .val .null, .val (.ref b32), .val (.ref rs)] [])) _
            refine XS.aload X36.here hx rfl (hb hby at_147) rfl rfl ?_
            show Steps p.tables e below (T36.setTop (mkF m 149 #[.val (.int i0), .val (.int i1), .val (.int i2), .val (.int i3), .val (.int f1), .val (.int f2), .val (.int f3), .val (.int f4), .val (.ref rc), .val (.ref rs), .val .null, .val (.ref b32), .val (.ref rs)] [(.ref rs)])) _
            refine XS.aload X36.here hx rfl (hb hby at_149) rfl rfl ?_
            show Steps p.tables e below (T36.setTop (mkF m 151 #[.val (.int i0), .val (.int i1), .val (.int i2), .val (.int i3), .val (.int f1), .val (.int f2), .val (.int f3), .val (.int f4), .val (.ref rc), .val (.ref rs), .val .null, .val (.ref b32), .val (.ref rs)] [(.ref rs), (.ref rs)])) _
            refine Jvm.RoadKit.acmp (g := (mkF m 151 #[.val (.int i0), .val (.int i1), .val (.int i2), .val (.int i3), .val (.int f1), .val (.int f2), .val (.int f3), .val (.int f4), .val (.ref rc), .val (.ref rs), .val .null, .val (.ref b32), .val (.ref rs)] [(.ref rs), (.ref rs)])) X36 hx rfl rfl rfl (pc0 := 151) (pc' := 154) (same := true) rfl (hb hby at_151) rfl (decide_eq_true rfl) (by decide) (by decide) ?_
            show Steps p.tables e below (T36.setTop (mkF m 154 #[.val (.int i0), .val (.int i1), .val (.int i2), .val (.int i3), .val (.int f1), .val (.int f2), .val (.int f3), .val (.int f4), .val (.ref rc), .val (.ref rs), .val .null, .val (.ref b32), .val (.ref rs)] [])) _
            refine XS.iconst X36.here hx rfl (hb hby at_154) ?_
            show Steps p.tables e below (T36.setTop (mkF m 155 #[.val (.int i0), .val (.int i1), .val (.int i2), .val (.int i3), .val (.int f1), .val (.int f2), .val (.int f3), .val (.int f4), .val (.ref rc), .val (.ref rs), .val .null, .val (.ref b32), .val (.ref rs)] [(.int (1 : Int32))])) _
            refine XS.goto X36.here hx rfl (pc0 := 155) (pc' := 159) rfl (hb hby at_155) (by decide) (by decide) ?_
            exact Steps.refl _
          obtain ⟨fs, hr, hrun, hended, hW⟩ := X36.leaveW hS (by rw [eu]; exact hk) (v := some (.int 1)) (fun h => by rw [Bd.returns] at h; cases h)
          refine ⟨_, _, c38.trans ?_, hrun, hended, _, _, rfl, ?_, ?_, hW.1, hW.2.1, hW.2.2.1, hW.2.2.2.mono (by decide) (by decide)⟩
          · show Steps p.tables e below (T36.setTop (mkF m 159 #[.val (.int i0), .val (.int i1), .val (.int i2), .val (.int i3), .val (.int f1), .val (.int f2), .val (.int f3), .val (.int f4), .val (.ref rc), .val (.ref rs), .val .null, .val (.ref b32), .val (.ref rs)] [(.int (1 : Int32))])) _
            exact retN X36 hx (t := .boolean) Bd.returns (by simp) (hb hby at_159) hr
          · show Q0 Z i0 i1 i2 i3 G1 h0 n0 _ T36.heap _
            rw [eu]
            exact ⟨rfl, Fr.app Nf Nu⟩
          · show CHr Z consts_1 s.vm s.heap T36.vm T36.heap
            rw [hh, eu, ← hV0]
            exact hR.trans (CHv.at X36 hZ hEL hR.1)
      · have c39 : Steps p.tables e below S0 (T12.setTop (mkF m 84 #[.val (.int i0), .val (.int i1), .val (.int i2), .val (.int i3), .val (.int f1), .val (.int f2), .val (.int f3), .val (.int f4), .val (.ref rc), .unset, .unset, .unset, .unset] [])) := by
          refine c14.trans ?_
          show Steps p.tables e below (T12.setTop (mkF m 81 #[.val (.int i0), .val (.int i1), .val (.int i2), .val (.int i3), .val (.int f1), .val (.int f2), .val (.int f3), .val (.int f4), .val (.ref rc), .unset, .unset, .unset, .unset] [(.int f3)])) _
          refine XS.ifNo X12.here hx rfl (hb hby at_81) rfl ((if0 _ _).trans (feq hs3).1) ?_
          exact Steps.refl _
        obtain ⟨T40, h40, X40, e40, E40, A40, D40, -, st40⟩ := newO X12 hx hZ hown (hw _ (List.mem_of_getElem? (i := 5) rfl)) (hw _ (List.mem_of_getElem? (i := 6) rfl)) (hw _ (List.mem_of_getElem? (i := 7) rfl)) rfl (g := (mkF m 84 #[.val (.int i0), .val (.int i1), .val (.int i2), .val (.int i3), .val (.int f1), .val (.int f2), .val (.int f3), .val (.int f4), .val (.ref rc), .unset, .unset, .unset, .unset] [])) rfl (hb hby at_84) (by decide) (by decide)
        obtain ⟨b40, g40⟩ : ∃ z, z = T12.heap.size := ⟨_, rfl⟩
        rw [← g40] at A40 D40 st40
        have c40 : Steps p.tables e below S0 (T40.setTop (mkF m 87 #[.val (.int i0), .val (.int i1), .val (.int i2), .val (.int i3), .val (.int f1), .val (.int f2), .val (.int f3), .val (.int f4), .val (.ref rc), .unset, .unset, .unset, .unset] [(.ref b40)])) := by
          refine c39.trans ?_
          show Steps p.tables e below (T12.setTop (mkF m 84 #[.val (.int i0), .val (.int i1), .val (.int i2), .val (.int i3), .val (.int f1), .val (.int f2), .val (.int f3), .val (.int f4), .val (.ref rc), .unset, .unset, .unset, .unset] [])) _
          refine st40 _ ?_
          exact Steps.refl _
        have hO := hO.ext E40
        have Sf_b40 := Safe.ext E40 hR.1 (Safe.new (Nat.le_of_eq g40.symm))
        have gb40 : n0 ≤ b40 := Nat.le_trans Zh (Nat.le_of_eq g40.symm)
        have hRs40 := CHr.ext E40 hR.1
        have hR := hR.trans hRs40
        have Zh := Nat.le_trans Zh E40.1
        have hk := Nat.le_trans hk E40.1
        have Fv : Fld Z h40 b40 "java/lang/String" "value" "[B" .null := D40 (Or.inr (hw _ (List.mem_of_getElem? (i := 33) rfl))) (ty := (.array .byte)) (by decide)
        have Fc : Fld Z h40 b40 "java/lang/String" "coder" "B" (.int 0) := D40 (Or.inr (hw _ (List.mem_of_getElem? (i := 31) rfl))) (ty := .byte) (by decide)
        have c41 : Steps p.tables e below S0 (T40.setTop (mkF m 89 #[.val (.int i0), .val (.int i1), .val (.int i2), .val (.int i3), .val (.int f1), .val (.int f2), .val (.int f3), .val (.int f4), .val (.ref rc), .unset, .unset, .unset, .unset] [(.int (0 : Int32)), (.ref b40), (.ref b40)])) := by
          refine c40.trans ?_
          show Steps p.tables e below (T40.setTop (mkF m 87 #[.val (.int i0), .val (.int i1), .val (.int i2), .val (.int i3), .val (.int f1), .val (.int f2), .val (.int f3), .val (.int f4), .val (.ref rc), .unset, .unset, .unset, .unset] [(.ref b40)])) _
          refine XS.dup X40.here hx rfl (hb hby at_87) rfl rfl ?_
          show Steps p.tables e below (T40.setTop (mkF m 88 #[.val (.int i0), .val (.int i1), .val (.int i2), .val (.int i3), .val (.int f1), .val (.int f2), .val (.int f3), .val (.int f4), .val (.ref rc), .unset, .unset, .unset, .unset] [(.ref b40), (.ref b40)])) _
          refine XS.iconst X40.here hx rfl (hb hby at_88) ?_
          exact Steps.refl _
        obtain ⟨T42, h42, kA42, X42, e42, E42, A42, st42⟩ := newP X40 hx hZ (hw _ (List.mem_of_getElem? (i := 4) rfl)) e40 (g := (mkF m 89 #[.val (.int i0), .val (.int i1), .val (.int i2), .val (.int i3), .val (.int f1), .val (.int f2), .val (.int f3), .val (.int f4), .val (.ref rc), .unset, .unset, .unset, .unset] [(.int (0 : Int32)), (.ref b40), (.ref b40)])) rfl (hb hby at_89) rfl (by decide : ¬ ((0 : Int32) < (0 : Int32))) (cap := 0) (by decide) (by decide) (by decide) (by decide)
        obtain ⟨b42, g42⟩ : ∃ z, z = h40.size := ⟨_, rfl⟩
        rw [← g42] at A42 st42
        have c42 : Steps p.tables e below S0 (T42.setTop (mkF m 91 #[.val (.int i0), .val (.int i1), .val (.int i2), .val (.int i3), .val (.int f1), .val (.int f2), .val (.int f3), .val (.int f4), .val (.ref rc), .unset, .unset, .unset, .unset] [(.ref b42), (.ref b40), (.ref b40)])) := by
          refine c41.trans ?_
          show Steps p.tables e below (T40.setTop (mkF m 89 #[.val (.int i0), .val (.int i1), .val (.int i2), .val (.int i3), .val (.int f1), .val (.int f2), .val (.int f3), .val (.int f4), .val (.ref rc), .unset, .unset, .unset, .unset] [(.int (0 : Int32)), (.ref b40), (.ref b40)])) _
          refine st42 _ ?_
          exact Steps.refl _
        have hO := hO.ext E42
        have hRs42 := CHr.ext E42 hR.1
        have Sf_b40 := hRs42.safe A40.lt Sf_b40
        have hR := hR.trans hRs42
        have Zh := Nat.le_trans Zh E42.1
        have hk := Nat.le_trans hk E42.1
        obtain ⟨_, _, ⟨T43, L43, k43, n43⟩, -, X43, hS43, hge43, ⟨Lc43, hQ43, l43, y43, z43, hCr43⟩, st43⟩ := X42.specialBackS hx (y := (⟨"java/lang/String", "<init>", "([C)V"⟩ : MethodName)) rfl hown (mvT hZ (hw _ (List.mem_of_getElem? (i := 8) rfl))) (mvT hZ (hw _ (List.mem_of_getElem? (i := 9) rfl))) (mvT hZ (hw _ (List.mem_of_getElem? (i := 10) rfl))) (by decide) (backOfSX (W := 1) (rm3 l Z a0 hw [] b40 b42 _ h42 n0 Zh (A40.ext E42) (Fv.ext E42) (Fc.ext E42) gb40 A42 (sz_new _ _ _)) hZ (hw _ (List.mem_of_getElem? (i := 10) rfl)) (hw _ (List.mem_of_getElem? (i := 7) rfl)) (by decide) (by decide) hEL hR.1 (fun x hx => by cases List.mem_singleton.mp hx; exact ⟨(A40.ext E42).lt, Sf_b40⟩)) (g := (mkF m 91 #[.val (.int i0), .val (.int i1), .val (.int i2), .val (.int i3), .val (.int f1), .val (.int f2), .val (.int f3), .val (.int f4), .val (.ref rc), .unset, .unset, .unset, .unset] [(.ref b42), (.ref b40), (.ref b40)])) rfl (by rw [hml]; rfl) (Steps.refl _) (a := b40) (argsL := [(.ref b42)]) (rest := [(.ref b40)]) (lenOf pd0 rfl) rfl (by show 2 * 0 + _ ≤ _; exact Nat.le_of_eq rfl) (hb hby at_91) (fun _ _ => ⟨rfl, e42, (by decide : 5 + 4 ≤ _), (by decide : 12 + 8 ≤ _)⟩)
        dsimp only [Pt.U, Pt.locs, Pt.cells, Pt.slots] at X43 l43 y43 z43 st43 hQ43 hS43 hge43 hCr43
        subst l43 y43 z43
        obtain ⟨X43, hS, hZ, hown⟩ := rebS hS (by rw [e42]; exact hk) X43 hS43 hge43 hZ hown
        have hk : T43.heap.size ≤ T43.heap.size := Nat.le_refl _
        have hR := hR.trans hCr43
        obtain ⟨rfl, Ne, Ke, De, Ae⟩ := hQ43
        have c43 : Steps p.tables e below S0 (T43.setTop (mkF m 94 #[.val (.int i0), .val (.int i1), .val (.int i2), .val (.int i3), .val (.int f1), .val (.int f2), .val (.int f3), .val (.int f4), .val (.ref rc), .unset, .unset, .unset, .unset] [(.ref b40)])) := by
          refine c42.trans ?_
          show Steps p.tables e below (T42.setTop (mkF m 91 #[.val (.int i0), .val (.int i1), .val (.int i2), .val (.int i3), .val (.int f1), .val (.int f2), .val (.int f3), .val (.int f4), .val (.ref rc), .unset, .unset, .unset, .unset] [(.ref b42), (.ref b40), (.ref b40)])) _
          refine st43.trans ?_
          exact Steps.refl _
        have Zh := Nat.le_trans Zh Ke.1
        have hO := hO.keep Ke (fun x hx => by cases List.mem_singleton.mp hx; exact gb40)
        have Nf := Fr.app Nf Ne
        have c44 : Steps p.tables e below S0 (T43.setTop (mkF m 105 #[.val (.int i0), .val (.int i1), .val (.int i2), .val (.int i3), .val (.int f1), .val (.int f2), .val (.int f3), .val (.int f4), .val (.ref rc), .val (.ref b40), .unset, .unset, .unset] [])) := by
          refine c43.trans ?_
          show Steps p.tables e below (T43.setTop (mkF m 94 #[.val (.int i0), .val (.int i1), .val (.int i2), .val (.int i3), .val (.int f1), .val (.int f2), .val (.int f3), .val (.int f4), .val (.ref rc), .unset, .unset, .unset, .unset] [(.ref b40)])) _
          refine XS.astore X43.here hx rfl (hb hby at_94) rfl rfl (l' := #[.val (.int i0), .val (.int i1), .val (.int i2), .val (.int i3), .val (.int f1), .val (.int f2), .val (.int f3), .val (.int f4), .val (.ref rc), .val (.ref b40), .unset, .unset, .unset]) rfl ?_
          show Steps p.tables e below (T43.setTop (mkF m 96 #[.val (.int i0), .val (.int i1), .val (.int i2), .val (.int i3), .val (.int f1), .val (.int f2), .val (.int f3), .val (.int f4), .val (.ref rc), .val (.ref b40), .unset, .unset, .unset] [])) _
          refine XS.goto X43.here hx rfl (pc0 := 96) (pc' := 105) rfl (hb hby at_96) (by decide) (by decide) ?_
          exact Steps.refl _
        have c45 : Steps p.tables e below S0 (T43.setTop (mkF m 107 #[.val (.int i0), .val (.int i1), .val (.int i2), .val (.int i3), .val (.int f1), .val (.int f2), .val (.int f3), .val (.int f4), .val (.ref rc), .val (.ref b40), .unset, .unset, .unset] [(.int f4)])) := by
          refine c44.trans ?_
          show Steps p.tables e below (T43.setTop (mkF m 105 #[.val (.int i0), .val (.int i1), .val (.int i2), .val (.int i3), .val (.int f1), .val (.int f2), .val (.int f3), .val (.int f4), .val (.ref rc), .val (.ref b40), .unset, .unset, .unset] [])) _
          refine XS.iload X43.here hx rfl (hb hby at_105) rfl ?_
          exact Steps.refl _
        by_cases hm : f4 = 0
        · have c46 : Steps p.tables e below S0 (T43.setTop (mkF m 114 #[.val (.int i0), .val (.int i1), .val (.int i2), .val (.int i3), .val (.int f1), .val (.int f2), .val (.int f3), .val (.int f4), .val (.ref rc), .val (.ref b40), .unset, .unset, .unset] [])) := by
            refine c45.trans ?_
            show Steps p.tables e below (T43.setTop (mkF m 107 #[.val (.int i0), .val (.int i1), .val (.int i2), .val (.int i3), .val (.int f1), .val (.int f2), .val (.int f3), .val (.int f4), .val (.ref rc), .val (.ref b40), .unset, .unset, .unset] [(.int f4)])) _
            refine XS.ifYes X43.here hx rfl (pc0 := 107) (pc' := 114) rfl (hb hby at_107) rfl ((if0 _ _).trans (teq hm).1) (by decide) (by decide) ?_
            exact Steps.refl _
          have c47 : Steps p.tables e below S0 (T43.setTop (mkF m 115 #[.val (.int i0), .val (.int i1), .val (.int i2), .val (.int i3), .val (.int f1), .val (.int f2), .val (.int f3), .val (.int f4), .val (.ref rc), .val (.ref b40), .unset, .unset, .unset] [(.int i2)])) := by
            refine c46.trans ?_
            show Steps p.tables e below (T43.setTop (mkF m 114 #[.val (.int i0), .val (.int i1), .val (.int i2), .val (.int i3), .val (.int f1), .val (.int f2), .val (.int f3), .val (.int f4), .val (.ref rc), .val (.ref b40), .unset, .unset, .unset] [])) _
            refine XS.iloadN X43.here hx rfl (hb hby at_114) rfl ?_
            exact Steps.refl _
          obtain ⟨_, _, ⟨T48, L48, k48, n48⟩, -, X48, ⟨Lc48, hQ48, l48, y48, z48⟩, st48⟩ := Jvm.LawKit.callS X43 hx (y := (⟨"com/example/attestry/attestry/saml/StatusInnermostCodePinLaw", "drawn", "(I)Ljava/lang/String;"⟩ : MethodName)) hown (mvT hZ (hw _ (List.mem_of_getElem? (i := 0) rfl))) (mvT hZ (hw _ (List.mem_of_getElem? (i := 1) rfl))) (mvT hZ (hw _ (List.mem_of_getElem? (i := 2) rfl))) (mvT hZ (hw _ (List.mem_of_getElem? (i := 3) rfl))) (by decide) (backOf (W := 0) (rm2 l Z a0 hw [] i2 G1 T43.heap n0 Zh O2 P5 hO) hZ (hw _ (List.mem_of_getElem? (i := 3) rfl)) (hw _ (List.mem_of_getElem? (i := 2) rfl)) (by decide) (by decide)) (g := (mkF m 115 #[.val (.int i0), .val (.int i1), .val (.int i2), .val (.int i3), .val (.int f1), .val (.int f2), .val (.int f3), .val (.int f4), .val (.ref rc), .val (.ref b40), .unset, .unset, .unset] [(.int i2)])) rfl (by rw [hml]; rfl) (argsL := [(.int i2)]) (rest := []) (lenOf pd3 rfl) rfl (by show 2 * 0 + _ ≤ _; exact Nat.le_of_eq rfl) (hb hby at_115) (fun _ _ => ⟨rfl, rfl, (by decide : 9 + 3 ≤ _), (by decide : 20 + 8 ≤ _)⟩)
          dsimp only [Pt.U, Pt.locs, Pt.cells, Pt.slots] at X48 l48 y48 z48 st48 hQ48
          subst l48 y48 z48
          obtain ⟨⟨rm, rfl⟩, Nd, Kd⟩ := hQ48
          have c48 : Steps p.tables e below S0 (T48.setTop (mkF m 118 #[.val (.int i0), .val (.int i1), .val (.int i2), .val (.int i3), .val (.int f1), .val (.int f2), .val (.int f3), .val (.int f4), .val (.ref rc), .val (.ref b40), .unset, .unset, .unset] [(.ref rm)])) := by
            refine c47.trans ?_
            show Steps p.tables e below (T43.setTop (mkF m 115 #[.val (.int i0), .val (.int i1), .val (.int i2), .val (.int i3), .val (.int f1), .val (.int f2), .val (.int f3), .val (.int f4), .val (.ref rc), .val (.ref b40), .unset, .unset, .unset] [(.int i2)])) _
            refine st48 _ ?_
            exact Steps.refl _
          have hRs48 := CHr.keep Kd (fun x hx => by cases hx) hR.1
          have hR := hR.trans hRs48
          have Zh := Nat.le_trans Zh Kd.1
          have hk := Nat.le_trans hk Kd.1
          have hO := hO.keep Kd (fun x hx => by cases hx)
          have Nf := Fr.app Nf Nd
          have c49 : Steps p.tables e below S0 (T48.setTop (mkF m 120 #[.val (.int i0), .val (.int i1), .val (.int i2), .val (.int i3), .val (.int f1), .val (.int f2), .val (.int f3), .val (.int f4), .val (.ref rc), .val (.ref b40), .val (.ref rm), .unset, .unset] [])) := by
            refine c48.trans ?_
            show Steps p.tables e below (T48.setTop (mkF m 118 #[.val (.int i0), .val (.int i1), .val (.int i2), .val (.int i3), .val (.int f1), .val (.int f2), .val (.int f3), .val (.int f4), .val (.ref rc), .val (.ref b40), .unset, .unset, .unset] [(.ref rm)])) _
            refine XS.astore X48.here hx rfl (hb hby at_118) rfl rfl (l' := #[.val (.int i0), .val (.int i1), .val (.int i2), .val (.int i3), .val (.int f1), .val (.int f2), .val (.int f3), .val (.int f4), .val (.ref rc), .val (.ref b40), .val (.ref rm), .unset, .unset]) rfl ?_
            exact Steps.refl _
          obtain ⟨T50, h50, X50, e50, E50, A50, D50, -, st50⟩ := newO X48 hx hZ hown (hw _ (List.mem_of_getElem? (i := 34) rfl)) (hw _ (List.mem_of_getElem? (i := 35) rfl)) (hw _ (List.mem_of_getElem? (i := 36) rfl)) rfl (g := (mkF m 120 #[.val (.int i0), .val (.int i1), .val (.int i2), .val (.int i3), .val (.int f1), .val (.int f2), .val (.int f3), .val (.int f4), .val (.ref rc), .val (.ref b40), .val (.ref rm), .unset, .unset] [])) rfl (hb hby at_120) (by decide) (by decide)
          obtain ⟨b50, g50⟩ : ∃ z, z = T48.heap.size := ⟨_, rfl⟩
          rw [← g50] at A50 D50 st50
          have c50 : Steps p.tables e below S0 (T50.setTop (mkF m 123 #[.val (.int i0), .val (.int i1), .val (.int i2), .val (.int i3), .val (.int f1), .val (.int f2), .val (.int f3), .val (.int f4), .val (.ref rc), .val (.ref b40), .val (.ref rm), .unset, .unset] [(.ref b50)])) := by
            refine c49.trans ?_
            show Steps p.tables e below (T48.setTop (mkF m 120 #[.val (.int i0), .val (.int i1), .val (.int i2), .val (.int i3), .val (.int f1), .val (.int f2), .val (.int f3), .val (.int f4), .val (.ref rc), .val (.ref b40), .val (.ref rm), .unset, .unset] [])) _
            refine st50 _ ?_
            exact Steps.refl _
          have Sf_b50 := Safe.ext E50 hR.1 (Safe.new (Nat.le_of_eq g50.symm))
          have gb50 : n0 ≤ b50 := Nat.le_trans Zh (Nat.le_of_eq g50.symm)
          have hRs50 := CHr.ext E50 hR.1
          have hR := hR.trans hRs50
          have Zh := Nat.le_trans Zh E50.1
          have hk := Nat.le_trans hk E50.1
          have Gc : Fld Z h50 b50 "com/example/attestry/attestry/saml/Status" "code" "Ljava/lang/String;" .null := D50 (Or.inr (hw _ (List.mem_of_getElem? (i := 47) rfl))) (ty := (.object "java/lang/String")) (by decide)
          have Gs : Fld Z h50 b50 "com/example/attestry/attestry/saml/Status" "subcode" "Ljava/lang/String;" .null := D50 (Or.inr (hw _ (List.mem_of_getElem? (i := 49) rfl))) (ty := (.object "java/lang/String")) (by decide)
          have Gm : Fld Z h50 b50 "com/example/attestry/attestry/saml/Status" "message" "Ljava/lang/String;" .null := D50 (Or.inr (hw _ (List.mem_of_getElem? (i := 51) rfl))) (ty := (.object "java/lang/String")) (by decide)
          have c51 : Steps p.tables e below S0 (T50.setTop (mkF m 130 #[.val (.int i0), .val (.int i1), .val (.int i2), .val (.int i3), .val (.int f1), .val (.int f2), .val (.int f3), .val (.int f4), .val (.ref rc), .val (.ref b40), .val (.ref rm), .unset, .unset] [(.ref rm), (.ref b40), (.ref rc), (.ref b50), (.ref b50)])) := by
            refine c50.trans ?_
            show Steps p.tables e below (T50.setTop (mkF m 123 #[.val (.int i0), .val (.int i1), .val (.int i2), .val (.int i3), .val (.int f1), .val (.int f2), .val (.int f3), .val (.int f4), .val (.ref rc), .val (.ref b40), .val (.ref rm), .unset, .unset] [(.ref b50)])) _
            refine XS.dup X50.here hx rfl (hb hby at_123) rfl rfl ?_
            show Steps p.tables e below (T50.setTop (mkF m 124 #[.val (.int i0), .val (.int i1), .val (.int i2), .val (.int i3), .val (.int f1), .val (.int f2), .val (.int f3), .val (.int f4), .val (.ref rc), .val (.ref b40), .val (.ref rm), .unset, .unset] [(.ref b50), (.ref b50)])) _
            refine XS.aload X50.here hx rfl (hb hby at_124) rfl rfl ?_
            show Steps p.tables e below (T50.setTop (mkF m 126 #[.val (.int i0), .val (.int i1), .val (.int i2), .val (.int i3), .val (.int f1), .val (.int f2), .val (.int f3), .val (.int f4), .val (.ref rc), .val (.ref b40), .val (.ref rm), .unset, .unset] [(.ref rc), (.ref b50), (.ref b50)])) _
            refine XS.aload X50.here hx rfl (hb hby at_126) rfl rfl ?_
            show Steps p.tables e below (T50.setTop (mkF m 128 #[.val (.int i0), .val (.int i1), .val (.int i2), .val (.int i3), .val (.int f1), .val (.int f2), .val (.int f3), .val (.int f4), .val (.ref rc), .val (.ref b40), .val (.ref rm), .unset, .unset] [(.ref b40), (.ref rc), (.ref b50), (.ref b50)])) _
            refine XS.aload X50.here hx rfl (hb hby at_128) rfl rfl ?_
            exact Steps.refl _
          obtain ⟨_, _, ⟨T52, L52, k52, n52⟩, -, X52, ⟨Lc52, hQ52, l52, y52, z52⟩, st52⟩ := X50.specialBack hx (y := (⟨"com/example/attestry/attestry/saml/Status", "<init>", "(Ljava/lang/String;Ljava/lang/String;Ljava/lang/String;)V"⟩ : MethodName)) rfl hown (mvT hZ (hw _ (List.mem_of_getElem? (i := 37) rfl))) (mvT hZ (hw _ (List.mem_of_getElem? (i := 38) rfl))) (mvT hZ (hw _ (List.mem_of_getElem? (i := 39) rfl))) (by decide) (backOf (W := 1) (rm58 l Z a0 hw [] b50 (.ref rc) (.ref b40) (.ref rm) h50 n0 Zh rfl rfl rfl A50 Gc Gs Gm gb50) hZ (hw _ (List.mem_of_getElem? (i := 39) rfl)) (hw _ (List.mem_of_getElem? (i := 36) rfl)) (by decide) (by decide)) (g := (mkF m 130 #[.val (.int i0), .val (.int i1), .val (.int i2), .val (.int i3), .val (.int f1), .val (.int f2), .val (.int f3), .val (.int f4), .val (.ref rc), .val (.ref b40), .val (.ref rm), .unset, .unset] [(.ref rm), (.ref b40), (.ref rc), (.ref b50), (.ref b50)])) rfl (by rw [hml]; rfl) (Steps.refl _) (a := b50) (argsL := [(.ref rc), (.ref b40), (.ref rm)]) (rest := [(.ref b50)]) (lenOf pd4 rfl) rfl (by show 2 * 0 + _ ≤ _; exact Nat.le_of_eq rfl) (hb hby at_130) (fun _ _ => ⟨rfl, e50, (by decide : 13 + 0 ≤ _), (by decide : 31 + 0 ≤ _)⟩)
          dsimp only [Pt.U, Pt.locs, Pt.cells, Pt.slots] at X52 l52 y52 z52 st52 hQ52
          subst l52 y52 z52
          obtain ⟨rfl, Nt, Kt, At, Tc, Ts⟩ := hQ52
          have c52 : Steps p.tables e below S0 (T52.setTop (mkF m 133 #[.val (.int i0), .val (.int i1), .val (.int i2), .val (.int i3), .val (.int f1), .val (.int f2), .val (.int f3), .val (.int f4), .val (.ref rc), .val (.ref b40), .val (.ref rm), .unset, .unset] [(.ref b50)])) := by
            refine c51.trans ?_
            show Steps p.tables e below (T50.setTop (mkF m 130 #[.val (.int i0), .val (.int i1), .val (.int i2), .val (.int i3), .val (.int f1), .val (.int f2), .val (.int f3), .val (.int f4), .val (.ref rc), .val (.ref b40), .val (.ref rm), .unset, .unset] [(.ref rm), (.ref b40), (.ref rc), (.ref b50), (.ref b50)])) _
            refine st52.trans ?_
            exact Steps.refl _
          have Nf := Fr.app Nf Nt
          have hRs52 := CHr.keep Kt (fun x hx => by cases List.mem_singleton.mp hx; exact Sf_b50) hR.1
          have hR := hR.trans hRs52
          have Zh := Nat.le_trans Zh Kt.1
          have hk := Nat.le_trans hk Kt.1
          have c53 : Steps p.tables e below S0 (T52.setTop (mkF m 137 #[.val (.int i0), .val (.int i1), .val (.int i2), .val (.int i3), .val (.int f1), .val (.int f2), .val (.int f3), .val (.int f4), .val (.ref rc), .val (.ref b40), .val (.ref rm), .val (.ref b50), .unset] [(.ref b50)])) := by
            refine c52.trans ?_
            show Steps p.tables e below (T52.setTop (mkF m 133 #[.val (.int i0), .val (.int i1), .val (.int i2), .val (.int i3), .val (.int f1), .val (.int f2), .val (.int f3), .val (.int f4), .val (.ref rc), .val (.ref b40), .val (.ref rm), .unset, .unset] [(.ref b50)])) _
            refine XS.astore X52.here hx rfl (hb hby at_133) rfl rfl (l' := #[.val (.int i0), .val (.int i1), .val (.int i2), .val (.int i3), .val (.int f1), .val (.int f2), .val (.int f3), .val (.int f4), .val (.ref rc), .val (.ref b40), .val (.ref rm), .val (.ref b50), .unset]) rfl ?_
            show Steps p.tables e below (T52.setTop (mkF m 135 #[.val (.int i0), .val (.int i1), .val (.int i2), .val (.int i3), .val (.int f1), .val (.int f2), .val (.int f3), .val (.int f4), .val (.ref rc), .val (.ref b40), .val (.ref rm), .val (.ref b50), .unset] [])) _
            refine XS.aload X52.here hx rfl (hb hby at_135) rfl rfl ?_
            exact Steps.refl _
          obtain ⟨cq54, kq54, q54a, q54b, q54c⟩ := isOf hZ rfl At
          obtain ⟨_, _, ⟨T54, L54, k54, n54⟩, -, X54, ⟨Lc54, hQ54, l54, y54, z54⟩, st54⟩ := X52.virtualBack hx (y := (⟨"com/example/attestry/attestry/saml/Status", "innermostCode", "()Ljava/lang/String;"⟩ : MethodName)) (z := (⟨"com/example/attestry/attestry/saml/Status", "innermostCode", "()Ljava/lang/String;"⟩ : MethodName)) hown (mvT hZ (hw _ (List.mem_of_getElem? (i := 52) rfl))) (mvT hZ (hw _ (List.mem_of_getElem? (i := 53) rfl))) (notFace_of_selects (args := #[]) (mvT hZ (hw _ (List.mem_of_getElem? (i := 55) rfl)))) (mvT hZ (hw _ (List.mem_of_getElem? (i := 55) rfl))) (mvT hZ (hw _ (List.mem_of_getElem? (i := 54) rfl))) (by decide) (backOf (W := 0) (rm585 l Z a0 hw [] b50 (.ref rc) (.ref b40) T52.heap n0 Zh rfl rfl Tc Ts) hZ (hw _ (List.mem_of_getElem? (i := 56) rfl)) (hw _ (List.mem_of_getElem? (i := 36) rfl)) (by decide) (by decide)) q54a q54c (g := (mkF m 137 #[.val (.int i0), .val (.int i1), .val (.int i2), .val (.int i3), .val (.int f1), .val (.int f2), .val (.int f3), .val (.int f4), .val (.ref rc), .val (.ref b40), .val (.ref rm), .val (.ref b50), .unset] [(.ref b50)])) rfl (by rw [hml]; rfl) (Steps.refl _) (argsL := []) (rest := []) (lenOf pd5 rfl) rfl (by show 2 * 0 + _ ≤ _; exact Nat.le_of_eq rfl) (hb hby at_137) (fun _ _ => ⟨rfl, rfl, (by decide : 13 + 0 ≤ _), (by decide : 31 + 0 ≤ _)⟩)
          dsimp only [Pt.U, Pt.locs, Pt.cells, Pt.slots] at X54 l54 y54 z54 st54 hQ54
          subst l54 y54 z54
          obtain ⟨rfl, Nu, eu⟩ := hQ54
          have c54 : Steps p.tables e below S0 (T54.setTop (mkF m 140 #[.val (.int i0), .val (.int i1), .val (.int i2), .val (.int i3), .val (.int f1), .val (.int f2), .val (.int f3), .val (.int f4), .val (.ref rc), .val (.ref b40), .val (.ref rm), .val (.ref b50), .unset] [(.ref b40)])) := by
            refine c53.trans ?_
            show Steps p.tables e below (T52.setTop (mkF m 137 #[.val (.int i0), .val (.int i1), .val (.int i2), .val (.int i3), .val (.int f1), .val (.int f2), .val (.int f3), .val (.int f4), .val (.ref rc), .val (.ref b40), .val (.ref rm), .val (.ref b50), .unset] [(.ref b50)])) _
            refine st54.trans ?_
            exact Steps.refl _
          have c55 : Steps p.tables e below S0 (T54.setTop (mkF m 142 #[.val (.int i0), .val (.int i1), .val (.int i2), .val (.int i3), .val (.int f1), .val (.int f2), .val (.int f3), .val (.int f4), .val (.ref rc), .val (.ref b40), .val (.ref rm), .val (.ref b50), .val (.ref b40)] [])) := by
            refine c54.trans ?_
            show Steps p.tables e below (T54.setTop (mkF m 140 #[.val (.int i0), .val (.int i1), .val (.int i2), .val (.int i3), .val (.int f1), .val (.int f2), .val (.int f3), .val (.int f4), .val (.ref rc), .val (.ref b40), .val (.ref rm), .val (.ref b50), .unset] [(.ref b40)])) _
            refine XS.astore X54.here hx rfl (hb hby at_140) rfl rfl (l' := #[.val (.int i0), .val (.int i1), .val (.int i2), .val (.int i3), .val (.int f1), .val (.int f2), .val (.int f3), .val (.int f4), .val (.ref rc), .val (.ref b40), .val (.ref rm), .val (.ref b50), .val (.ref b40)]) rfl ?_
            exact Steps.refl _
          have c56 : Steps p.tables e below S0 (T54.setTop (mkF m 159 #[.val (.int i0), .val (.int i1), .val (.int i2), .val (.int i3), .val (.int f1), .val (.int f2), .val (.int f3), .val (.int f4), .val (.ref rc), .val (.ref b40), .val (.ref rm), .val (.ref b50), .val (.ref b40)] [(.int (1 : Int32))])) := by
            refine c55.trans ?_
            show Steps p.tables e below (T54.setTop (mkF m 142 #[.val (.int i0), .val (.int i1), .val (.int i2), .val (.int i3), .val (.int f1), .val (.int f2), .val (.int f3), .val (.int f4), .val (.ref rc), .val (.ref b40), .val (.ref rm), .val (.ref b50), .val (.ref b40)] [])) _
            refine XS.aload X54.here hx rfl (hb hby at_142) rfl rfl ?_
            show Steps p.tables e below (T54.setTop (mkF m 144 #[.val (.int i0), .val (.int i1), .val (.int i2), .val (.int i3), .val (.int f1), .val (.int f2), .val (.int f3), .val (.int f4), .val (.ref rc), .val (.ref b40), .val (.ref rm), .val (.ref b50), .val (.ref b40)] [(.ref b40)])) _
            refine XS.ifnullNo X54.here hx rfl (hb hby at_144) rfl ?_
            show Steps p.tables e below (T54.setTop (mkF m 147 #[.val (.int i0), .val (.int i1), .val (.int i2), .val (.int i3), .val (.int f1), .val (.int f2), .val (.int f3), .val (.int f4), .val (.ref rc), .val (.ref b40), .val (.ref rm), .val (.ref b50), .val (.ref b40)] [])) _
            refine XS.aload X54.here hx rfl (hb hby at_147) rfl rfl ?_
            show Steps p.tables e below (T54.setTop (mkF m 149 #[.val (.int i0), .val (.int i1), .val (.int i2), .val (.int i3), .val (.int f1), .val (.int f2), .val (.int f3), .val (.int f4), .val (.ref rc), .val (.ref b40), .val (.ref rm), .val (.ref b50), .val (.ref b40)] [(.ref b40)])) _
            refine XS.aload X54.here hx rfl (hb hby at_149) rfl rfl ?_
            show Steps p.tables e below (T54.setTop (mkF m 151 #[.val (.int i0), .val (.int i1), .val (.int i2), .val (.int i3), .val (.int f1), .val (.int f2), .val (.int f3), .val (.int f4), .val (.ref rc), .val (.ref b40), .val (.ref rm), .val (.ref b50), .val (.ref b40)] [(.ref b40), (.ref b40)])) _
            refine Jvm.RoadKit.acmp (g := (mkF m 151 #[.val (.int i0), .val (.int i1), .val (.int i2), .val (.int i3), .val (.int f1), .val (.int f2), .val (.int f3), .val (.int f4), .val (.ref rc), .val (.ref b40), .val (.ref rm), .val (.ref b50), .val (.ref b40)] [(.ref b40), (.ref b40)])) X54 hx rfl rfl rfl (pc0 := 151) (pc' := 154) (same := true) rfl (hb hby at_151) rfl (decide_eq_true rfl) (by decide) (by decide) ?_
            show Steps p.tables e below (T54.setTop (mkF m 154 #[.val (.int i0), .val (.int i1), .val (.int i2), .val (.int i3), .val (.int f1), .val (.int f2), .val (.int f3), .val (.int f4), .val (.ref rc), .val (.ref b40), .val (.ref rm), .val (.ref b50), .val (.ref b40)] [])) _
            refine XS.iconst X54.here hx rfl (hb hby at_154) ?_
            show Steps p.tables e below (T54.setTop (mkF m 155 #[.val (.int i0), .val (.int i1), .val (.int i2), .val (.int i3), .val (.int f1), .val (.int f2), .val (.int f3), .val (.int f4), .val (.ref rc), .val (.ref b40), .val (.ref rm), .val (.ref b50), .val (.ref b40)] [(.int (1 : Int32))])) _
            refine XS.goto X54.here hx rfl (pc0 := 155) (pc' := 159) rfl (hb hby at_155) (by decide) (by decide) ?_
            exact Steps.refl _
          obtain ⟨fs, hr, hrun, hended, hW⟩ := X54.leaveW hS (by rw [eu]; exact hk) (v := some (.int 1)) (fun h => by rw [Bd.returns] at h; cases h)
          refine ⟨_, _, c56.trans ?_, hrun, hended, _, _, rfl, ?_, ?_, hW.1, hW.2.1, hW.2.2.1, hW.2.2.2.mono (by decide) (by decide)⟩
          · show Steps p.tables e below (T54.setTop (mkF m 159 #[.val (.int i0), .val (.int i1), .val (.int i2), .val (.int i3), .val (.int f1), .val (.int f2), .val (.int f3), .val (.int f4), .val (.ref rc), .val (.ref b40), .val (.ref rm), .val (.ref b50), .val (.ref b40)] [(.int (1 : Int32))])) _
            exact retN X54 hx (t := .boolean) Bd.returns (by simp) (hb hby at_159) hr
          · show Q0 Z i0 i1 i2 i3 G1 h0 n0 _ T54.heap _
            rw [eu]
            exact ⟨rfl, Fr.app Nf Nu⟩
          · show CHr Z consts_1 s.vm s.heap T54.vm T54.heap
            rw [hh, eu, ← hV0]
            exact hR.trans (CHv.at X54 hZ hEL hR.1)
        · have c57 : Steps p.tables e below S0 (T43.setTop (mkF m 120 #[.val (.int i0), .val (.int i1), .val (.int i2), .val (.int i3), .val (.int f1), .val (.int f2), .val (.int f3), .val (.int f4), .val (.ref rc), .val (.ref b40), .val .null, .unset, .unset] [])) := by
            refine c45.trans ?_
            show Steps p.tables e below (T43.setTop (mkF m 107 #[.val (.int i0), .val (.int i1), .val (.int i2), .val (.int i3), .val (.int f1), .val (.int f2), .val (.int f3), .val (.int f4), .val (.ref rc), .val (.ref b40), .unset, .unset, .unset] [(.int f4)])) _
            refine XS.ifNo X43.here hx rfl (hb hby at_107) rfl ((if0 _ _).trans (feq hm).1) ?_
            show Steps p.tables e below (T43.setTop (mkF m 110 #[.val (.int i0), .val (.int i1), .val (.int i2), .val (.int i3), .val (.int f1), .val (.int f2), .val (.int f3), .val (.int f4), .val (.ref rc), .val (.ref b40), .unset, .unset, .unset] [])) _
            refine XS.aconstNull X43.here hx rfl (hb hby at_110) ?_
            show Steps p.tables e below (T43.setTop (mkF m 111 #[.val (.int i0), .val (.int i1), .val (.int i2), .val (.int i3), .val (.int f1), .val (.int f2), .val (.int f3), .val (.int f4), .val (.ref rc), .val (.ref b40), .unset, .unset, .unset] [.null])) _
            refine XS.goto X43.here hx rfl (pc0 := 111) (pc' := 118) rfl (hb hby at_111) (by decide) (by decide) ?_
            show Steps p.tables e below (T43.setTop (mkF m 118 #[.val (.int i0), .val (.int i1), .val (.int i2), .val (.int i3), .val (.int f1), .val (.int f2), .val (.int f3), .val (.int f4), .val (.ref rc), .val (.ref b40), .unset, .unset, .unset] [.null])) _
            refine XS.astore X43.here hx rfl (hb hby at_118) rfl rfl (l' := #[.val (.int i0), .val (.int i1), .val (.int i2), .val (.int i3), .val (.int f1), .val (.int f2), .val (.int f3), .val (.int f4), .val (.ref rc), .val (.ref b40), .val .null, .unset, .unset]) rfl ?_
            exact Steps.refl _
          obtain ⟨T58, h58, X58, e58, E58, A58, D58, -, st58⟩ := newO X43 hx hZ hown (hw _ (List.mem_of_getElem? (i := 34) rfl)) (hw _ (List.mem_of_getElem? (i := 35) rfl)) (hw _ (List.mem_of_getElem? (i := 36) rfl)) rfl (g := (mkF m 120 #[.val (.int i0), .val (.int i1), .val (.int i2), .val (.int i3), .val (.int f1), .val (.int f2), .val (.int f3), .val (.int f4), .val (.ref rc), .val (.ref b40), .val .null, .unset, .unset] [])) rfl (hb hby at_120) (by decide) (by decide)
          obtain ⟨b58, g58⟩ : ∃ z, z = T43.heap.size := ⟨_, rfl⟩
          rw [← g58] at A58 D58 st58
          have c58 : Steps p.tables e below S0 (T58.setTop (mkF m 123 #[.val (.int i0), .val (.int i1), .val (.int i2), .val (.int i3), .val (.int f1), .val (.int f2), .val (.int f3), .val (.int f4), .val (.ref rc), .val (.ref b40), .val .null, .unset, .unset] [(.ref b58)])) := by
            refine c57.trans ?_
            show Steps p.tables e below (T43.setTop (mkF m 120 #[.val (.int i0), .val (.int i1), .val (.int i2), .val (.int i3), .val (.int f1), .val (.int f2), .val (.int f3), .val (.int f4), .val (.ref rc), .val (.ref b40), .val .null, .unset, .unset] [])) _
            refine st58 _ ?_
            exact Steps.refl _
          have Sf_b58 := Safe.ext E58 hR.1 (Safe.new (Nat.le_of_eq g58.symm))
          have gb58 : n0 ≤ b58 := Nat.le_trans Zh (Nat.le_of_eq g58.symm)
          have hRs58 := CHr.ext E58 hR.1
          have hR := hR.trans hRs58
          have Zh := Nat.le_trans Zh E58.1
          have hk := Nat.le_trans hk E58.1
          have Gc : Fld Z h58 b58 "com/example/attestry/attestry/saml/Status" "code" "Ljava/lang/String;" .null := D58 (Or.inr (hw _ (List.mem_of_getElem? (i := 47) rfl))) (ty := (.object "java/lang/String")) (by decide)
          have Gs : Fld Z h58 b58 "com/example/attestry/attestry/saml/Status" "subcode" "Ljava/lang/String;" .null := D58 (Or.inr (hw _ (List.mem_of_getElem? (i := 49) rfl))) (ty := (.object "java/lang/String")) (by decide)
          have Gm : Fld Z h58 b58 "com/example/attestry/attestry/saml/Status" "message" "Ljava/lang/String;" .null := D58 (Or.inr (hw _ (List.mem_of_getElem? (i := 51) rfl))) (ty := (.object "java/lang/String")) (by decide)
          have c59 : Steps p.tables e below S0 (T58.setTop (mkF m 130 #[.val (.int i0), .val (.int i1), .val (.int i2), .val (.int i3), .val (.int f1), .val (.int f2), .val (.int f3), .val (.int f4), .val (.ref rc), .val (.ref b40), .val .null, .unset, .unset] [.null, (.ref b40), (.ref rc), (.ref b58), (.ref b58)])) := by
            refine c58.trans ?_
            show Steps p.tables e below (T58.setTop (mkF m 123 #[.val (.int i0), .val (.int i1), .val (.int i2), .val (.int i3), .val (.int f1), .val (.int f2), .val (.int f3), .val (.int f4), .val (.ref rc), .val (.ref b40), .val .null, .unset, .unset] [(.ref b58)])) _
            refine XS.dup X58.here hx rfl (hb hby at_123) rfl rfl ?_
            show Steps p.tables e below (T58.setTop (mkF m 124 #[.val (.int i0), .val (.int i1), .val (.int i2), .val (.int i3), .val (.int f1), .val (.int f2), .val (.int f3), .val (.int f4), .val (.ref rc), .val (.ref b40), .val .null, .unset, .unset] [(.ref b58), (.ref b58)])) _
            refine XS.aload X58.here hx rfl (hb hby at_124) rfl rfl ?_
            show Steps p.tables e below (T58.setTop (mkF m 126 #[.val (.int i0), .val (.int i1), .val (.int i2), .val (.int i3), .val (.int f1), .val (.int f2), .val (.int f3), .val (.int f4), .val (.ref rc), .val (.ref b40), .val .null, .unset, .unset] [(.ref rc), (.ref b58), (.ref b58)])) _
            refine XS.aload X58.here hx rfl (hb hby at_126) rfl rfl ?_
            show Steps p.tables e below (T58.setTop (mkF m 128 #[.val (.int i0), .val (.int i1), .val (.int i2), .val (.int i3), .val (.int f1), .val (.int f2), .val (.int f3), .val (.int f4), .val (.ref rc), .val (.ref b40), .val .null, .unset, .unset] [(.ref b40), (.ref rc), (.ref b58), (.ref b58)])) _
            refine XS.aload X58.here hx rfl (hb hby at_128) rfl rfl ?_
            exact Steps.refl _
          obtain ⟨_, _, ⟨T60, L60, k60, n60⟩, -, X60, ⟨Lc60, hQ60, l60, y60, z60⟩, st60⟩ := X58.specialBack hx (y := (⟨"com/example/attestry/attestry/saml/Status", "<init>", "(Ljava/lang/String;Ljava/lang/String;Ljava/lang/String;)V"⟩ : MethodName)) rfl hown (mvT hZ (hw _ (List.mem_of_getElem? (i := 37) rfl))) (mvT hZ (hw _ (List.mem_of_getElem? (i := 38) rfl))) (mvT hZ (hw _ (List.mem_of_getElem? (i := 39) rfl))) (by decide) (backOf (W := 1) (rm58 l Z a0 hw [] b58 (.ref rc) (.ref b40) .null h58 n0 Zh rfl rfl rfl A58 Gc Gs Gm gb58) hZ (hw _ (List.mem_of_getElem? (i := 39) rfl)) (hw _ (List.mem_of_getElem? (i := 36) rfl)) (by decide) (by decide)) (g := (mkF m 130 #[.val (.int i0), .val (.int i1), .val (.int i2), .val (.int i3), .val (.int f1), .val (.int f2), .val (.int f3), .val (.int f4), .val (.ref rc), .val (.ref b40), .val .null, .unset, .unset] [.null, (.ref b40), (.ref rc), (.ref b58), (.ref b58)])) rfl (by rw [hml]; rfl) (Steps.refl _) (a := b58) (argsL := [(.ref rc), (.ref b40), .null]) (rest := [(.ref b58)]) (lenOf pd4 rfl) rfl (by show 2 * 0 + _ ≤ _; exact Nat.le_of_eq rfl) (hb hby at_130) (fun _ _ => ⟨rfl, e58, (by decide : 10 + 0 ≤ _), (by decide : 23 + 0 ≤ _)⟩)
          dsimp only [Pt.U, Pt.locs, Pt.cells, Pt.slots] at X60 l60 y60 z60 st60 hQ60
          subst l60 y60 z60
          obtain ⟨rfl, Nt, Kt, At, Tc, Ts⟩ := hQ60
          have c60 : Steps p.tables e below S0 (T60.setTop (mkF m 133 #[.val (.int i0), .val (.int i1), .val (.int i2), .val (.int i3), .val (.int f1), .val (.int f2), .val (.int f3), .val (.int f4), .val (.ref rc), .val (.ref b40), .val .null, .unset, .unset] [(.ref b58)])) := by
            refine c59.trans ?_
            show Steps p.tables e below (T58.setTop (mkF m 130 #[.val (.int i0), .val (.int i1), .val (.int i2), .val (.int i3), .val (.int f1), .val (.int f2), .val (.int f3), .val (.int f4), .val (.ref rc), .val (.ref b40), .val .null, .unset, .unset] [.null, (.ref b40), (.ref rc), (.ref b58), (.ref b58)])) _
            refine st60.trans ?_
            exact Steps.refl _
          have Nf := Fr.app Nf Nt
          have hRs60 := CHr.keep Kt (fun x hx => by cases List.mem_singleton.mp hx; exact Sf_b58) hR.1
          have hR := hR.trans hRs60
          have Zh := Nat.le_trans Zh Kt.1
          have hk := Nat.le_trans hk Kt.1
          have c61 : Steps p.tables e below S0 (T60.setTop (mkF m 137 #[.val (.int i0), .val (.int i1), .val (.int i2), .val (.int i3), .val (.int f1), .val (.int f2), .val (.int f3), .val (.int f4), .val (.ref rc), .val (.ref b40), .val .null, .val (.ref b58), .unset] [(.ref b58)])) := by
            refine c60.trans ?_
            show Steps p.tables e below (T60.setTop (mkF m 133 #[.val (.int i0), .val (.int i1), .val (.int i2), .val (.int i3), .val (.int f1), .val (.int f2), .val (.int f3), .val (.int f4), .val (.ref rc), .val (.ref b40), .val .null, .unset, .unset] [(.ref b58)])) _
            refine XS.astore X60.here hx rfl (hb hby at_133) rfl rfl (l' := #[.val (.int i0), .val (.int i1), .val (.int i2), .val (.int i3), .val (.int f1), .val (.int f2), .val (.int f3), .val (.int f4), .val (.ref rc), .val (.ref b40), .val .null, .val (.ref b58), .unset]) rfl ?_
            show Steps p.tables e below (T60.setTop (mkF m 135 #[.val (.int i0), .val (.int i1), .val (.int i2), .val (.int i3), .val (.int f1), .val (.int f2), .val (.int f3), .val (.int f4), .val (.ref rc), .val (.ref b40), .val .null, .val (.ref b58), .unset] [])) _
            refine XS.aload X60.here hx rfl (hb hby at_135) rfl rfl ?_
            exact Steps.refl _
          obtain ⟨cq62, kq62, q62a, q62b, q62c⟩ := isOf hZ rfl At
          obtain ⟨_, _, ⟨T62, L62, k62, n62⟩, -, X62, ⟨Lc62, hQ62, l62, y62, z62⟩, st62⟩ := X60.virtualBack hx (y := (⟨"com/example/attestry/attestry/saml/Status", "innermostCode", "()Ljava/lang/String;"⟩ : MethodName)) (z := (⟨"com/example/attestry/attestry/saml/Status", "innermostCode", "()Ljava/lang/String;"⟩ : MethodName)) hown (mvT hZ (hw _ (List.mem_of_getElem? (i := 52) rfl))) (mvT hZ (hw _ (List.mem_of_getElem? (i := 53) rfl))) (notFace_of_selects (args := #[]) (mvT hZ (hw _ (List.mem_of_getElem? (i := 55) rfl)))) (mvT hZ (hw _ (List.mem_of_getElem? (i := 55) rfl))) (mvT hZ (hw _ (List.mem_of_getElem? (i := 54) rfl))) (by decide) (backOf (W := 0) (rm585 l Z a0 hw [] b58 (.ref rc) (.ref b40) T60.heap n0 Zh rfl rfl Tc Ts) hZ (hw _ (List.mem_of_getElem? (i := 56) rfl)) (hw _ (List.mem_of_getElem? (i := 36) rfl)) (by decide) (by decide)) q62a q62c (g := (mkF m 137 #[.val (.int i0), .val (.int i1), .val (.int i2), .val (.int i3), .val (.int f1), .val (.int f2), .val (.int f3), .val (.int f4), .val (.ref rc), .val (.ref b40), .val .null, .val (.ref b58), .unset] [(.ref b58)])) rfl (by rw [hml]; rfl) (Steps.refl _) (argsL := []) (rest := []) (lenOf pd5 rfl) rfl (by show 2 * 0 + _ ≤ _; exact Nat.le_of_eq rfl) (hb hby at_137) (fun _ _ => ⟨rfl, rfl, (by decide : 10 + 0 ≤ _), (by decide : 23 + 0 ≤ _)⟩)
          dsimp only [Pt.U, Pt.locs, Pt.cells, Pt.slots] at X62 l62 y62 z62 st62 hQ62
          subst l62 y62 z62
          obtain ⟨rfl, Nu, eu⟩ := hQ62
          have c62 : Steps p.tables e below S0 (T62.setTop (mkF m 140 #[.val (.int i0), .val (.int i1), .val (.int i2), .val (.int i3), .val (.int f1), .val (.int f2), .val (.int f3), .val (.int f4), .val (.ref rc), .val (.ref b40), .val .null, .val (.ref b58), .unset] [(.ref b40)])) := by
            refine c61.trans ?_
            show Steps p.tables e below (T60.setTop (mkF m 137 #[.val (.int i0), .val (.int i1), .val (.int i2), .val (.int i3), .val (.int f1), .val (.int f2), .val (.int f3), .val (.int f4), .val (.ref rc), .val (.ref b40), .val .null, .val (.ref b58), .unset] [(.ref b58)])) _
            refine st62.trans ?_
            exact Steps.refl _
          have c63 : Steps p.tables e below S0 (T62.setTop (mkF m 142 #[.val (.int i0), .val (.int i1), .val (.int i2), .val (.int i3), .val (.int f1), .val (.int f2), .val (.int f3), .val (.int f4), .val (.ref rc), .val (.ref b40), .val .null, .val (.ref b58), .val (.ref b40)] [])) := by
            refine c62.trans ?_
            show Steps p.tables e below (T62.setTop (mkF m 140 #[.val (.int i0), .val (.int i1), .val (.int i2), .val (.int i3), .val (.int f1), .val (.int f2), .val (.int f3), .val (.int f4), .val (.ref rc), .val (.ref b40), .val .null, .val (.ref b58), .unset] [(.ref b40)])) _
            refine XS.astore X62.here hx rfl (hb hby at_140) rfl rfl (l' := #[.val (.int i0), .val (.int i1), .val (.int i2), .val (.int i3), .val (.int f1), .val (.int f2), .val (.int f3), .val (.int f4), .val (.ref rc), .val (.ref b40), .val .null, .val (.ref b58), .val (.ref b40)]) rfl ?_
            exact Steps.refl _
          have c64 : Steps p.tables e below S0 (T62.setTop (mkF m 159 #[.val (.int i0), .val (.int i1), .val (.int i2), .val (.int i3), .val (.int f1), .val (.int f2), .val (.int f3), .val (.int f4), .val (.ref rc), .val (.ref b40), .val .null, .val (.ref b58), .val (.ref b40)] [(.int (1 : Int32))])) := by
            refine c63.trans ?_
            show Steps p.tables e below (T62.setTop (mkF m 142 #[.val (.int i0), .val (.int i1), .val (.int i2), .val (.int i3), .val (.int f1), .val (.int f2), .val (.int f3), .val (.int f4), .val (.ref rc), .val (.ref b40), .val .null, .val (.ref b58), .val (.ref b40)] [])) _
            refine XS.aload X62.here hx rfl (hb hby at_142) rfl rfl ?_
            show Steps p.tables e below (T62.setTop (mkF m 144 #[.val (.int i0), .val (.int i1), .val (.int i2), .val (.int i3), .val (.int f1), .val (.int f2), .val (.int f3), .val (.int f4), .val (.ref rc), .val (.ref b40), .val .null, .val (.ref b58), .val (.ref b40)] [(.ref b40)])) _
            refine XS.ifnullNo X62.here hx rfl (hb hby at_144) rfl ?_
            show Steps p.tables e below (T62.setTop (mkF m 147 #[.val (.int i0), .val (.int i1), .val (.int i2), .val (.int i3), .val (.int f1), .val (.int f2), .val (.int f3), .val (.int f4), .val (.ref rc), .val (.ref b40), .val .null, .val (.ref b58), .val (.ref b40)] [])) _
            refine XS.aload X62.here hx rfl (hb hby at_147) rfl rfl ?_
            show Steps p.tables e below (T62.setTop (mkF m 149 #[.val (.int i0), .val (.int i1), .val (.int i2), .val (.int i3), .val (.int f1), .val (.int f2), .val (.int f3), .val (.int f4), .val (.ref rc), .val (.ref b40), .val .null, .val (.ref b58), .val (.ref b40)] [(.ref b40)])) _
            refine XS.aload X62.here hx rfl (hb hby at_149) rfl rfl ?_
            show Steps p.tables e below (T62.setTop (mkF m 151 #[.val (.int i0), .val (.int i1), .val (.int i2), .val (.int i3), .val (.int f1), .val (.int f2), .val (.int f3), .val (.int f4), .val (.ref rc), .val (.ref b40), .val .null, .val (.ref b58), .val (.ref b40)] [(.ref b40), (.ref b40)])) _
            refine Jvm.RoadKit.acmp (g := (mkF m 151 #[.val (.int i0), .val (.int i1), .val (.int i2), .val (.int i3), .val (.int f1), .val (.int f2), .val (.int f3), .val (.int f4), .val (.ref rc), .val (.ref b40), .val .null, .val (.ref b58), .val (.ref b40)] [(.ref b40), (.ref b40)])) X62 hx rfl rfl rfl (pc0 := 151) (pc' := 154) (same := true) rfl (hb hby at_151) rfl (decide_eq_true rfl) (by decide) (by decide) ?_
            show Steps p.tables e below (T62.setTop (mkF m 154 #[.val (.int i0), .val (.int i1), .val (.int i2), .val (.int i3), .val (.int f1), .val (.int f2), .val (.int f3), .val (.int f4), .val (.ref rc), .val (.ref b40), .val .null, .val (.ref b58), .val (.ref b40)] [])) _
            refine XS.iconst X62.here hx rfl (hb hby at_154) ?_
            show Steps p.tables e below (T62.setTop (mkF m 155 #[.val (.int i0), .val (.int i1), .val (.int i2), .val (.int i3), .val (.int f1), .val (.int f2), .val (.int f3), .val (.int f4), .val (.ref rc), .val (.ref b40), .val .null, .val (.ref b58), .val (.ref b40)] [(.int (1 : Int32))])) _
            refine XS.goto X62.here hx rfl (pc0 := 155) (pc' := 159) rfl (hb hby at_155) (by decide) (by decide) ?_
            exact Steps.refl _
          obtain ⟨fs, hr, hrun, hended, hW⟩ := X62.leaveW hS (by rw [eu]; exact hk) (v := some (.int 1)) (fun h => by rw [Bd.returns] at h; cases h)
          refine ⟨_, _, c64.trans ?_, hrun, hended, _, _, rfl, ?_, ?_, hW.1, hW.2.1, hW.2.2.1, hW.2.2.2.mono (by decide) (by decide)⟩
          · show Steps p.tables e below (T62.setTop (mkF m 159 #[.val (.int i0), .val (.int i1), .val (.int i2), .val (.int i3), .val (.int f1), .val (.int f2), .val (.int f3), .val (.int f4), .val (.ref rc), .val (.ref b40), .val .null, .val (.ref b58), .val (.ref b40)] [(.int (1 : Int32))])) _
            exact retN X62 hx (t := .boolean) Bd.returns (by simp) (hb hby at_159) hr
          · show Q0 Z i0 i1 i2 i3 G1 h0 n0 _ T62.heap _
            rw [eu]
            exact ⟨rfl, Fr.app Nf Nu⟩
          · show CHr Z consts_1 s.vm s.heap T62.vm T62.heap
            rw [hh, eu, ← hV0]
            exact hR.trans (CHv.at X62 hZ hEL hR.1)
    · have c65 : Steps p.tables e below S0 (T12.setTop (mkF m 105 #[.val (.int i0), .val (.int i1), .val (.int i2), .val (.int i3), .val (.int f1), .val (.int f2), .val (.int f3), .val (.int f4), .val (.ref rc), .val .null, .unset, .unset, .unset] [])) := by
        refine c13.trans ?_
        show Steps p.tables e below (T12.setTop (mkF m 70 #[.val (.int i0), .val (.int i1), .val (.int i2), .val (.int i3), .val (.int f1), .val (.int f2), .val (.int f3), .val (.int f4), .val (.ref rc), .unset, .unset, .unset, .unset] [(.int f2)])) _
        refine XS.ifNo X12.here hx rfl (hb hby at_70) rfl ((if0 _ _).trans (feq hs2).1) ?_
        show Steps p.tables e below (T12.setTop (mkF m 73 #[.val (.int i0), .val (.int i1), .val (.int i2), .val (.int i3), .val (.int f1), .val (.int f2), .val (.int f3), .val (.int f4), .val (.ref rc), .unset, .unset, .unset, .unset] [])) _
        refine XS.aconstNull X12.here hx rfl (hb hby at_73) ?_
        show Steps p.tables e below (T12.setTop (mkF m 74 #[.val (.int i0), .val (.int i1), .val (.int i2), .val (.int i3), .val (.int f1), .val (.int f2), .val (.int f3), .val (.int f4), .val (.ref rc), .unset, .unset, .unset, .unset] [.null])) _
        refine XS.astore X12.here hx rfl (hb hby at_74) rfl rfl (l' := #[.val (.int i0), .val (.int i1), .val (.int i2), .val (.int i3), .val (.int f1), .val (.int f2), .val (.int f3), .val (.int f4), .val (.ref rc), .val .null, .unset, .unset, .unset]) rfl ?_
        show Steps p.tables e below (T12.setTop (mkF m 76 #[.val (.int i0), .val (.int i1), .val (.int i2), .val (.int i3), .val (.int f1), .val (.int f2), .val (.int f3), .val (.int f4), .val (.ref rc), .val .null, .unset, .unset, .unset] [])) _
        refine XS.goto X12.here hx rfl (pc0 := 76) (pc' := 105) rfl (hb hby at_76) (by decide) (by decide) ?_
        exact Steps.refl _
      have c66 : Steps p.tables e below S0 (T12.setTop (mkF m 107 #[.val (.int i0), .val (.int i1), .val (.int i2), .val (.int i3), .val (.int f1), .val (.int f2), .val (.int f3), .val (.int f4), .val (.ref rc), .val .null, .unset, .unset, .unset] [(.int f4)])) := by
        refine c65.trans ?_
        show Steps p.tables e below (T12.setTop (mkF m 105 #[.val (.int i0), .val (.int i1), .val (.int i2), .val (.int i3), .val (.int f1), .val (.int f2), .val (.int f3), .val (.int f4), .val (.ref rc), .val .null, .unset, .unset, .unset] [])) _
        refine XS.iload X12.here hx rfl (hb hby at_105) rfl ?_
        exact Steps.refl _
      by_cases hm : f4 = 0
      · have c67 : Steps p.tables e below S0 (T12.setTop (mkF m 114 #[.val (.int i0), .val (.int i1), .val (.int i2), .val (.int i3), .val (.int f1), .val (.int f2), .val (.int f3), .val (.int f4), .val (.ref rc), .val .null, .unset, .unset, .unset] [])) := by
          refine c66.trans ?_
          show Steps p.tables e below (T12.setTop (mkF m 107 #[.val (.int i0), .val (.int i1), .val (.int i2), .val (.int i3), .val (.int f1), .val (.int f2), .val (.int f3), .val (.int f4), .val (.ref rc), .val .null, .unset, .unset, .unset] [(.int f4)])) _
          refine XS.ifYes X12.here hx rfl (pc0 := 107) (pc' := 114) rfl (hb hby at_107) rfl ((if0 _ _).trans (teq hm).1) (by decide) (by decide) ?_
          exact Steps.refl _
        have c68 : Steps p.tables e below S0 (T12.setTop (mkF m 115 #[.val (.int i0), .val (.int i1), .val (.int i2), .val (.int i3), .val (.int f1), .val (.int f2), .val (.int f3), .val (.int f4), .val (.ref rc), .val .null, .unset, .unset, .unset] [(.int i2)])) := by
          refine c67.trans ?_
          show Steps p.tables e below (T12.setTop (mkF m 114 #[.val (.int i0), .val (.int i1), .val (.int i2), .val (.int i3), .val (.int f1), .val (.int f2), .val (.int f3), .val (.int f4), .val (.ref rc), .val .null, .unset, .unset, .unset] [])) _
          refine XS.iloadN X12.here hx rfl (hb hby at_114) rfl ?_
          exact Steps.refl _
        obtain ⟨_, _, ⟨T69, L69, k69, n69⟩, -, X69, ⟨Lc69, hQ69, l69, y69, z69⟩, st69⟩ := Jvm.LawKit.callS X12 hx (y := (⟨"com/example/attestry/attestry/saml/StatusInnermostCodePinLaw", "drawn", "(I)Ljava/lang/String;"⟩ : MethodName)) hown (mvT hZ (hw _ (List.mem_of_getElem? (i := 0) rfl))) (mvT hZ (hw _ (List.mem_of_getElem? (i := 1) rfl))) (mvT hZ (hw _ (List.mem_of_getElem? (i := 2) rfl))) (mvT hZ (hw _ (List.mem_of_getElem? (i := 3) rfl))) (by decide) (backOf (W := 0) (rm2 l Z a0 hw [] i2 G1 T12.heap n0 Zh O2 P5 hO) hZ (hw _ (List.mem_of_getElem? (i := 3) rfl)) (hw _ (List.mem_of_getElem? (i := 2) rfl)) (by decide) (by decide)) (g := (mkF m 115 #[.val (.int i0), .val (.int i1), .val (.int i2), .val (.int i3), .val (.int f1), .val (.int f2), .val (.int f3), .val (.int f4), .val (.ref rc), .val .null, .unset, .unset, .unset] [(.int i2)])) rfl (by rw [hml]; rfl) (argsL := [(.int i2)]) (rest := []) (lenOf pd3 rfl) rfl (by show 2 * 0 + _ ≤ _; exact Nat.le_of_eq rfl) (hb hby at_115) (fun _ _ => ⟨rfl, rfl, (by decide : 3 + 3 ≤ _), (by decide : 8 + 8 ≤ _)⟩)
        dsimp only [Pt.U, Pt.locs, Pt.cells, Pt.slots] at X69 l69 y69 z69 st69 hQ69
        subst l69 y69 z69
        obtain ⟨⟨rm, rfl⟩, Nd, Kd⟩ := hQ69
        have c69 : Steps p.tables e below S0 (T69.setTop (mkF m 118 #[.val (.int i0), .val (.int i1), .val (.int i2), .val (.int i3), .val (.int f1), .val (.int f2), .val (.int f3), .val (.int f4), .val (.ref rc), .val .null, .unset, .unset, .unset] [(.ref rm)])) := by
          refine c68.trans ?_
          show Steps p.tables e below (T12.setTop (mkF m 115 #[.val (.int i0), .val (.int i1), .val (.int i2), .val (.int i3), .val (.int f1), .val (.int f2), .val (.int f3), .val (.int f4), .val (.ref rc), .val .null, .unset, .unset, .unset] [(.int i2)])) _
          refine st69 _ ?_
          exact Steps.refl _
        have hRs69 := CHr.keep Kd (fun x hx => by cases hx) hR.1
        have hR := hR.trans hRs69
        have Zh := Nat.le_trans Zh Kd.1
        have hk := Nat.le_trans hk Kd.1
        have hO := hO.keep Kd (fun x hx => by cases hx)
        have Nf := Fr.app Nf Nd
        have c70 : Steps p.tables e below S0 (T69.setTop (mkF m 120 #[.val (.int i0), .val (.int i1), .val (.int i2), .val (.int i3), .val (.int f1), .val (.int f2), .val (.int f3), .val (.int f4), .val (.ref rc), .val .null, .val (.ref rm), .unset, .unset] [])) := by
          refine c69.trans ?_
          show Steps p.tables e below (T69.setTop (mkF m 118 #[.val (.int i0), .val (.int i1), .val (.int i2), .val (.int i3), .val (.int f1), .val (.int f2), .val (.int f3), .val (.int f4), .val (.ref rc), .val .null, .unset, .unset, .unset] [(.ref rm)])) _
          refine XS.astore X69.here hx rfl (hb hby at_118) rfl rfl (l' := #[.val (.int i0), .val (.int i1), .val (.int i2), .val (.int i3), .val (.int f1), .val (.int f2), .val (.int f3), .val (.int f4), .val (.ref rc), .val .null, .val (.ref rm), .unset, .unset]) rfl ?_
          exact Steps.refl _
        obtain ⟨T71, h71, X71, e71, E71, A71, D71, -, st71⟩ := newO X69 hx hZ hown (hw _ (List.mem_of_getElem? (i := 34) rfl)) (hw _ (List.mem_of_getElem? (i := 35) rfl)) (hw _ (List.mem_of_getElem? (i := 36) rfl)) rfl (g := (mkF m 120 #[.val (.int i0), .val (.int i1), .val (.int i2), .val (.int i3), .val (.int f1), .val (.int f2), .val (.int f3), .val (.int f4), .val (.ref rc), .val .null, .val (.ref rm), .unset, .unset] [])) rfl (hb hby at_120) (by decide) (by decide)
        obtain ⟨b71, g71⟩ : ∃ z, z = T69.heap.size := ⟨_, rfl⟩
        rw [← g71] at A71 D71 st71
        have c71 : Steps p.tables e below S0 (T71.setTop (mkF m 123 #[.val (.int i0), .val (.int i1), .val (.int i2), .val (.int i3), .val (.int f1), .val (.int f2), .val (.int f3), .val (.int f4), .val (.ref rc), .val .null, .val (.ref rm), .unset, .unset] [(.ref b71)])) := by
          refine c70.trans ?_
          show Steps p.tables e below (T69.setTop (mkF m 120 #[.val (.int i0), .val (.int i1), .val (.int i2), .val (.int i3), .val (.int f1), .val (.int f2), .val (.int f3), .val (.int f4), .val (.ref rc), .val .null, .val (.ref rm), .unset, .unset] [])) _
          refine st71 _ ?_
          exact Steps.refl _
        have Sf_b71 := Safe.ext E71 hR.1 (Safe.new (Nat.le_of_eq g71.symm))
        have gb71 : n0 ≤ b71 := Nat.le_trans Zh (Nat.le_of_eq g71.symm)
        have hRs71 := CHr.ext E71 hR.1
        have hR := hR.trans hRs71
        have Zh := Nat.le_trans Zh E71.1
        have hk := Nat.le_trans hk E71.1
        have Gc : Fld Z h71 b71 "com/example/attestry/attestry/saml/Status" "code" "Ljava/lang/String;" .null := D71 (Or.inr (hw _ (List.mem_of_getElem? (i := 47) rfl))) (ty := (.object "java/lang/String")) (by decide)
        have Gs : Fld Z h71 b71 "com/example/attestry/attestry/saml/Status" "subcode" "Ljava/lang/String;" .null := D71 (Or.inr (hw _ (List.mem_of_getElem? (i := 49) rfl))) (ty := (.object "java/lang/String")) (by decide)
        have Gm : Fld Z h71 b71 "com/example/attestry/attestry/saml/Status" "message" "Ljava/lang/String;" .null := D71 (Or.inr (hw _ (List.mem_of_getElem? (i := 51) rfl))) (ty := (.object "java/lang/String")) (by decide)
        have c72 : Steps p.tables e below S0 (T71.setTop (mkF m 130 #[.val (.int i0), .val (.int i1), .val (.int i2), .val (.int i3), .val (.int f1), .val (.int f2), .val (.int f3), .val (.int f4), .val (.ref rc), .val .null, .val (.ref rm), .unset, .unset] [(.ref rm), .null, (.ref rc), (.ref b71), (.ref b71)])) := by
          refine c71.trans ?_
          show Steps p.tables e below (T71.setTop (mkF m 123 #[.val (.int i0), .val (.int i1), .val (.int i2), .val (.int i3), .val (.int f1), .val (.int f2), .val (.int f3), .val (.int f4), .val (.ref rc), .val .null, .val (.ref rm), .unset, .unset] [(.ref b71)])) _
          refine XS.dup X71.here hx rfl (hb hby at_123) rfl rfl ?_
          show Steps p.tables e below (T71.setTop (mkF m 124 #[.val (.int i0), .val (.int i1), .val (.int i2), .val (.int i3), .val (.int f1), .val (.int f2), .val (.int f3), .val (.int f4), .val (.ref rc), .val .null, .val (.ref rm), .unset, .unset] [(.ref b71), (.ref b71)])) _
          refine XS.aload X71.here hx rfl (hb hby at_124) rfl rfl ?_
          show Steps p.tables e below (T71.setTop (mkF m 126 #[.val (.int i0), .val (.int i1), .val (.int i2), .val (.int i3), .val (.int f1), .val (.int f2), .val (.int f3), .val (.int f4), .val (.ref rc), .val .null, .val (.ref rm), .unset, .unset] [(.ref rc), (.ref b71), (.ref b71)])) _
          refine XS.aload X71.here hx rfl (hb hby at_126) rfl rfl ?_
          show Steps p.tables e below (T71.setTop (mkF m 128 #[.val (.int i0), .val (.int i1), .val (.int i2), .val (.int i3), .val (.int f1), .val (.int f2), .val (.int f3), .val (.int f4), .val (.ref rc), .val .null, .val (.ref rm), .unset, .unset] [.null, (.ref rc), (.ref b71), (.ref b71)])) _
          refine XS.aload X71.here hx rfl (hb hby at_128) rfl rfl ?_
          exact Steps.refl _
        obtain ⟨_, _, ⟨T73, L73, k73, n73⟩, -, X73, ⟨Lc73, hQ73, l73, y73, z73⟩, st73⟩ := X71.specialBack hx (y := (⟨"com/example/attestry/attestry/saml/Status", "<init>", "(Ljava/lang/String;Ljava/lang/String;Ljava/lang/String;)V"⟩ : MethodName)) rfl hown (mvT hZ (hw _ (List.mem_of_getElem? (i := 37) rfl))) (mvT hZ (hw _ (List.mem_of_getElem? (i := 38) rfl))) (mvT hZ (hw _ (List.mem_of_getElem? (i := 39) rfl))) (by decide) (backOf (W := 1) (rm58 l Z a0 hw [] b71 (.ref rc) .null (.ref rm) h71 n0 Zh rfl rfl rfl A71 Gc Gs Gm gb71) hZ (hw _ (List.mem_of_getElem? (i := 39) rfl)) (hw _ (List.mem_of_getElem? (i := 36) rfl)) (by decide) (by decide)) (g := (mkF m 130 #[.val (.int i0), .val (.int i1), .val (.int i2), .val (.int i3), .val (.int f1), .val (.int f2), .val (.int f3), .val (.int f4), .val (.ref rc), .val .null, .val (.ref rm), .unset, .unset] [(.ref rm), .null, (.ref rc), (.ref b71), (.ref b71)])) rfl (by rw [hml]; rfl) (Steps.refl _) (a := b71) (argsL := [(.ref rc), .null, (.ref rm)]) (rest := [(.ref b71)]) (lenOf pd4 rfl) rfl (by show 2 * 0 + _ ≤ _; exact Nat.le_of_eq rfl) (hb hby at_130) (fun _ _ => ⟨rfl, e71, (by decide : 7 + 0 ≤ _), (by decide : 19 + 0 ≤ _)⟩)
        dsimp only [Pt.U, Pt.locs, Pt.cells, Pt.slots] at X73 l73 y73 z73 st73 hQ73
        subst l73 y73 z73
        obtain ⟨rfl, Nt, Kt, At, Tc, Ts⟩ := hQ73
        have c73 : Steps p.tables e below S0 (T73.setTop (mkF m 133 #[.val (.int i0), .val (.int i1), .val (.int i2), .val (.int i3), .val (.int f1), .val (.int f2), .val (.int f3), .val (.int f4), .val (.ref rc), .val .null, .val (.ref rm), .unset, .unset] [(.ref b71)])) := by
          refine c72.trans ?_
          show Steps p.tables e below (T71.setTop (mkF m 130 #[.val (.int i0), .val (.int i1), .val (.int i2), .val (.int i3), .val (.int f1), .val (.int f2), .val (.int f3), .val (.int f4), .val (.ref rc), .val .null, .val (.ref rm), .unset, .unset] [(.ref rm), .null, (.ref rc), (.ref b71), (.ref b71)])) _
          refine st73.trans ?_
          exact Steps.refl _
        have Nf := Fr.app Nf Nt
        have hRs73 := CHr.keep Kt (fun x hx => by cases List.mem_singleton.mp hx; exact Sf_b71) hR.1
        have hR := hR.trans hRs73
        have Zh := Nat.le_trans Zh Kt.1
        have hk := Nat.le_trans hk Kt.1
        have c74 : Steps p.tables e below S0 (T73.setTop (mkF m 137 #[.val (.int i0), .val (.int i1), .val (.int i2), .val (.int i3), .val (.int f1), .val (.int f2), .val (.int f3), .val (.int f4), .val (.ref rc), .val .null, .val (.ref rm), .val (.ref b71), .unset] [(.ref b71)])) := by
          refine c73.trans ?_
          show Steps p.tables e below (T73.setTop (mkF m 133 #[.val (.int i0), .val (.int i1), .val (.int i2), .val (.int i3), .val (.int f1), .val (.int f2), .val (.int f3), .val (.int f4), .val (.ref rc), .val .null, .val (.ref rm), .unset, .unset] [(.ref b71)])) _
          refine XS.astore X73.here hx rfl (hb hby at_133) rfl rfl (l' := #[.val (.int i0), .val (.int i1), .val (.int i2), .val (.int i3), .val (.int f1), .val (.int f2), .val (.int f3), .val (.int f4), .val (.ref rc), .val .null, .val (.ref rm), .val (.ref b71), .unset]) rfl ?_
          show Steps p.tables e below (T73.setTop (mkF m 135 #[.val (.int i0), .val (.int i1), .val (.int i2), .val (.int i3), .val (.int f1), .val (.int f2), .val (.int f3), .val (.int f4), .val (.ref rc), .val .null, .val (.ref rm), .val (.ref b71), .unset] [])) _
          refine XS.aload X73.here hx rfl (hb hby at_135) rfl rfl ?_
          exact Steps.refl _
        obtain ⟨cq75, kq75, q75a, q75b, q75c⟩ := isOf hZ rfl At
        obtain ⟨_, _, ⟨T75, L75, k75, n75⟩, -, X75, ⟨Lc75, hQ75, l75, y75, z75⟩, st75⟩ := X73.virtualBack hx (y := (⟨"com/example/attestry/attestry/saml/Status", "innermostCode", "()Ljava/lang/String;"⟩ : MethodName)) (z := (⟨"com/example/attestry/attestry/saml/Status", "innermostCode", "()Ljava/lang/String;"⟩ : MethodName)) hown (mvT hZ (hw _ (List.mem_of_getElem? (i := 52) rfl))) (mvT hZ (hw _ (List.mem_of_getElem? (i := 53) rfl))) (notFace_of_selects (args := #[]) (mvT hZ (hw _ (List.mem_of_getElem? (i := 55) rfl)))) (mvT hZ (hw _ (List.mem_of_getElem? (i := 55) rfl))) (mvT hZ (hw _ (List.mem_of_getElem? (i := 54) rfl))) (by decide) (backOf (W := 0) (rm585 l Z a0 hw [] b71 (.ref rc) .null T73.heap n0 Zh rfl rfl Tc Ts) hZ (hw _ (List.mem_of_getElem? (i := 56) rfl)) (hw _ (List.mem_of_getElem? (i := 36) rfl)) (by decide) (by decide)) q75a q75c (g := (mkF m 137 #[.val (.int i0), .val (.int i1), .val (.int i2), .val (.int i3), .val (.int f1), .val (.int f2), .val (.int f3), .val (.int f4), .val (.ref rc), .val .null, .val (.ref rm), .val (.ref b71), .unset] [(.ref b71)])) rfl (by rw [hml]; rfl) (Steps.refl _) (argsL := []) (rest := []) (lenOf pd5 rfl) rfl (by show 2 * 0 + _ ≤ _; exact Nat.le_of_eq rfl) (hb hby at_137) (fun _ _ => ⟨rfl, rfl, (by decide : 7 + 0 ≤ _), (by decide : 19 + 0 ≤ _)⟩)
        dsimp only [Pt.U, Pt.locs, Pt.cells, Pt.slots] at X75 l75 y75 z75 st75 hQ75
        subst l75 y75 z75
        obtain ⟨rfl, Nu, eu⟩ := hQ75
        have c75 : Steps p.tables e below S0 (T75.setTop (mkF m 140 #[.val (.int i0), .val (.int i1), .val (.int i2), .val (.int i3), .val (.int f1), .val (.int f2), .val (.int f3), .val (.int f4), .val (.ref rc), .val .null, .val (.ref rm), .val (.ref b71), .unset] [(.ref rc)])) := by
          refine c74.trans ?_
          show Steps p.tables e below (T73.setTop (mkF m 137 #[.val (.int i0), .val (.int i1), .val (.int i2), .val (.int i3), .val (.int f1), .val (.int f2), .val (.int f3), .val (.int f4), .val (.ref rc), .val .null, .val (.ref rm), .val (.ref b71), .unset] [(.ref b71)])) _
          refine st75.trans ?_
          exact Steps.refl _
        have c76 : Steps p.tables e below S0 (T75.setTop (mkF m 142 #[.val (.int i0), .val (.int i1), .val (.int i2), .val (.int i3), .val (.int f1), .val (.int f2), .val (.int f3), .val (.int f4), .val (.ref rc), .val .null, .val (.ref rm), .val (.ref b71), .val (.ref rc)] [])) := by
          refine c75.trans ?_
          show Steps p.tables e below (T75.setTop (mkF m 140 #[.val (.int i0), .val (.int i1), .val (.int i2), .val (.int i3), .val (.int f1), .val (.int f2), .val (.int f3), .val (.int f4), .val (.ref rc), .val .null, .val (.ref rm), .val (.ref b71), .unset] [(.ref rc)])) _
          refine XS.astore X75.here hx rfl (hb hby at_140) rfl rfl (l' := #[.val (.int i0), .val (.int i1), .val (.int i2), .val (.int i3), .val (.int f1), .val (.int f2), .val (.int f3), .val (.int f4), .val (.ref rc), .val .null, .val (.ref rm), .val (.ref b71), .val (.ref rc)]) rfl ?_
          exact Steps.refl _
        have c77 : Steps p.tables e below S0 (T75.setTop (mkF m 172 #[.val (.int i0), .val (.int i1), .val (.int i2), .val (.int i3), .val (.int f1), .val (.int f2), .val (.int f3), .val (.int f4), .val (.ref rc), .val .null, .val (.ref rm), .val (.ref b71), .val (.ref rc)] [(.int (1 : Int32))])) := by
          refine c76.trans ?_
          show Steps p.tables e below (T75.setTop (mkF m 142 #[.val (.int i0), .val (.int i1), .val (.int i2), .val (.int i3), .val (.int f1), .val (.int f2), .val (.int f3), .val (.int f4), .val (.ref rc), .val .null, .val (.ref rm), .val (.ref b71), .val (.ref rc)] [])) _
          refine XS.aload X75.here hx rfl (hb hby at_142) rfl rfl ?_
          show Steps p.tables e below (T75.setTop (mkF m 144 #[.val (.int i0), .val (.int i1), .val (.int i2), .val (.int i3), .val (.int f1), .val (.int f2), .val (.int f3), .val (.int f4), .val (.ref rc), .val .null, .val (.ref rm), .val (.ref b71), .val (.ref rc)] [.null])) _
          refine XS.ifnullYes X75.here hx rfl (pc0 := 144) (pc' := 160) rfl (hb hby at_144) rfl (by decide) (by decide) ?_
          show Steps p.tables e below (T75.setTop (mkF m 160 #[.val (.int i0), .val (.int i1), .val (.int i2), .val (.int i3), .val (.int f1), .val (.int f2), .val (.int f3), .val (.int f4), .val (.ref rc), .val .null, .val (.ref rm), .val (.ref b71), .val (.ref rc)] [])) _
          refine XS.aload X75.here hx rfl (hb hby at_160) rfl rfl ?_
          show Steps p.tables e below (T75.setTop (mkF m 162 #[.val (.int i0), .val (.int i1), .val (.int i2), .val (.int i3), .val (.int f1), .val (.int f2), .val (.int f3), .val (.int f4), .val (.ref rc), .val .null, .val (.ref rm), .val (.ref b71), .val (.ref rc)] [(.ref rc)])) _
          refine XS.aload X75.here hx rfl (hb hby at_162) rfl rfl ?_
          show Steps p.tables e below (T75.setTop (mkF m 164 #[.val (.int i0), .val (.int i1), .val (.int i2), .val (.int i3), .val (.int f1), .val (.int f2), .val (.int f3), .val (.int f4), .val (.ref rc), .val .null, .val (.ref rm), .val (.ref b71), .val (.ref rc)] [(.ref rc), (.ref rc)])) _
          refine Jvm.RoadKit.acmp (g := (mkF m 164 #[.val (.int i0), .val (.int i1), .val (.int i2), .val (.int i3), .val (.int f1), .val (.int f2), .val (.int f3), .val (.int f4), .val (.ref rc), .val .null, .val (.ref rm), .val (.ref b71), .val (.ref rc)] [(.ref rc), (.ref rc)])) X75 hx rfl rfl rfl (pc0 := 164) (pc' := 167) (same := true) rfl (hb hby at_164) rfl (decide_eq_true rfl) (by decide) (by decide) ?_
          show Steps p.tables e below (T75.setTop (mkF m 167 #[.val (.int i0), .val (.int i1), .val (.int i2), .val (.int i3), .val (.int f1), .val (.int f2), .val (.int f3), .val (.int f4), .val (.ref rc), .val .null, .val (.ref rm), .val (.ref b71), .val (.ref rc)] [])) _
          refine XS.iconst X75.here hx rfl (hb hby at_167) ?_
          show Steps p.tables e below (T75.setTop (mkF m 168 #[.val (.int i0), .val (.int i1), .val (.int i2), .val (.int i3), .val (.int f1), .val (.int f2), .val (.int f3), .val (.int f4), .val (.ref rc), .val .null, .val (.ref rm), .val (.ref b71), .val (.ref rc)] [(.int (1 : Int32))])) _
          refine XS.goto X75.here hx rfl (pc0 := 168) (pc' := 172) rfl (hb hby at_168) (by decide) (by decide) ?_
          exact Steps.refl _
        obtain ⟨fs, hr, hrun, hended, hW⟩ := X75.leaveW hS (by rw [eu]; exact hk) (v := some (.int 1)) (fun h => by rw [Bd.returns] at h; cases h)
        refine ⟨_, _, c77.trans ?_, hrun, hended, _, _, rfl, ?_, ?_, hW.1, hW.2.1, hW.2.2.1, hW.2.2.2.mono (by decide) (by decide)⟩
        · show Steps p.tables e below (T75.setTop (mkF m 172 #[.val (.int i0), .val (.int i1), .val (.int i2), .val (.int i3), .val (.int f1), .val (.int f2), .val (.int f3), .val (.int f4), .val (.ref rc), .val .null, .val (.ref rm), .val (.ref b71), .val (.ref rc)] [(.int (1 : Int32))])) _
          exact retN X75 hx (t := .boolean) Bd.returns (by simp) (hb hby at_172) hr
        · show Q0 Z i0 i1 i2 i3 G1 h0 n0 _ T75.heap _
          rw [eu]
          exact ⟨rfl, Fr.app Nf Nu⟩
        · show CHr Z consts_1 s.vm s.heap T75.vm T75.heap
          rw [hh, eu, ← hV0]
          exact hR.trans (CHv.at X75 hZ hEL hR.1)
      · have c78 : Steps p.tables e below S0 (T12.setTop (mkF m 120 #[.val (.int i0), .val (.int i1), .val (.int i2), .val (.int i3), .val (.int f1), .val (.int f2), .val (.int f3), .val (.int f4), .val (.ref rc), .val .null, .val .null, .unset, .unset] [])) := by
          refine c66.trans ?_
          show Steps p.tables e below (T12.setTop (mkF m 107 #[.val (.int i0), .val (.int i1), .val (.int i2), .val (.int i3), .val (.int f1), .val (.int f2), .val (.int f3), .val (.int f4), .val (.ref rc), .val .null, .unset, .unset, .unset] [(.int f4)])) _
          refine XS.ifNo X12.here hx rfl (hb hby at_107) rfl ((if0 _ _).trans (feq hm).1) ?_
          show Steps p.tables e below (T12.setTop (mkF m 110 #[.val (.int i0), .val (.int i1), .val (.int i2), .val (.int i3), .val (.int f1), .val (.int f2), .val (.int f3), .val (.int f4), .val (.ref rc), .val .null, .unset, .unset, .unset] [])) _
          refine XS.aconstNull X12.here hx rfl (hb hby at_110) ?_
          show Steps p.tables e below (T12.setTop (mkF m 111 #[.val (.int i0), .val (.int i1), .val (.int i2), .val (.int i3), .val (.int f1), .val (.int f2), .val (.int f3), .val (.int f4), .val (.ref rc), .val .null, .unset, .unset, .unset] [.null])) _
          refine XS.goto X12.here hx rfl (pc0 := 111) (pc' := 118) rfl (hb hby at_111) (by decide) (by decide) ?_
          show Steps p.tables e below (T12.setTop (mkF m 118 #[.val (.int i0), .val (.int i1), .val (.int i2), .val (.int i3), .val (.int f1), .val (.int f2), .val (.int f3), .val (.int f4), .val (.ref rc), .val .null, .unset, .unset, .unset] [.null])) _
          refine XS.astore X12.here hx rfl (hb hby at_118) rfl rfl (l' := #[.val (.int i0), .val (.int i1), .val (.int i2), .val (.int i3), .val (.int f1), .val (.int f2), .val (.int f3), .val (.int f4), .val (.ref rc), .val .null, .val .null, .unset, .unset]) rfl ?_
          exact Steps.refl _
        obtain ⟨T79, h79, X79, e79, E79, A79, D79, -, st79⟩ := newO X12 hx hZ hown (hw _ (List.mem_of_getElem? (i := 34) rfl)) (hw _ (List.mem_of_getElem? (i := 35) rfl)) (hw _ (List.mem_of_getElem? (i := 36) rfl)) rfl (g := (mkF m 120 #[.val (.int i0), .val (.int i1), .val (.int i2), .val (.int i3), .val (.int f1), .val (.int f2), .val (.int f3), .val (.int f4), .val (.ref rc), .val .null, .val .null, .unset, .unset] [])) rfl (hb hby at_120) (by decide) (by decide)
        obtain ⟨b79, g79⟩ : ∃ z, z = T12.heap.size := ⟨_, rfl⟩
        rw [← g79] at A79 D79 st79
        have c79 : Steps p.tables e below S0 (T79.setTop (mkF m 123 #[.val (.int i0), .val (.int i1), .val (.int i2), .val (.int i3), .val (.int f1), .val (.int f2), .val (.int f3), .val (.int f4), .val (.ref rc), .val .null, .val .null, .unset, .unset] [(.ref b79)])) := by
          refine c78.trans ?_
          show Steps p.tables e below (T12.setTop (mkF m 120 #[.val (.int i0), .val (.int i1), .val (.int i2), .val (.int i3), .val (.int f1), .val (.int f2), .val (.int f3), .val (.int f4), .val (.ref rc), .val .null, .val .null, .unset, .unset] [])) _
          refine st79 _ ?_
          exact Steps.refl _
        have Sf_b79 := Safe.ext E79 hR.1 (Safe.new (Nat.le_of_eq g79.symm))
        have gb79 : n0 ≤ b79 := Nat.le_trans Zh (Nat.le_of_eq g79.symm)
        have hRs79 := CHr.ext E79 hR.1
        have hR := hR.trans hRs79
        have Zh := Nat.le_trans Zh E79.1
        have hk := Nat.le_trans hk E79.1
        have Gc : Fld Z h79 b79 "com/example/attestry/attestry/saml/Status" "code" "Ljava/lang/String;" .null := D79 (Or.inr (hw _ (List.mem_of_getElem? (i := 47) rfl))) (ty := (.object "java/lang/String")) (by decide)
        have Gs : Fld Z h79 b79 "com/example/attestry/attestry/saml/Status" "subcode" "Ljava/lang/String;" .null := D79 (Or.inr (hw _ (List.mem_of_getElem? (i := 49) rfl))) (ty := (.object "java/lang/String")) (by decide)
        have Gm : Fld Z h79 b79 "com/example/attestry/attestry/saml/Status" "message" "Ljava/lang/String;" .null := D79 (Or.inr (hw _ (List.mem_of_getElem? (i := 51) rfl))) (ty := (.object "java/lang/String")) (by decide)
        have c80 : Steps p.tables e below S0 (T79.setTop (mkF m 130 #[.val (.int i0), .val (.int i1), .val (.int i2), .val (.int i3), .val (.int f1), .val (.int f2), .val (.int f3), .val (.int f4), .val (.ref rc), .val .null, .val .null, .unset, .unset] [.null, .null, (.ref rc), (.ref b79), (.ref b79)])) := by
          refine c79.trans ?_
          show Steps p.tables e below (T79.setTop (mkF m 123 #[.val (.int i0), .val (.int i1), .val (.int i2), .val (.int i3), .val (.int f1), .val (.int f2), .val (.int f3), .val (.int f4), .val (.ref rc), .val .null, .val .null, .unset, .unset] [(.ref b79)])) _
          refine XS.dup X79.here hx rfl (hb hby at_123) rfl rfl ?_
          show Steps p.tables e below (T79.setTop (mkF m 124 #[.val (.int i0), .val (.int i1), .val (.int i2), .val (.int i3), .val (.int f1), .val (.int f2), .val (.int f3), .val (.int f4), .val (.ref rc), .val .null, .val .null, .unset, .unset] [(.ref b79), (.ref b79)])) _
          refine XS.aload X79.here hx rfl (hb hby at_124) rfl rfl ?_
          show Steps p.tables e below (T79.setTop (mkF m 126 #[.val (.int i0), .val (.int i1), .val (.int i2), .val (.int i3), .val (.int f1), .val (.int f2), .val (.int f3), .val (.int f4), .val (.ref rc), .val .null, .val .null, .unset, .unset] [(.ref rc), (.ref b79), (.ref b79)])) _
          refine XS.aload X79.here hx rfl (hb hby at_126) rfl rfl ?_
          show Steps p.tables e below (T79.setTop (mkF m 128 #[.val (.int i0), .val (.int i1), .val (.int i2), .val (.int i3), .val (.int f1), .val (.int f2), .val (.int f3), .val (.int f4), .val (.ref rc), .val .null, .val .null, .unset, .unset] [.null, (.ref rc), (.ref b79), (.ref b79)])) _
          refine XS.aload X79.here hx rfl (hb hby at_128) rfl rfl ?_
          exact Steps.refl _
        obtain ⟨_, _, ⟨T81, L81, k81, n81⟩, -, X81, ⟨Lc81, hQ81, l81, y81, z81⟩, st81⟩ := X79.specialBack hx (y := (⟨"com/example/attestry/attestry/saml/Status", "<init>", "(Ljava/lang/String;Ljava/lang/String;Ljava/lang/String;)V"⟩ : MethodName)) rfl hown (mvT hZ (hw _ (List.mem_of_getElem? (i := 37) rfl))) (mvT hZ (hw _ (List.mem_of_getElem? (i := 38) rfl))) (mvT hZ (hw _ (List.mem_of_getElem? (i := 39) rfl))) (by decide) (backOf (W := 1) (rm58 l Z a0 hw [] b79 (.ref rc) .null .null h79 n0 Zh rfl rfl rfl A79 Gc Gs Gm gb79) hZ (hw _ (List.mem_of_getElem? (i := 39) rfl)) (hw _ (List.mem_of_getElem? (i := 36) rfl)) (by decide) (by decide)) (g := (mkF m 130 #[.val (.int i0), .val (.int i1), .val (.int i2), .val (.int i3), .val (.int f1), .val (.int f2), .val (.int f3), .val (.int f4), .val (.ref rc), .val .null, .val .null, .unset, .unset] [.null, .null, (.ref rc), (.ref b79), (.ref b79)])) rfl (by rw [hml]; rfl) (Steps.refl _) (a := b79) (argsL := [(.ref rc), .null, .null]) (rest := [(.ref b79)]) (lenOf pd4 rfl) rfl (by show 2 * 0 + _ ≤ _; exact Nat.le_of_eq rfl) (hb hby at_130) (fun _ _ => ⟨rfl, e79, (by decide : 4 + 0 ≤ _), (by decide : 11 + 0 ≤ _)⟩)
        dsimp only [Pt.U, Pt.locs, Pt.cells, Pt.slots] at X81 l81 y81 z81 st81 hQ81
        subst l81 y81 z81
        obtain ⟨rfl, Nt, Kt, At, Tc, Ts⟩ := hQ81
        have c81 : Steps p.tables e below S0 (T81.setTop (mkF m 133 #[.val (.int i0), .val (.int i1), .val (.int i2), .val (.int i3), .val (.int f1), .val (.int f2), .val (.int f3), .val (.int f4), .val (.ref rc), .val .null, .val .null, .unset, .unset] [(.ref b79)])) := by
          refine c80.trans ?_
          show Steps p.tables e below (T79.setTop (mkF m 130 #[.val (.int i0), .val (.int i1), .val (.int i2), .val (.int i3), .val (.int f1), .val (.int f2), .val (.int f3), .val (.int f4), .val (.ref rc), .val .null, .val .null, .unset, .unset] [.null, .null, (.ref rc), (.ref b79), (.ref b79)])) _
          refine st81.trans ?_
          exact Steps.refl _
        have Nf := Fr.app Nf Nt
        have hRs81 := CHr.keep Kt (fun x hx => by cases List.mem_singleton.mp hx; exact Sf_b79) hR.1
        have hR := hR.trans hRs81
        have Zh := Nat.le_trans Zh Kt.1
        have hk := Nat.le_trans hk Kt.1
        have c82 : Steps p.tables e below S0 (T81.setTop (mkF m 137 #[.val (.int i0), .val (.int i1), .val (.int i2), .val (.int i3), .val (.int f1), .val (.int f2), .val (.int f3), .val (.int f4), .val (.ref rc), .val .null, .val .null, .val (.ref b79), .unset] [(.ref b79)])) := by
          refine c81.trans ?_
          show Steps p.tables e below (T81.setTop (mkF m 133 #[.val (.int i0), .val (.int i1), .val (.int i2), .val (.int i3), .val (.int f1), .val (.int f2), .val (.int f3), .val (.int f4), .val (.ref rc), .val .null, .val .null, .unset, .unset] [(.ref b79)])) _
          refine XS.astore X81.here hx rfl (hb hby at_133) rfl rfl (l' := #[.val (.int i0), .val (.int i1), .val (.int i2), .val (.int i3), .val (.int f1), .val (.int f2), .val (.int f3), .val (.int f4), .val (.ref rc), .val .null, .val .null, .val (.ref b79), .unset]) rfl ?_
          show Steps p.tables e below (T81.setTop (mkF m 135 #[.val (.int i0), .val (.int i1), .val (.int i2), .val (.int i3), .val (.int f1), .val (.int f2), .val (.int f3), .val (.int f4), .val (.ref rc), .val .null, .val .null, .val (.ref b79), .unset] [])) _
          refine XS.aload X81.here hx rfl (hb hby at_135) rfl rfl ?_
          exact Steps.refl _
        obtain ⟨cq83, kq83, q83a, q83b, q83c⟩ := isOf hZ rfl At
        obtain ⟨_, _, ⟨T83, L83, k83, n83⟩, -, X83, ⟨Lc83, hQ83, l83, y83, z83⟩, st83⟩ := X81.virtualBack hx (y := (⟨"com/example/attestry/attestry/saml/Status", "innermostCode", "()Ljava/lang/String;"⟩ : MethodName)) (z := (⟨"com/example/attestry/attestry/saml/Status", "innermostCode", "()Ljava/lang/String;"⟩ : MethodName)) hown (mvT hZ (hw _ (List.mem_of_getElem? (i := 52) rfl))) (mvT hZ (hw _ (List.mem_of_getElem? (i := 53) rfl))) (notFace_of_selects (args := #[]) (mvT hZ (hw _ (List.mem_of_getElem? (i := 55) rfl)))) (mvT hZ (hw _ (List.mem_of_getElem? (i := 55) rfl))) (mvT hZ (hw _ (List.mem_of_getElem? (i := 54) rfl))) (by decide) (backOf (W := 0) (rm585 l Z a0 hw [] b79 (.ref rc) .null T81.heap n0 Zh rfl rfl Tc Ts) hZ (hw _ (List.mem_of_getElem? (i := 56) rfl)) (hw _ (List.mem_of_getElem? (i := 36) rfl)) (by decide) (by decide)) q83a q83c (g := (mkF m 137 #[.val (.int i0), .val (.int i1), .val (.int i2), .val (.int i3), .val (.int f1), .val (.int f2), .val (.int f3), .val (.int f4), .val (.ref rc), .val .null, .val .null, .val (.ref b79), .unset] [(.ref b79)])) rfl (by rw [hml]; rfl) (Steps.refl _) (argsL := []) (rest := []) (lenOf pd5 rfl) rfl (by show 2 * 0 + _ ≤ _; exact Nat.le_of_eq rfl) (hb hby at_137) (fun _ _ => ⟨rfl, rfl, (by decide : 4 + 0 ≤ _), (by decide : 11 + 0 ≤ _)⟩)
        dsimp only [Pt.U, Pt.locs, Pt.cells, Pt.slots] at X83 l83 y83 z83 st83 hQ83
        subst l83 y83 z83
        obtain ⟨rfl, Nu, eu⟩ := hQ83
        have c83 : Steps p.tables e below S0 (T83.setTop (mkF m 140 #[.val (.int i0), .val (.int i1), .val (.int i2), .val (.int i3), .val (.int f1), .val (.int f2), .val (.int f3), .val (.int f4), .val (.ref rc), .val .null, .val .null, .val (.ref b79), .unset] [(.ref rc)])) := by
          refine c82.trans ?_
          show Steps p.tables e below (T81.setTop (mkF m 137 #[.val (.int i0), .val (.int i1), .val (.int i2), .val (.int i3), .val (.int f1), .val (.int f2), .val (.int f3), .val (.int f4), .val (.ref rc), .val .null, .val .null, .val (.ref b79), .unset] [(.ref b79)])) _
          refine st83.trans ?_
          exact Steps.refl _
        have c84 : Steps p.tables e below S0 (T83.setTop (mkF m 142 #[.val (.int i0), .val (.int i1), .val (.int i2), .val (.int i3), .val (.int f1), .val (.int f2), .val (.int f3), .val (.int f4), .val (.ref rc), .val .null, .val .null, .val (.ref b79), .val (.ref rc)] [])) := by
          refine c83.trans ?_
          show Steps p.tables e below (T83.setTop (mkF m 140 #[.val (.int i0), .val (.int i1), .val (.int i2), .val (.int i3), .val (.int f1), .val (.int f2), .val (.int f3), .val (.int f4), .val (.ref rc), .val .null, .val .null, .val (.ref b79), .unset] [(.ref rc)])) _
          refine XS.astore X83.here hx rfl (hb hby at_140) rfl rfl (l' := #[.val (.int i0), .val (.int i1), .val (.int i2), .val (.int i3), .val (.int f1), .val (.int f2), .val (.int f3), .val (.int f4), .val (.ref rc), .val .null, .val .null, .val (.ref b79), .val (.ref rc)]) rfl ?_
          exact Steps.refl _
        have c85 : Steps p.tables e below S0 (T83.setTop (mkF m 172 #[.val (.int i0), .val (.int i1), .val (.int i2), .val (.int i3), .val (.int f1), .val (.int f2), .val (.int f3), .val (.int f4), .val (.ref rc), .val .null, .val .null, .val (.ref b79), .val (.ref rc)] [(.int (1 : Int32))])) := by
          refine c84.trans ?_
          show Steps p.tables e below (T83.setTop (mkF m 142 #[.val (.int i0), .val (.int i1), .val (.int i2), .val (.int i3), .val (.int f1), .val (.int f2), .val (.int f3), .val (.int f4), .val (.ref rc), .val .null, .val .null, .val (.ref b79), .val (.ref rc)] [])) _
          refine XS.aload X83.here hx rfl (hb hby at_142) rfl rfl ?_
          show Steps p.tables e below (T83.setTop (mkF m 144 #[.val (.int i0), .val (.int i1), .val (.int i2), .val (.int i3), .val (.int f1), .val (.int f2), .val (.int f3), .val (.int f4), .val (.ref rc), .val .null, .val .null, .val (.ref b79), .val (.ref rc)] [.null])) _
          refine XS.ifnullYes X83.here hx rfl (pc0 := 144) (pc' := 160) rfl (hb hby at_144) rfl (by decide) (by decide) ?_
          show Steps p.tables e below (T83.setTop (mkF m 160 #[.val (.int i0), .val (.int i1), .val (.int i2), .val (.int i3), .val (.int f1), .val (.int f2), .val (.int f3), .val (.int f4), .val (.ref rc), .val .null, .val .null, .val (.ref b79), .val (.ref rc)] [])) _
          refine XS.aload X83.here hx rfl (hb hby at_160) rfl rfl ?_
          show Steps p.tables e below (T83.setTop (mkF m 162 #[.val (.int i0), .val (.int i1), .val (.int i2), .val (.int i3), .val (.int f1), .val (.int f2), .val (.int f3), .val (.int f4), .val (.ref rc), .val .null, .val .null, .val (.ref b79), .val (.ref rc)] [(.ref rc)])) _
          refine XS.aload X83.here hx rfl (hb hby at_162) rfl rfl ?_
          show Steps p.tables e below (T83.setTop (mkF m 164 #[.val (.int i0), .val (.int i1), .val (.int i2), .val (.int i3), .val (.int f1), .val (.int f2), .val (.int f3), .val (.int f4), .val (.ref rc), .val .null, .val .null, .val (.ref b79), .val (.ref rc)] [(.ref rc), (.ref rc)])) _
          refine Jvm.RoadKit.acmp (g := (mkF m 164 #[.val (.int i0), .val (.int i1), .val (.int i2), .val (.int i3), .val (.int f1), .val (.int f2), .val (.int f3), .val (.int f4), .val (.ref rc), .val .null, .val .null, .val (.ref b79), .val (.ref rc)] [(.ref rc), (.ref rc)])) X83 hx rfl rfl rfl (pc0 := 164) (pc' := 167) (same := true) rfl (hb hby at_164) rfl (decide_eq_true rfl) (by decide) (by decide) ?_
          show Steps p.tables e below (T83.setTop (mkF m 167 #[.val (.int i0), .val (.int i1), .val (.int i2), .val (.int i3), .val (.int f1), .val (.int f2), .val (.int f3), .val (.int f4), .val (.ref rc), .val .null, .val .null, .val (.ref b79), .val (.ref rc)] [])) _
          refine XS.iconst X83.here hx rfl (hb hby at_167) ?_
          show Steps p.tables e below (T83.setTop (mkF m 168 #[.val (.int i0), .val (.int i1), .val (.int i2), .val (.int i3), .val (.int f1), .val (.int f2), .val (.int f3), .val (.int f4), .val (.ref rc), .val .null, .val .null, .val (.ref b79), .val (.ref rc)] [(.int (1 : Int32))])) _
          refine XS.goto X83.here hx rfl (pc0 := 168) (pc' := 172) rfl (hb hby at_168) (by decide) (by decide) ?_
          exact Steps.refl _
        obtain ⟨fs, hr, hrun, hended, hW⟩ := X83.leaveW hS (by rw [eu]; exact hk) (v := some (.int 1)) (fun h => by rw [Bd.returns] at h; cases h)
        refine ⟨_, _, c85.trans ?_, hrun, hended, _, _, rfl, ?_, ?_, hW.1, hW.2.1, hW.2.2.1, hW.2.2.2.mono (by decide) (by decide)⟩
        · show Steps p.tables e below (T83.setTop (mkF m 172 #[.val (.int i0), .val (.int i1), .val (.int i2), .val (.int i3), .val (.int f1), .val (.int f2), .val (.int f3), .val (.int f4), .val (.ref rc), .val .null, .val .null, .val (.ref b79), .val (.ref rc)] [(.int (1 : Int32))])) _
          exact retN X83 hx (t := .boolean) Bd.returns (by simp) (hb hby at_172) hr
        · show Q0 Z i0 i1 i2 i3 G1 h0 n0 _ T83.heap _
          rw [eu]
          exact ⟨rfl, Fr.app Nf Nu⟩
        · show CHr Z consts_1 s.vm s.heap T83.vm T83.heap
          rw [hh, eu, ← hV0]
          exact hR.trans (CHv.at X83 hZ hEL hR.1)
  · have c86 : Steps p.tables e below S0 (s₁.setTop (mkF m 66 #[.val (.int i0), .val (.int i1), .val (.int i2), .val (.int i3), .val (.int f1), .val (.int f2), .val (.int f3), .val (.int f4), .unset, .unset, .unset, .unset, .unset] [.null])) := by
      refine c9.trans ?_
      show Steps p.tables e below (s₁.setTop (mkF m 55 #[.val (.int i0), .val (.int i1), .val (.int i2), .val (.int i3), .val (.int f1), .val (.int f2), .val (.int f3), .val (.int f4), .unset, .unset, .unset, .unset, .unset] [(.int f1)])) _
      refine XS.ifNo Xs.here hx rfl (hb hby at_55) rfl ((if0 _ _).trans (feq hc1).1) ?_
      show Steps p.tables e below (s₁.setTop (mkF m 58 #[.val (.int i0), .val (.int i1), .val (.int i2), .val (.int i3), .val (.int f1), .val (.int f2), .val (.int f3), .val (.int f4), .unset, .unset, .unset, .unset, .unset] [])) _
      refine XS.aconstNull Xs.here hx rfl (hb hby at_58) ?_
      show Steps p.tables e below (s₁.setTop (mkF m 59 #[.val (.int i0), .val (.int i1), .val (.int i2), .val (.int i3), .val (.int f1), .val (.int f2), .val (.int f3), .val (.int f4), .unset, .unset, .unset, .unset, .unset] [.null])) _
      refine XS.goto Xs.here hx rfl (pc0 := 59) (pc' := 66) rfl (hb hby at_59) (by decide) (by decide) ?_
      exact Steps.refl _
    have c87 : Steps p.tables e below S0 (s₁.setTop (mkF m 70 #[.val (.int i0), .val (.int i1), .val (.int i2), .val (.int i3), .val (.int f1), .val (.int f2), .val (.int f3), .val (.int f4), .val .null, .unset, .unset, .unset, .unset] [(.int f2)])) := by
      refine c86.trans ?_
      show Steps p.tables e below (s₁.setTop (mkF m 66 #[.val (.int i0), .val (.int i1), .val (.int i2), .val (.int i3), .val (.int f1), .val (.int f2), .val (.int f3), .val (.int f4), .unset, .unset, .unset, .unset, .unset] [.null])) _
      refine XS.astore Xs.here hx rfl (hb hby at_66) rfl rfl (l' := #[.val (.int i0), .val (.int i1), .val (.int i2), .val (.int i3), .val (.int f1), .val (.int f2), .val (.int f3), .val (.int f4), .val .null, .unset, .unset, .unset, .unset]) rfl ?_
      show Steps p.tables e below (s₁.setTop (mkF m 68 #[.val (.int i0), .val (.int i1), .val (.int i2), .val (.int i3), .val (.int f1), .val (.int f2), .val (.int f3), .val (.int f4), .val .null, .unset, .unset, .unset, .unset] [])) _
      refine XS.iload Xs.here hx rfl (hb hby at_68) rfl ?_
      exact Steps.refl _
    by_cases hs2 : f2 = 0
    · have c88 : Steps p.tables e below S0 (s₁.setTop (mkF m 81 #[.val (.int i0), .val (.int i1), .val (.int i2), .val (.int i3), .val (.int f1), .val (.int f2), .val (.int f3), .val (.int f4), .val .null, .unset, .unset, .unset, .unset] [(.int f3)])) := by
        refine c87.trans ?_
        show Steps p.tables e below (s₁.setTop (mkF m 70 #[.val (.int i0), .val (.int i1), .val (.int i2), .val (.int i3), .val (.int f1), .val (.int f2), .val (.int f3), .val (.int f4), .val .null, .unset, .unset, .unset, .unset] [(.int f2)])) _
        refine XS.ifYes Xs.here hx rfl (pc0 := 70) (pc' := 79) rfl (hb hby at_70) rfl ((if0 _ _).trans (teq hs2).1) (by decide) (by decide) ?_
        show Steps p.tables e below (s₁.setTop (mkF m 79 #[.val (.int i0), .val (.int i1), .val (.int i2), .val (.int i3), .val (.int f1), .val (.int f2), .val (.int f3), .val (.int f4), .val .null, .unset, .unset, .unset, .unset] [])) _
        refine XS.iload Xs.here hx rfl (hb hby at_79) rfl ?_
        exact Steps.refl _
      by_cases hs3 : f3 = 0
      · have c89 : Steps p.tables e below S0 (s₁.setTop (mkF m 99 #[.val (.int i0), .val (.int i1), .val (.int i2), .val (.int i3), .val (.int f1), .val (.int f2), .val (.int f3), .val (.int f4), .val .null, .unset, .unset, .unset, .unset] [])) := by
          refine c88.trans ?_
          show Steps p.tables e below (s₁.setTop (mkF m 81 #[.val (.int i0), .val (.int i1), .val (.int i2), .val (.int i3), .val (.int f1), .val (.int f2), .val (.int f3), .val (.int f4), .val .null, .unset, .unset, .unset, .unset] [(.int f3)])) _
          refine XS.ifYes Xs.here hx rfl (pc0 := 81) (pc' := 99) rfl (hb hby at_81) rfl ((if0 _ _).trans (teq hs3).1) (by decide) (by decide) ?_
          exact Steps.refl _
        have c90 : Steps p.tables e below S0 (s₁.setTop (mkF m 100 #[.val (.int i0), .val (.int i1), .val (.int i2), .val (.int i3), .val (.int f1), .val (.int f2), .val (.int f3), .val (.int f4), .val .null, .unset, .unset, .unset, .unset] [(.int i1)])) := by
          refine c89.trans ?_
          show Steps p.tables e below (s₁.setTop (mkF m 99 #[.val (.int i0), .val (.int i1), .val (.int i2), .val (.int i3), .val (.int f1), .val (.int f2), .val (.int f3), .val (.int f4), .val .null, .unset, .unset, .unset, .unset] [])) _
          refine XS.iloadN Xs.here hx rfl (hb hby at_99) rfl ?_
          exact Steps.refl _
        obtain ⟨_, _, ⟨T91, L91, k91, n91⟩, -, X91, ⟨Lc91, hQ91, l91, y91, z91⟩, st91⟩ := Jvm.LawKit.callS Xs hx (y := (⟨"com/example/attestry/attestry/saml/StatusInnermostCodePinLaw", "drawn", "(I)Ljava/lang/String;"⟩ : MethodName)) hown (mvT hZ (hw _ (List.mem_of_getElem? (i := 0) rfl))) (mvT hZ (hw _ (List.mem_of_getElem? (i := 1) rfl))) (mvT hZ (hw _ (List.mem_of_getElem? (i := 2) rfl))) (mvT hZ (hw _ (List.mem_of_getElem? (i := 3) rfl))) (by decide) (backOf (W := 0) (rm2 l Z a0 hw [] i1 G1 h0 n0 Zh O2 P5 hO) hZ (hw _ (List.mem_of_getElem? (i := 3) rfl)) (hw _ (List.mem_of_getElem? (i := 2) rfl)) (by decide) (by decide)) (g := (mkF m 100 #[.val (.int i0), .val (.int i1), .val (.int i2), .val (.int i3), .val (.int f1), .val (.int f2), .val (.int f3), .val (.int f4), .val .null, .unset, .unset, .unset, .unset] [(.int i1)])) rfl (by rw [hml]; rfl) (argsL := [(.int i1)]) (rest := []) (lenOf pd3 rfl) rfl (by show 2 * 0 + _ ≤ _; exact Nat.le_of_eq rfl) (hb hby at_100) (fun _ _ => ⟨rfl, e0, (by decide : 0 + 3 ≤ _), (by decide : 0 + 8 ≤ _)⟩)
        dsimp only [Pt.U, Pt.locs, Pt.cells, Pt.slots] at X91 l91 y91 z91 st91 hQ91
        subst l91 y91 z91
        obtain ⟨⟨rs, rfl⟩, Nd, Kd⟩ := hQ91
        have c91 : Steps p.tables e below S0 (T91.setTop (mkF m 103 #[.val (.int i0), .val (.int i1), .val (.int i2), .val (.int i3), .val (.int f1), .val (.int f2), .val (.int f3), .val (.int f4), .val .null, .unset, .unset, .unset, .unset] [(.ref rs)])) := by
          refine c90.trans ?_
          show Steps p.tables e below (s₁.setTop (mkF m 100 #[.val (.int i0), .val (.int i1), .val (.int i2), .val (.int i3), .val (.int f1), .val (.int f2), .val (.int f3), .val (.int f4), .val .null, .unset, .unset, .unset, .unset] [(.int i1)])) _
          refine st91 _ ?_
          exact Steps.refl _
        have hRs91 := CHr.keep Kd (fun x hx => by cases hx) hR.1
        have hR := hR.trans hRs91
        have Zh := Nat.le_trans Zh Kd.1
        have hk := Nat.le_trans hk Kd.1
        have hO := hO.keep Kd (fun x hx => by cases hx)
        have Nf := Fr.app Nf Nd
        have c92 : Steps p.tables e below S0 (T91.setTop (mkF m 105 #[.val (.int i0), .val (.int i1), .val (.int i2), .val (.int i3), .val (.int f1), .val (.int f2), .val (.int f3), .val (.int f4), .val .null, .val (.ref rs), .unset, .unset, .unset] [])) := by
          refine c91.trans ?_
          show Steps p.tables e below (T91.setTop (mkF m 103 #[.val (.int i0), .val (.int i1), .val (.int i2), .val (.int i3), .val (.int f1), .val (.int f2), .val (.int f3), .val (.int f4), .val .null, .unset, .unset, .unset, .unset] [(.ref rs)])) _
          refine XS.astore X91.here hx rfl (hb hby at_103) rfl rfl (l' := #[.val (.int i0), .val (.int i1), .val (.int i2), .val (.int i3), .val (.int f1), .val (.int f2), .val (.int f3), .val (.int f4), .val .null, .val (.ref rs), .unset, .unset, .unset]) rfl ?_
          exact Steps.refl _
        have c93 : Steps p.tables e below S0 (T91.setTop (mkF m 107 #[.val (.int i0), .val (.int i1), .val (.int i2), .val (.int i3), .val (.int f1), .val (.int f2), .val (.int f3), .val (.int f4), .val .null, .val (.ref rs), .unset, .unset, .unset] [(.int f4)])) := by
          refine c92.trans ?_
          show Steps p.tables e below (T91.setTop (mkF m 105 #[.val (.int i0), .val (.int i1), .val (.int i2), .val (.int i3), .val (.int f1), .val (.int f2), .val (.int f3), .val (.int f4), .val .null, .val (.ref rs), .unset, .unset, .unset] [])) _
          refine XS.iload X91.here hx rfl (hb hby at_105) rfl ?_
          exact Steps.refl _
        by_cases hm : f4 = 0
        · have c94 : Steps p.tables e below S0 (T91.setTop (mkF m 114 #[.val (.int i0), .val (.int i1), .val (.int i2), .val (.int i3), .val (.int f1), .val (.int f2), .val (.int f3), .val (.int f4), .val .null, .val (.ref rs), .unset, .unset, .unset] [])) := by
            refine c93.trans ?_
            show Steps p.tables e below (T91.setTop (mkF m 107 #[.val (.int i0), .val (.int i1), .val (.int i2), .val (.int i3), .val (.int f1), .val (.int f2), .val (.int f3), .val (.int f4), .val .null, .val (.ref rs), .unset, .unset, .unset] [(.int f4)])) _
            refine XS.ifYes X91.here hx rfl (pc0 := 107) (pc' := 114) rfl (hb hby at_107) rfl ((if0 _ _).trans (teq hm).1) (by decide) (by decide) ?_
            exact Steps.refl _
          have c95 : Steps p.tables e below S0 (T91.setTop (mkF m 115 #[.val (.int i0), .val (.int i1), .val (.int i2), .val (.int i3), .val (.int f1), .val (.int f2), .val (.int f3), .val (.int f4), .val .null, .val (.ref rs), .unset, .unset, .unset] [(.int i2)])) := by
            refine c94.trans ?_
            show Steps p.tables e below (T91.setTop (mkF m 114 #[.val (.int i0), .val (.int i1), .val (.int i2), .val (.int i3), .val (.int f1), .val (.int f2), .val (.int f3), .val (.int f4), .val .null, .val (.ref rs), .unset, .unset, .unset] [])) _
            refine XS.iloadN X91.here hx rfl (hb hby at_114) rfl ?_
            exact Steps.refl _
          obtain ⟨_, _, ⟨T96, L96, k96, n96⟩, -, X96, ⟨Lc96, hQ96, l96, y96, z96⟩, st96⟩ := Jvm.LawKit.callS X91 hx (y := (⟨"com/example/attestry/attestry/saml/StatusInnermostCodePinLaw", "drawn", "(I)Ljava/lang/String;"⟩ : MethodName)) hown (mvT hZ (hw _ (List.mem_of_getElem? (i := 0) rfl))) (mvT hZ (hw _ (List.mem_of_getElem? (i := 1) rfl))) (mvT hZ (hw _ (List.mem_of_getElem? (i := 2) rfl))) (mvT hZ (hw _ (List.mem_of_getElem? (i := 3) rfl))) (by decide) (backOf (W := 0) (rm2 l Z a0 hw [] i2 G1 T91.heap n0 Zh O2 P5 hO) hZ (hw _ (List.mem_of_getElem? (i := 3) rfl)) (hw _ (List.mem_of_getElem? (i := 2) rfl)) (by decide) (by decide)) (g := (mkF m 115 #[.val (.int i0), .val (.int i1), .val (.int i2), .val (.int i3), .val (.int f1), .val (.int f2), .val (.int f3), .val (.int f4), .val .null, .val (.ref rs), .unset, .unset, .unset] [(.int i2)])) rfl (by rw [hml]; rfl) (argsL := [(.int i2)]) (rest := []) (lenOf pd3 rfl) rfl (by show 2 * 0 + _ ≤ _; exact Nat.le_of_eq rfl) (hb hby at_115) (fun _ _ => ⟨rfl, rfl, (by decide : 3 + 3 ≤ _), (by decide : 8 + 8 ≤ _)⟩)
          dsimp only [Pt.U, Pt.locs, Pt.cells, Pt.slots] at X96 l96 y96 z96 st96 hQ96
          subst l96 y96 z96
          obtain ⟨⟨rm, rfl⟩, Nd, Kd⟩ := hQ96
          have c96 : Steps p.tables e below S0 (T96.setTop (mkF m 118 #[.val (.int i0), .val (.int i1), .val (.int i2), .val (.int i3), .val (.int f1), .val (.int f2), .val (.int f3), .val (.int f4), .val .null, .val (.ref rs), .unset, .unset, .unset] [(.ref rm)])) := by
            refine c95.trans ?_
            show Steps p.tables e below (T91.setTop (mkF m 115 #[.val (.int i0), .val (.int i1), .val (.int i2), .val (.int i3), .val (.int f1), .val (.int f2), .val (.int f3), .val (.int f4), .val .null, .val (.ref rs), .unset, .unset, .unset] [(.int i2)])) _
            refine st96 _ ?_
            exact Steps.refl _
          have hRs96 := CHr.keep Kd (fun x hx => by cases hx) hR.1
          have hR := hR.trans hRs96
          have Zh := Nat.le_trans Zh Kd.1
          have hk := Nat.le_trans hk Kd.1
          have hO := hO.keep Kd (fun x hx => by cases hx)
          have Nf := Fr.app Nf Nd
          have c97 : Steps p.tables e below S0 (T96.setTop (mkF m 120 #[.val (.int i0), .val (.int i1), .val (.int i2), .val (.int i3), .val (.int f1), .val (.int f2), .val (.int f3), .val (.int f4), .val .null, .val (.ref rs), .val (.ref rm), .unset, .unset] [])) := by
            refine c96.trans ?_
            show Steps p.tables e below (T96.setTop (mkF m 118 #[.val (.int i0), .val (.int i1), .val (.int i2), .val (.int i3), .val (.int f1), .val (.int f2), .val (.int f3), .val (.int f4), .val .null, .val (.ref rs), .unset, .unset, .unset] [(.ref rm)])) _
            refine XS.astore X96.here hx rfl (hb hby at_118) rfl rfl (l' := #[.val (.int i0), .val (.int i1), .val (.int i2), .val (.int i3), .val (.int f1), .val (.int f2), .val (.int f3), .val (.int f4), .val .null, .val (.ref rs), .val (.ref rm), .unset, .unset]) rfl ?_
            exact Steps.refl _
          obtain ⟨T98, h98, X98, e98, E98, A98, D98, -, st98⟩ := newO X96 hx hZ hown (hw _ (List.mem_of_getElem? (i := 34) rfl)) (hw _ (List.mem_of_getElem? (i := 35) rfl)) (hw _ (List.mem_of_getElem? (i := 36) rfl)) rfl (g := (mkF m 120 #[.val (.int i0), .val (.int i1), .val (.int i2), .val (.int i3), .val (.int f1), .val (.int f2), .val (.int f3), .val (.int f4), .val .null, .val (.ref rs), .val (.ref rm), .unset, .unset] [])) rfl (hb hby at_120) (by decide) (by decide)
          obtain ⟨b98, g98⟩ : ∃ z, z = T96.heap.size := ⟨_, rfl⟩
          rw [← g98] at A98 D98 st98
          have c98 : Steps p.tables e below S0 (T98.setTop (mkF m 123 #[.val (.int i0), .val (.int i1), .val (.int i2), .val (.int i3), .val (.int f1), .val (.int f2), .val (.int f3), .val (.int f4), .val .null, .val (.ref rs), .val (.ref rm), .unset, .unset] [(.ref b98)])) := by
            refine c97.trans ?_
            show Steps p.tables e below (T96.setTop (mkF m 120 #[.val (.int i0), .val (.int i1), .val (.int i2), .val (.int i3), .val (.int f1), .val (.int f2), .val (.int f3), .val (.int f4), .val .null, .val (.ref rs), .val (.ref rm), .unset, .unset] [])) _
            refine st98 _ ?_
            exact Steps.refl _
          have Sf_b98 := Safe.ext E98 hR.1 (Safe.new (Nat.le_of_eq g98.symm))
          have gb98 : n0 ≤ b98 := Nat.le_trans Zh (Nat.le_of_eq g98.symm)
          have hRs98 := CHr.ext E98 hR.1
          have hR := hR.trans hRs98
          have Zh := Nat.le_trans Zh E98.1
          have hk := Nat.le_trans hk E98.1
          have Gc : Fld Z h98 b98 "com/example/attestry/attestry/saml/Status" "code" "Ljava/lang/String;" .null := D98 (Or.inr (hw _ (List.mem_of_getElem? (i := 47) rfl))) (ty := (.object "java/lang/String")) (by decide)
          have Gs : Fld Z h98 b98 "com/example/attestry/attestry/saml/Status" "subcode" "Ljava/lang/String;" .null := D98 (Or.inr (hw _ (List.mem_of_getElem? (i := 49) rfl))) (ty := (.object "java/lang/String")) (by decide)
          have Gm : Fld Z h98 b98 "com/example/attestry/attestry/saml/Status" "message" "Ljava/lang/String;" .null := D98 (Or.inr (hw _ (List.mem_of_getElem? (i := 51) rfl))) (ty := (.object "java/lang/String")) (by decide)
          have c99 : Steps p.tables e below S0 (T98.setTop (mkF m 130 #[.val (.int i0), .val (.int i1), .val (.int i2), .val (.int i3), .val (.int f1), .val (.int f2), .val (.int f3), .val (.int f4), .val .null, .val (.ref rs), .val (.ref rm), .unset, .unset] [(.ref rm), (.ref rs), .null, (.ref b98), (.ref b98)])) := by
            refine c98.trans ?_
            show Steps p.tables e below (T98.setTop (mkF m 123 #[.val (.int i0), .val (.int i1), .val (.int i2), .val (.int i3), .val (.int f1), .val (.int f2), .val (.int f3), .val (.int f4), .val .null, .val (.ref rs), .val (.ref rm), .unset, .unset] [(.ref b98)])) _
            refine XS.dup X98.here hx rfl (hb hby at_123) rfl rfl ?_
            show Steps p.tables e below (T98.setTop (mkF m 124 #[.val (.int i0), .val (.int i1), .val (.int i2), .val (.int i3), .val (.int f1), .val (.int f2), .val (.int f3), .val (.int f4), .val .null, .val (.ref rs), .val (.ref rm), .unset, .unset] [(.ref b98), (.ref b98)])) _
            refine XS.aload X98.here hx rfl (hb hby at_124) rfl rfl ?_
            show Steps p.tables e below (T98.setTop (mkF m 126 #[.val (.int i0), .val (.int i1), .val (.int i2), .val (.int i3), .val (.int f1), .val (.int f2), .val (.int f3), .val (.int f4), .val .null, .val (.ref rs), .val (.ref rm), .unset, .unset] [.null, (.ref b98), (.ref b98)])) _
            refine XS.aload X98.here hx rfl (hb hby at_126) rfl rfl ?_
            show Steps p.tables e below (T98.setTop (mkF m 128 #[.val (.int i0), .val (.int i1), .val (.int i2), .val (.int i3), .val (.int f1), .val (.int f2), .val (.int f3), .val (.int f4), .val .null, .val (.ref rs), .val (.ref rm), .unset, .unset] [(.ref rs), .null, (.ref b98), (.ref b98)])) _
            refine XS.aload X98.here hx rfl (hb hby at_128) rfl rfl ?_
            exact Steps.refl _
          obtain ⟨_, _, ⟨T100, L100, k100, n100⟩, -, X100, ⟨Lc100, hQ100, l100, y100, z100⟩, st100⟩ := X98.specialBack hx (y := (⟨"com/example/attestry/attestry/saml/Status", "<init>", "(Ljava/lang/String;Ljava/lang/String;Ljava/lang/String;)V"⟩ : MethodName)) rfl hown (mvT hZ (hw _ (List.mem_of_getElem? (i := 37) rfl))) (mvT hZ (hw _ (List.mem_of_getElem? (i := 38) rfl))) (mvT hZ (hw _ (List.mem_of_getElem? (i := 39) rfl))) (by decide) (backOf (W := 1) (rm58 l Z a0 hw [] b98 .null (.ref rs) (.ref rm) h98 n0 Zh rfl rfl rfl A98 Gc Gs Gm gb98) hZ (hw _ (List.mem_of_getElem? (i := 39) rfl)) (hw _ (List.mem_of_getElem? (i := 36) rfl)) (by decide) (by decide)) (g := (mkF m 130 #[.val (.int i0), .val (.int i1), .val (.int i2), .val (.int i3), .val (.int f1), .val (.int f2), .val (.int f3), .val (.int f4), .val .null, .val (.ref rs), .val (.ref rm), .unset, .unset] [(.ref rm), (.ref rs), .null, (.ref b98), (.ref b98)])) rfl (by rw [hml]; rfl) (Steps.refl _) (a := b98) (argsL := [.null, (.ref rs), (.ref rm)]) (rest := [(.ref b98)]) (lenOf pd4 rfl) rfl (by show 2 * 0 + _ ≤ _; exact Nat.le_of_eq rfl) (hb hby at_130) (fun _ _ => ⟨rfl, e98, (by decide : 7 + 0 ≤ _), (by decide : 19 + 0 ≤ _)⟩)
          dsimp only [Pt.U, Pt.locs, Pt.cells, Pt.slots] at X100 l100 y100 z100 st100 hQ100
          subst l100 y100 z100
          obtain ⟨rfl, Nt, Kt, At, Tc, Ts⟩ := hQ100
          have c100 : Steps p.tables e below S0 (T100.setTop (mkF m 133 #[.val (.int i0), .val (.int i1), .val (.int i2), .val (.int i3), .val (.int f1), .val (.int f2), .val (.int f3), .val (.int f4), .val .null, .val (.ref rs), .val (.ref rm), .unset, .unset] [(.ref b98)])) := by
            refine c99.trans ?_
            show Steps p.tables e below (T98.setTop (mkF m 130 #[.val (.int i0), .val (.int i1), .val (.int i2), .val (.int i3), .val (.int f1), .val (.int f2), .val (.int f3), .val (.int f4), .val .null, .val (.ref rs), .val (.ref rm), .unset, .unset] [(.ref rm), (.ref rs), .null, (.ref b98), (.ref b98)])) _
            refine st100.trans ?_
            exact Steps.refl _
          have Nf := Fr.app Nf Nt
          have hRs100 := CHr.keep Kt (fun x hx => by cases List.mem_singleton.mp hx; exact Sf_b98) hR.1
          have hR := hR.trans hRs100
          have Zh := Nat.le_trans Zh Kt.1
          have hk := Nat.le_trans hk Kt.1
          have c101 : Steps p.tables e below S0 (T100.setTop (mkF m 137 #[.val (.int i0), .val (.int i1), .val (.int i2), .val (.int i3), .val (.int f1), .val (.int f2), .val (.int f3), .val (.int f4), .val .null, .val (.ref rs), .val (.ref rm), .val (.ref b98), .unset] [(.ref b98)])) := by
            refine c100.trans ?_
            show Steps p.tables e below (T100.setTop (mkF m 133 #[.val (.int i0), .val (.int i1), .val (.int i2), .val (.int i3), .val (.int f1), .val (.int f2), .val (.int f3), .val (.int f4), .val .null, .val (.ref rs), .val (.ref rm), .unset, .unset] [(.ref b98)])) _
            refine XS.astore X100.here hx rfl (hb hby at_133) rfl rfl (l' := #[.val (.int i0), .val (.int i1), .val (.int i2), .val (.int i3), .val (.int f1), .val (.int f2), .val (.int f3), .val (.int f4), .val .null, .val (.ref rs), .val (.ref rm), .val (.ref b98), .unset]) rfl ?_
            show Steps p.tables e below (T100.setTop (mkF m 135 #[.val (.int i0), .val (.int i1), .val (.int i2), .val (.int i3), .val (.int f1), .val (.int f2), .val (.int f3), .val (.int f4), .val .null, .val (.ref rs), .val (.ref rm), .val (.ref b98), .unset] [])) _
            refine XS.aload X100.here hx rfl (hb hby at_135) rfl rfl ?_
            exact Steps.refl _
          obtain ⟨cq102, kq102, q102a, q102b, q102c⟩ := isOf hZ rfl At
          obtain ⟨_, _, ⟨T102, L102, k102, n102⟩, -, X102, ⟨Lc102, hQ102, l102, y102, z102⟩, st102⟩ := X100.virtualBack hx (y := (⟨"com/example/attestry/attestry/saml/Status", "innermostCode", "()Ljava/lang/String;"⟩ : MethodName)) (z := (⟨"com/example/attestry/attestry/saml/Status", "innermostCode", "()Ljava/lang/String;"⟩ : MethodName)) hown (mvT hZ (hw _ (List.mem_of_getElem? (i := 52) rfl))) (mvT hZ (hw _ (List.mem_of_getElem? (i := 53) rfl))) (notFace_of_selects (args := #[]) (mvT hZ (hw _ (List.mem_of_getElem? (i := 55) rfl)))) (mvT hZ (hw _ (List.mem_of_getElem? (i := 55) rfl))) (mvT hZ (hw _ (List.mem_of_getElem? (i := 54) rfl))) (by decide) (backOf (W := 0) (rm585 l Z a0 hw [] b98 .null (.ref rs) T100.heap n0 Zh rfl rfl Tc Ts) hZ (hw _ (List.mem_of_getElem? (i := 56) rfl)) (hw _ (List.mem_of_getElem? (i := 36) rfl)) (by decide) (by decide)) q102a q102c (g := (mkF m 137 #[.val (.int i0), .val (.int i1), .val (.int i2), .val (.int i3), .val (.int f1), .val (.int f2), .val (.int f3), .val (.int f4), .val .null, .val (.ref rs), .val (.ref rm), .val (.ref b98), .unset] [(.ref b98)])) rfl (by rw [hml]; rfl) (Steps.refl _) (argsL := []) (rest := []) (lenOf pd5 rfl) rfl (by show 2 * 0 + _ ≤ _; exact Nat.le_of_eq rfl) (hb hby at_137) (fun _ _ => ⟨rfl, rfl, (by decide : 7 + 0 ≤ _), (by decide : 19 + 0 ≤ _)⟩)
          dsimp only [Pt.U, Pt.locs, Pt.cells, Pt.slots] at X102 l102 y102 z102 st102 hQ102
          subst l102 y102 z102
          obtain ⟨rfl, Nu, eu⟩ := hQ102
          have c102 : Steps p.tables e below S0 (T102.setTop (mkF m 140 #[.val (.int i0), .val (.int i1), .val (.int i2), .val (.int i3), .val (.int f1), .val (.int f2), .val (.int f3), .val (.int f4), .val .null, .val (.ref rs), .val (.ref rm), .val (.ref b98), .unset] [(.ref rs)])) := by
            refine c101.trans ?_
            show Steps p.tables e below (T100.setTop (mkF m 137 #[.val (.int i0), .val (.int i1), .val (.int i2), .val (.int i3), .val (.int f1), .val (.int f2), .val (.int f3), .val (.int f4), .val .null, .val (.ref rs), .val (.ref rm), .val (.ref b98), .unset] [(.ref b98)])) _
            refine st102.trans ?_
            exact Steps.refl _
          have c103 : Steps p.tables e below S0 (T102.setTop (mkF m 142 #[.val (.int i0), .val (.int i1), .val (.int i2), .val (.int i3), .val (.int f1), .val (.int f2), .val (.int f3), .val (.int f4), .val .null, .val (.ref rs), .val (.ref rm), .val (.ref b98), .val (.ref rs)] [])) := by
            refine c102.trans ?_
            show Steps p.tables e below (T102.setTop (mkF m 140 #[.val (.int i0), .val (.int i1), .val (.int i2), .val (.int i3), .val (.int f1), .val (.int f2), .val (.int f3), .val (.int f4), .val .null, .val (.ref rs), .val (.ref rm), .val (.ref b98), .unset] [(.ref rs)])) _
            refine XS.astore X102.here hx rfl (hb hby at_140) rfl rfl (l' := #[.val (.int i0), .val (.int i1), .val (.int i2), .val (.int i3), .val (.int f1), .val (.int f2), .val (.int f3), .val (.int f4), .val .null, .val (.ref rs), .val (.ref rm), .val (.ref b98), .val (.ref rs)]) rfl ?_
            exact Steps.refl _
          have c104 : Steps p.tables e below S0 (T102.setTop (mkF m 159 #[.val (.int i0), .val (.int i1), .val (.int i2), .val (.int i3), .val (.int f1), .val (.int f2), .val (.int f3), .val (.int f4), .val .null, .val (.ref rs), .val (.ref rm), .val (.ref b98), .val (.ref rs)] [(.int (1 : Int32))])) := by
            refine c103.trans ?_
            show Steps p.tables e below (T102.setTop (mkF m 142 #[.val (.int i0), .val (.int i1), .val (.int i2), .val (.int i3), .val (.int f1), .val (.int f2), .val (.int f3), .val (.int f4), .val .null, .val (.ref rs), .val (.ref rm), .val (.ref b98), .val (.ref rs)] [])) _
            refine XS.aload X102.here hx rfl (hb hby at_142) rfl rfl ?_
            show Steps p.tables e below (T102.setTop (mkF m 144 #[.val (.int i0), .val (.int i1), .val (.int i2), .val (.int i3), .val (.int f1), .val (.int f2), .val (.int f3), .val (.int f4), .val .null, .val (.ref rs), .val (.ref rm), .val (.ref b98), .val (.ref rs)] [(.ref rs)])) _
            refine XS.ifnullNo X102.here hx rfl (hb hby at_144) rfl ?_
            show Steps p.tables e below (T102.setTop (mkF m 147 #[.val (.int i0), .val (.int i1), .val (.int i2), .val (.int i3), .val (.int f1), .val (.int f2), .val (.int f3), .val (.int f4), .val .null, .val (.ref rs), .val (.ref rm), .val (.ref b98), .val (.ref rs)] [])) _
            refine XS.aload X102.here hx rfl (hb hby at_147) rfl rfl ?_
            show Steps p.tables e below (T102.setTop (mkF m 149 #[.val (.int i0), .val (.int i1), .val (.int i2), .val (.int i3), .val (.int f1), .val (.int f2), .val (.int f3), .val (.int f4), .val .null, .val (.ref rs), .val (.ref rm), .val (.ref b98), .val (.ref rs)] [(.ref rs)])) _
            refine XS.aload X102.here hx rfl (hb hby at_149) rfl rfl ?_
            show Steps p.tables e below (T102.setTop (mkF m 151 #[.val (.int i0), .val (.int i1), .val (.int i2), .val (.int i3), .val (.int f1), .val (.int f2), .val (.int f3), .val (.int f4), .val .null, .val (.ref rs), .val (.ref rm), .val (.ref b98), .val (.ref rs)] [(.ref rs), (.ref rs)])) _
            refine Jvm.RoadKit.acmp (g := (mkF m 151 #[.val (.int i0), .val (.int i1), .val (.int i2), .val (.int i3), .val (.int f1), .val (.int f2), .val (.int f3), .val (.int f4), .val .null, .val (.ref rs), .val (.ref rm), .val (.ref b98), .val (.ref rs)] [(.ref rs), (.ref rs)])) X102 hx rfl rfl rfl (pc0 := 151) (pc' := 154) (same := true) rfl (hb hby at_151) rfl (decide_eq_true rfl) (by decide) (by decide) ?_
            show Steps p.tables e below (T102.setTop (mkF m 154 #[.val (.int i0), .val (.int i1), .val (.int i2), .val (.int i3), .val (.int f1), .val (.int f2), .val (.int f3), .val (.int f4), .val .null, .val (.ref rs), .val (.ref rm), .val (.ref b98), .val (.ref rs)] [])) _
            refine XS.iconst X102.here hx rfl (hb hby at_154) ?_
            show Steps p.tables e below (T102.setTop (mkF m 155 #[.val (.int i0), .val (.int i1), .val (.int i2), .val (.int i3), .val (.int f1), .val (.int f2), .val (.int f3), .val (.int f4), .val .null, .val (.ref rs), .val (.ref rm), .val (.ref b98), .val (.ref rs)] [(.int (1 : Int32))])) _
            refine XS.goto X102.here hx rfl (pc0 := 155) (pc' := 159) rfl (hb hby at_155) (by decide) (by decide) ?_
            exact Steps.refl _
          obtain ⟨fs, hr, hrun, hended, hW⟩ := X102.leaveW hS (by rw [eu]; exact hk) (v := some (.int 1)) (fun h => by rw [Bd.returns] at h; cases h)
          refine ⟨_, _, c104.trans ?_, hrun, hended, _, _, rfl, ?_, ?_, hW.1, hW.2.1, hW.2.2.1, hW.2.2.2.mono (by decide) (by decide)⟩
          · show Steps p.tables e below (T102.setTop (mkF m 159 #[.val (.int i0), .val (.int i1), .val (.int i2), .val (.int i3), .val (.int f1), .val (.int f2), .val (.int f3), .val (.int f4), .val .null, .val (.ref rs), .val (.ref rm), .val (.ref b98), .val (.ref rs)] [(.int (1 : Int32))])) _
            exact retN X102 hx (t := .boolean) Bd.returns (by simp) (hb hby at_159) hr
          · show Q0 Z i0 i1 i2 i3 G1 h0 n0 _ T102.heap _
            rw [eu]
            exact ⟨rfl, Fr.app Nf Nu⟩
          · show CHr Z consts_1 s.vm s.heap T102.vm T102.heap
            rw [hh, eu, ← hV0]
            exact hR.trans (CHv.at X102 hZ hEL hR.1)
        · have c105 : Steps p.tables e below S0 (T91.setTop (mkF m 120 #[.val (.int i0), .val (.int i1), .val (.int i2), .val (.int i3), .val (.int f1), .val (.int f2), .val (.int f3), .val (.int f4), .val .null, .val (.ref rs), .val .null, .unset, .unset] [])) := by
            refine c93.trans ?_
            show Steps p.tables e below (T91.setTop (mkF m 107 #[.val (.int i0), .val (.int i1), .val (.int i2), .val (.int i3), .val (.int f1), .val (.int f2), .val (.int f3), .val (.int f4), .val .null, .val (.ref rs), .unset, .unset, .unset] [(.int f4)])) _
            refine XS.ifNo X91.here hx rfl (hb hby at_107) rfl ((if0 _ _).trans (feq hm).1) ?_
            show Steps p.tables e below (T91.setTop (mkF m 110 #[.val (.int i0), .val (.int i1), .val (.int i2), .val (.int i3), .val (.int f1), .val (.int f2), .val (.int f3), .val (.int f4), .val .null, .val (.ref rs), .unset, .unset, .unset] [])) _
            refine XS.aconstNull X91.here hx rfl (hb hby at_110) ?_
            show Steps p.tables e below (T91.setTop (mkF m 111 #[.val (.int i0), .val (.int i1), .val (.int i2), .val (.int i3), .val (.int f1), .val (.int f2), .val (.int f3), .val (.int f4), .val .null, .val (.ref rs), .unset, .unset, .unset] [.null])) _
            refine XS.goto X91.here hx rfl (pc0 := 111) (pc' := 118) rfl (hb hby at_111) (by decide) (by decide) ?_
            show Steps p.tables e below (T91.setTop (mkF m 118 #[.val (.int i0), .val (.int i1), .val (.int i2), .val (.int i3), .val (.int f1), .val (.int f2), .val (.int f3), .val (.int f4), .val .null, .val (.ref rs), .unset, .unset, .unset] [.null])) _
            refine XS.astore X91.here hx rfl (hb hby at_118) rfl rfl (l' := #[.val (.int i0), .val (.int i1), .val (.int i2), .val (.int i3), .val (.int f1), .val (.int f2), .val (.int f3), .val (.int f4), .val .null, .val (.ref rs), .val .null, .unset, .unset]) rfl ?_
            exact Steps.refl _
          obtain ⟨T106, h106, X106, e106, E106, A106, D106, -, st106⟩ := newO X91 hx hZ hown (hw _ (List.mem_of_getElem? (i := 34) rfl)) (hw _ (List.mem_of_getElem? (i := 35) rfl)) (hw _ (List.mem_of_getElem? (i := 36) rfl)) rfl (g := (mkF m 120 #[.val (.int i0), .val (.int i1), .val (.int i2), .val (.int i3), .val (.int f1), .val (.int f2), .val (.int f3), .val (.int f4), .val .null, .val (.ref rs), .val .null, .unset, .unset] [])) rfl (hb hby at_120) (by decide) (by decide)
          obtain ⟨b106, g106⟩ : ∃ z, z = T91.heap.size := ⟨_, rfl⟩
          rw [← g106] at A106 D106 st106
          have c106 : Steps p.tables e below S0 (T106.setTop (mkF m 123 #[.val (.int i0), .val (.int i1), .val (.int i2), .val (.int i3), .val (.int f1), .val (.int f2), .val (.int f3), .val (.int f4), .val .null, .val (.ref rs), .val .null, .unset, .unset] [(.ref b106)])) := by
            refine c105.trans ?_
            show Steps p.tables e below (T91.setTop (mkF m 120 #[.val (.int i0), .val (.int i1), .val (.int i2), .val (.int i3), .val (.int f1), .val (.int f2), .val (.int f3), .val (.int f4), .val .null, .val (.ref rs), .val .null, .unset, .unset] [])) _
            refine st106 _ ?_
            exact Steps.refl _
          have Sf_b106 := Safe.ext E106 hR.1 (Safe.new (Nat.le_of_eq g106.symm))
          have gb106 : n0 ≤ b106 := Nat.le_trans Zh (Nat.le_of_eq g106.symm)
          have hRs106 := CHr.ext E106 hR.1
          have hR := hR.trans hRs106
          have Zh := Nat.le_trans Zh E106.1
          have hk := Nat.le_trans hk E106.1
          have Gc : Fld Z h106 b106 "com/example/attestry/attestry/saml/Status" "code" "Ljava/lang/String;" .null := D106 (Or.inr (hw _ (List.mem_of_getElem? (i := 47) rfl))) (ty := (.object "java/lang/String")) (by decide)
          have Gs : Fld Z h106 b106 "com/example/attestry/attestry/saml/Status" "subcode" "Ljava/lang/String;" .null := D106 (Or.inr (hw _ (List.mem_of_getElem? (i := 49) rfl))) (ty := (.object "java/lang/String")) (by decide)
          have Gm : Fld Z h106 b106 "com/example/attestry/attestry/saml/Status" "message" "Ljava/lang/String;" .null := D106 (Or.inr (hw _ (List.mem_of_getElem? (i := 51) rfl))) (ty := (.object "java/lang/String")) (by decide)
          have c107 : Steps p.tables e below S0 (T106.setTop (mkF m 130 #[.val (.int i0), .val (.int i1), .val (.int i2), .val (.int i3), .val (.int f1), .val (.int f2), .val (.int f3), .val (.int f4), .val .null, .val (.ref rs), .val .null, .unset, .unset] [.null, (.ref rs), .null, (.ref b106), (.ref b106)])) := by
            refine c106.trans ?_
            show Steps p.tables e below (T106.setTop (mkF m 123 #[.val (.int i0), .val (.int i1), .val (.int i2), .val (.int i3), .val (.int f1), .val (.int f2), .val (.int f3), .val (.int f4), .val .null, .val (.ref rs), .val .null, .unset, .unset] [(.ref b106)])) _
            refine XS.dup X106.here hx rfl (hb hby at_123) rfl rfl ?_
            show Steps p.tables e below (T106.setTop (mkF m 124 #[.val (.int i0), .val (.int i1), .val (.int i2), .val (.int i3), .val (.int f1), .val (.int f2), .val (.int f3), .val (.int f4), .val .null, .val (.ref rs), .val .null, .unset, .unset] [(.ref b106), (.ref b106)])) _
            refine XS.aload X106.here hx rfl (hb hby at_124) rfl rfl ?_
            show Steps p.tables e below (T106.setTop (mkF m 126 #[.val (.int i0), .val (.int i1), .val (.int i2), .val (.int i3), .val (.int f1), .val (.int f2), .val (.int f3), .val (.int f4), .val .null, .val (.ref rs), .val .null, .unset, .unset] [.null, (.ref b106), (.ref b106)])) _
            refine XS.aload X106.here hx rfl (hb hby at_126) rfl rfl ?_
            show Steps p.tables e below (T106.setTop (mkF m 128 #[.val (.int i0), .val (.int i1), .val (.int i2), .val (.int i3), .val (.int f1), .val (.int f2), .val (.int f3), .val (.int f4), .val .null, .val (.ref rs), .val .null, .unset, .unset] [(.ref rs), .null, (.ref b106), (.ref b106)])) _
            refine XS.aload X106.here hx rfl (hb hby at_128) rfl rfl ?_
            exact Steps.refl _
          obtain ⟨_, _, ⟨T108, L108, k108, n108⟩, -, X108, ⟨Lc108, hQ108, l108, y108, z108⟩, st108⟩ := X106.specialBack hx (y := (⟨"com/example/attestry/attestry/saml/Status", "<init>", "(Ljava/lang/String;Ljava/lang/String;Ljava/lang/String;)V"⟩ : MethodName)) rfl hown (mvT hZ (hw _ (List.mem_of_getElem? (i := 37) rfl))) (mvT hZ (hw _ (List.mem_of_getElem? (i := 38) rfl))) (mvT hZ (hw _ (List.mem_of_getElem? (i := 39) rfl))) (by decide) (backOf (W := 1) (rm58 l Z a0 hw [] b106 .null (.ref rs) .null h106 n0 Zh rfl rfl rfl A106 Gc Gs Gm gb106) hZ (hw _ (List.mem_of_getElem? (i := 39) rfl)) (hw _ (List.mem_of_getElem? (i := 36) rfl)) (by decide) (by decide)) (g := (mkF m 130 #[.val (.int i0), .val (.int i1), .val (.int i2), .val (.int i3), .val (.int f1), .val (.int f2), .val (.int f3), .val (.int f4), .val .null, .val (.ref rs), .val .null, .unset, .unset] [.null, (.ref rs), .null, (.ref b106), (.ref b106)])) rfl (by rw [hml]; rfl) (Steps.refl _) (a := b106) (argsL := [.null, (.ref rs), .null]) (rest := [(.ref b106)]) (lenOf pd4 rfl) rfl (by show 2 * 0 + _ ≤ _; exact Nat.le_of_eq rfl) (hb hby at_130) (fun _ _ => ⟨rfl, e106, (by decide : 4 + 0 ≤ _), (by decide : 11 + 0 ≤ _)⟩)
          dsimp only [Pt.U, Pt.locs, Pt.cells, Pt.slots] at X108 l108 y108 z108 st108 hQ108
          subst l108 y108 z108
          obtain ⟨rfl, Nt, Kt, At, Tc, Ts⟩ := hQ108
          have c108 : Steps p.tables e below S0 (T108.setTop (mkF m 133 #[.val (.int i0), .val (.int i1), .val (.int i2), .val (.int i3), .val (.int f1), .val (.int f2), .val (.int f3), .val (.int f4), .val .null, .val (.ref rs), .val .null, .unset, .unset] [(.ref b106)])) := by
            refine c107.trans ?_
            show Steps p.tables e below (T106.setTop (mkF m 130 #[.val (.int i0), .val (.int i1), .val (.int i2), .val (.int i3), .val (.int f1), .val (.int f2), .val (.int f3), .val (.int f4), .val .null, .val (.ref rs), .val .null, .unset, .unset] [.null, (.ref rs), .null, (.ref b106), (.ref b106)])) _
            refine st108.trans ?_
            exact Steps.refl _
          have Nf := Fr.app Nf Nt
          have hRs108 := CHr.keep Kt (fun x hx => by cases List.mem_singleton.mp hx; exact Sf_b106) hR.1
          have hR := hR.trans hRs108
          have Zh := Nat.le_trans Zh Kt.1
          have hk := Nat.le_trans hk Kt.1
          have c109 : Steps p.tables e below S0 (T108.setTop (mkF m 137 #[.val (.int i0), .val (.int i1), .val (.int i2), .val (.int i3), .val (.int f1), .val (.int f2), .val (.int f3), .val (.int f4), .val .null, .val (.ref rs), .val .null, .val (.ref b106), .unset] [(.ref b106)])) := by
            refine c108.trans ?_
            show Steps p.tables e below (T108.setTop (mkF m 133 #[.val (.int i0), .val (.int i1), .val (.int i2), .val (.int i3), .val (.int f1), .val (.int f2), .val (.int f3), .val (.int f4), .val .null, .val (.ref rs), .val .null, .unset, .unset] [(.ref b106)])) _
            refine XS.astore X108.here hx rfl (hb hby at_133) rfl rfl (l' := #[.val (.int i0), .val (.int i1), .val (.int i2), .val (.int i3), .val (.int f1), .val (.int f2), .val (.int f3), .val (.int f4), .val .null, .val (.ref rs), .val .null, .val (.ref b106), .unset]) rfl ?_
            show Steps p.tables e below (T108.setTop (mkF m 135 #[.val (.int i0), .val (.int i1), .val (.int i2), .val (.int i3), .val (.int f1), .val (.int f2), .val (.int f3), .val (.int f4), .val .null, .val (.ref rs), .val .null, .val (.ref b106), .unset] [])) _
            refine XS.aload X108.here hx rfl (hb hby at_135) rfl rfl ?_
            exact Steps.refl _
          obtain ⟨cq110, kq110, q110a, q110b, q110c⟩ := isOf hZ rfl At
          obtain ⟨_, _, ⟨T110, L110, k110, n110⟩, -, X110, ⟨Lc110, hQ110, l110, y110, z110⟩, st110⟩ := X108.virtualBack hx (y := (⟨"com/example/attestry/attestry/saml/Status", "innermostCode", "()Ljava/lang/String;"⟩ : MethodName)) (z := (⟨"com/example/attestry/attestry/saml/Status", "innermostCode", "()Ljava/lang/String;"⟩ : MethodName)) hown (mvT hZ (hw _ (List.mem_of_getElem? (i := 52) rfl))) (mvT hZ (hw _ (List.mem_of_getElem? (i := 53) rfl))) (notFace_of_selects (args := #[]) (mvT hZ (hw _ (List.mem_of_getElem? (i := 55) rfl)))) (mvT hZ (hw _ (List.mem_of_getElem? (i := 55) rfl))) (mvT hZ (hw _ (List.mem_of_getElem? (i := 54) rfl))) (by decide) (backOf (W := 0) (rm585 l Z a0 hw [] b106 .null (.ref rs) T108.heap n0 Zh rfl rfl Tc Ts) hZ (hw _ (List.mem_of_getElem? (i := 56) rfl)) (hw _ (List.mem_of_getElem? (i := 36) rfl)) (by decide) (by decide)) q110a q110c (g := (mkF m 137 #[.val (.int i0), .val (.int i1), .val (.int i2), .val (.int i3), .val (.int f1), .val (.int f2), .val (.int f3), .val (.int f4), .val .null, .val (.ref rs), .val .null, .val (.ref b106), .unset] [(.ref b106)])) rfl (by rw [hml]; rfl) (Steps.refl _) (argsL := []) (rest := []) (lenOf pd5 rfl) rfl (by show 2 * 0 + _ ≤ _; exact Nat.le_of_eq rfl) (hb hby at_137) (fun _ _ => ⟨rfl, rfl, (by decide : 4 + 0 ≤ _), (by decide : 11 + 0 ≤ _)⟩)
          dsimp only [Pt.U, Pt.locs, Pt.cells, Pt.slots] at X110 l110 y110 z110 st110 hQ110
          subst l110 y110 z110
          obtain ⟨rfl, Nu, eu⟩ := hQ110
          have c110 : Steps p.tables e below S0 (T110.setTop (mkF m 140 #[.val (.int i0), .val (.int i1), .val (.int i2), .val (.int i3), .val (.int f1), .val (.int f2), .val (.int f3), .val (.int f4), .val .null, .val (.ref rs), .val .null, .val (.ref b106), .unset] [(.ref rs)])) := by
            refine c109.trans ?_
            show Steps p.tables e below (T108.setTop (mkF m 137 #[.val (.int i0), .val (.int i1), .val (.int i2), .val (.int i3), .val (.int f1), .val (.int f2), .val (.int f3), .val (.int f4), .val .null, .val (.ref rs), .val .null, .val (.ref b106), .unset] [(.ref b106)])) _
            refine st110.trans ?_
            exact Steps.refl _
          have c111 : Steps p.tables e below S0 (T110.setTop (mkF m 142 #[.val (.int i0), .val (.int i1), .val (.int i2), .val (.int i3), .val (.int f1), .val (.int f2), .val (.int f3), .val (.int f4), .val .null, .val (.ref rs), .val .null, .val (.ref b106), .val (.ref rs)] [])) := by
            refine c110.trans ?_
            show Steps p.tables e below (T110.setTop (mkF m 140 #[.val (.int i0), .val (.int i1), .val (.int i2), .val (.int i3), .val (.int f1), .val (.int f2), .val (.int f3), .val (.int f4), .val .null, .val (.ref rs), .val .null, .val (.ref b106), .unset] [(.ref rs)])) _
            refine XS.astore X110.here hx rfl (hb hby at_140) rfl rfl (l' := #[.val (.int i0), .val (.int i1), .val (.int i2), .val (.int i3), .val (.int f1), .val (.int f2), .val (.int f3), .val (.int f4), .val .null, .val (.ref rs), .val .null, .val (.ref b106), .val (.ref rs)]) rfl ?_
            exact Steps.refl _
          have c112 : Steps p.tables e below S0 (T110.setTop (mkF m 159 #[.val (.int i0), .val (.int i1), .val (.int i2), .val (.int i3), .val (.int f1), .val (.int f2), .val (.int f3), .val (.int f4), .val .null, .val (.ref rs), .val .null, .val (.ref b106), .val (.ref rs)] [(.int (1 : Int32))])) := by
            refine c111.trans ?_
            show Steps p.tables e below (T110.setTop (mkF m 142 #[.val (.int i0), .val (.int i1), .val (.int i2), .val (.int i3), .val (.int f1), .val (.int f2), .val (.int f3), .val (.int f4), .val .null, .val (.ref rs), .val .null, .val (.ref b106), .val (.ref rs)] [])) _
            refine XS.aload X110.here hx rfl (hb hby at_142) rfl rfl ?_
            show Steps p.tables e below (T110.setTop (mkF m 144 #[.val (.int i0), .val (.int i1), .val (.int i2), .val (.int i3), .val (.int f1), .val (.int f2), .val (.int f3), .val (.int f4), .val .null, .val (.ref rs), .val .null, .val (.ref b106), .val (.ref rs)] [(.ref rs)])) _
            refine XS.ifnullNo X110.here hx rfl (hb hby at_144) rfl ?_
            show Steps p.tables e below (T110.setTop (mkF m 147 #[.val (.int i0), .val (.int i1), .val (.int i2), .val (.int i3), .val (.int f1), .val (.int f2), .val (.int f3), .val (.int f4), .val .null, .val (.ref rs), .val .null, .val (.ref b106), .val (.ref rs)] [])) _
            refine XS.aload X110.here hx rfl (hb hby at_147) rfl rfl ?_
            show Steps p.tables e below (T110.setTop (mkF m 149 #[.val (.int i0), .val (.int i1), .val (.int i2), .val (.int i3), .val (.int f1), .val (.int f2), .val (.int f3), .val (.int f4), .val .null, .val (.ref rs), .val .null, .val (.ref b106), .val (.ref rs)] [(.ref rs)])) _
            refine XS.aload X110.here hx rfl (hb hby at_149) rfl rfl ?_
            show Steps p.tables e below (T110.setTop (mkF m 151 #[.val (.int i0), .val (.int i1), .val (.int i2), .val (.int i3), .val (.int f1), .val (.int f2), .val (.int f3), .val (.int f4), .val .null, .val (.ref rs), .val .null, .val (.ref b106), .val (.ref rs)] [(.ref rs), (.ref rs)])) _
            refine Jvm.RoadKit.acmp (g := (mkF m 151 #[.val (.int i0), .val (.int i1), .val (.int i2), .val (.int i3), .val (.int f1), .val (.int f2), .val (.int f3), .val (.int f4), .val .null, .val (.ref rs), .val .null, .val (.ref b106), .val (.ref rs)] [(.ref rs), (.ref rs)])) X110 hx rfl rfl rfl (pc0 := 151) (pc' := 154) (same := true) rfl (hb hby at_151) rfl (decide_eq_true rfl) (by decide) (by decide) ?_
            show Steps p.tables e below (T110.setTop (mkF m 154 #[.val (.int i0), .val (.int i1), .val (.int i2), .val (.int i3), .val (.int f1), .val (.int f2), .val (.int f3), .val (.int f4), .val .null, .val (.ref rs), .val .null, .val (.ref b106), .val (.ref rs)] [])) _
            refine XS.iconst X110.here hx rfl (hb hby at_154) ?_
            show Steps p.tables e below (T110.setTop (mkF m 155 #[.val (.int i0), .val (.int i1), .val (.int i2), .val (.int i3), .val (.int f1), .val (.int f2), .val (.int f3), .val (.int f4), .val .null, .val (.ref rs), .val .null, .val (.ref b106), .val (.ref rs)] [(.int (1 : Int32))])) _
            refine XS.goto X110.here hx rfl (pc0 := 155) (pc' := 159) rfl (hb hby at_155) (by decide) (by decide) ?_
            exact Steps.refl _
          obtain ⟨fs, hr, hrun, hended, hW⟩ := X110.leaveW hS (by rw [eu]; exact hk) (v := some (.int 1)) (fun h => by rw [Bd.returns] at h; cases h)
          refine ⟨_, _, c112.trans ?_, hrun, hended, _, _, rfl, ?_, ?_, hW.1, hW.2.1, hW.2.2.1, hW.2.2.2.mono (by decide) (by decide)⟩
          · show Steps p.tables e below (T110.setTop (mkF m 159 #[.val (.int i0), .val (.int i1), .val (.int i2), .val (.int i3), .val (.int f1), .val (.int f2), .val (.int f3), .val (.int f4), .val .null, .val (.ref rs), .val .null, .val (.ref b106), .val (.ref rs)] [(.int (1 : Int32))])) _
            exact retN X110 hx (t := .boolean) Bd.returns (by simp) (hb hby at_159) hr
          · show Q0 Z i0 i1 i2 i3 G1 h0 n0 _ T110.heap _
            rw [eu]
            exact ⟨rfl, Fr.app Nf Nu⟩
          · show CHr Z consts_1 s.vm s.heap T110.vm T110.heap
            rw [hh, eu, ← hV0]
            exact hR.trans (CHv.at X110 hZ hEL hR.1)
      · have c113 : Steps p.tables e below S0 (s₁.setTop (mkF m 84 #[.val (.int i0), .val (.int i1), .val (.int i2), .val (.int i3), .val (.int f1), .val (.int f2), .val (.int f3), .val (.int f4), .val .null, .unset, .unset, .unset, .unset] [])) := by
          refine c88.trans ?_
          show Steps p.tables e below (s₁.setTop (mkF m 81 #[.val (.int i0), .val (.int i1), .val (.int i2), .val (.int i3), .val (.int f1), .val (.int f2), .val (.int f3), .val (.int f4), .val .null, .unset, .unset, .unset, .unset] [(.int f3)])) _
          refine XS.ifNo Xs.here hx rfl (hb hby at_81) rfl ((if0 _ _).trans (feq hs3).1) ?_
          exact Steps.refl _
        obtain ⟨T114, h114, X114, e114, E114, A114, D114, -, st114⟩ := newO Xs hx hZ hown (hw _ (List.mem_of_getElem? (i := 5) rfl)) (hw _ (List.mem_of_getElem? (i := 6) rfl)) (hw _ (List.mem_of_getElem? (i := 7) rfl)) e0 (g := (mkF m 84 #[.val (.int i0), .val (.int i1), .val (.int i2), .val (.int i3), .val (.int f1), .val (.int f2), .val (.int f3), .val (.int f4), .val .null, .unset, .unset, .unset, .unset] [])) rfl (hb hby at_84) (by decide) (by decide)
        obtain ⟨b114, g114⟩ : ∃ z, z = h0.size := ⟨_, rfl⟩
        rw [← g114] at A114 D114 st114
        have c114 : Steps p.tables e below S0 (T114.setTop (mkF m 87 #[.val (.int i0), .val (.int i1), .val (.int i2), .val (.int i3), .val (.int f1), .val (.int f2), .val (.int f3), .val (.int f4), .val .null, .unset, .unset, .unset, .unset] [(.ref b114)])) := by
          refine c113.trans ?_
          show Steps p.tables e below (s₁.setTop (mkF m 84 #[.val (.int i0), .val (.int i1), .val (.int i2), .val (.int i3), .val (.int f1), .val (.int f2), .val (.int f3), .val (.int f4), .val .null, .unset, .unset, .unset, .unset] [])) _
          refine st114 _ ?_
          exact Steps.refl _
        have hO := hO.ext E114
        have Sf_b114 := Safe.ext E114 hR.1 (Safe.new (Nat.le_of_eq g114.symm))
        have gb114 : n0 ≤ b114 := Nat.le_trans Zh (Nat.le_of_eq g114.symm)
        have hRs114 := CHr.ext E114 hR.1
        have hR := hR.trans hRs114
        have Zh := Nat.le_trans Zh E114.1
        have hk := Nat.le_trans hk E114.1
        have Fv : Fld Z h114 b114 "java/lang/String" "value" "[B" .null := D114 (Or.inr (hw _ (List.mem_of_getElem? (i := 33) rfl))) (ty := (.array .byte)) (by decide)
        have Fc : Fld Z h114 b114 "java/lang/String" "coder" "B" (.int 0) := D114 (Or.inr (hw _ (List.mem_of_getElem? (i := 31) rfl))) (ty := .byte) (by decide)
        have c115 : Steps p.tables e below S0 (T114.setTop (mkF m 89 #[.val (.int i0), .val (.int i1), .val (.int i2), .val (.int i3), .val (.int f1), .val (.int f2), .val (.int f3), .val (.int f4), .val .null, .unset, .unset, .unset, .unset] [(.int (0 : Int32)), (.ref b114), (.ref b114)])) := by
          refine c114.trans ?_
          show Steps p.tables e below (T114.setTop (mkF m 87 #[.val (.int i0), .val (.int i1), .val (.int i2), .val (.int i3), .val (.int f1), .val (.int f2), .val (.int f3), .val (.int f4), .val .null, .unset, .unset, .unset, .unset] [(.ref b114)])) _
          refine XS.dup X114.here hx rfl (hb hby at_87) rfl rfl ?_
          show Steps p.tables e below (T114.setTop (mkF m 88 #[.val (.int i0), .val (.int i1), .val (.int i2), .val (.int i3), .val (.int f1), .val (.int f2), .val (.int f3), .val (.int f4), .val .null, .unset, .unset, .unset, .unset] [(.ref b114), (.ref b114)])) _
          refine XS.iconst X114.here hx rfl (hb hby at_88) ?_
          exact Steps.refl _
        obtain ⟨T116, h116, kA116, X116, e116, E116, A116, st116⟩ := newP X114 hx hZ (hw _ (List.mem_of_getElem? (i := 4) rfl)) e114 (g := (mkF m 89 #[.val (.int i0), .val (.int i1), .val (.int i2), .val (.int i3), .val (.int f1), .val (.int f2), .val (.int f3), .val (.int f4), .val .null, .unset, .unset, .unset, .unset] [(.int (0 : Int32)), (.ref b114), (.ref b114)])) rfl (hb hby at_89) rfl (by decide : ¬ ((0 : Int32) < (0 : Int32))) (cap := 0) (by decide) (by decide) (by decide) (by decide)
        obtain ⟨b116, g116⟩ : ∃ z, z = h114.size := ⟨_, rfl⟩
        rw [← g116] at A116 st116
        have c116 : Steps p.tables e below S0 (T116.setTop (mkF m 91 #[.val (.int i0), .val (.int i1), .val (.int i2), .val (.int i3), .val (.int f1), .val (.int f2), .val (.int f3), .val (.int f4), .val .null, .unset, .unset, .unset, .unset] [(.ref b116), (.ref b114), (.ref b114)])) := by
          refine c115.trans ?_
          show Steps p.tables e below (T114.setTop (mkF m 89 #[.val (.int i0), .val (.int i1), .val (.int i2), .val (.int i3), .val (.int f1), .val (.int f2), .val (.int f3), .val (.int f4), .val .null, .unset, .unset, .unset, .unset] [(.int (0 : Int32)), (.ref b114), (.ref b114)])) _
          refine st116 _ ?_
          exact Steps.refl _
        have hO := hO.ext E116
        have hRs116 := CHr.ext E116 hR.1
        have Sf_b114 := hRs116.safe A114.lt Sf_b114
        have hR := hR.trans hRs116
        have Zh := Nat.le_trans Zh E116.1
        have hk := Nat.le_trans hk E116.1
        obtain ⟨_, _, ⟨T117, L117, k117, n117⟩, -, X117, hS117, hge117, ⟨Lc117, hQ117, l117, y117, z117, hCr117⟩, st117⟩ := X116.specialBackS hx (y := (⟨"java/lang/String", "<init>", "([C)V"⟩ : MethodName)) rfl hown (mvT hZ (hw _ (List.mem_of_getElem? (i := 8) rfl))) (mvT hZ (hw _ (List.mem_of_getElem? (i := 9) rfl))) (mvT hZ (hw _ (List.mem_of_getElem? (i := 10) rfl))) (by decide) (backOfSX (W := 1) (rm3 l Z a0 hw [] b114 b116 _ h116 n0 Zh (A114.ext E116) (Fv.ext E116) (Fc.ext E116) gb114 A116 (sz_new _ _ _)) hZ (hw _ (List.mem_of_getElem? (i := 10) rfl)) (hw _ (List.mem_of_getElem? (i := 7) rfl)) (by decide) (by decide) hEL hR.1 (fun x hx => by cases List.mem_singleton.mp hx; exact ⟨(A114.ext E116).lt, Sf_b114⟩)) (g := (mkF m 91 #[.val (.int i0), .val (.int i1), .val (.int i2), .val (.int i3), .val (.int f1), .val (.int f2), .val (.int f3), .val (.int f4), .val .null, .unset, .unset, .unset, .unset] [(.ref b116), (.ref b114), (.ref b114)])) rfl (by rw [hml]; rfl) (Steps.refl _) (a := b114) (argsL := [(.ref b116)]) (rest := [(.ref b114)]) (lenOf pd0 rfl) rfl (by show 2 * 0 + _ ≤ _; exact Nat.le_of_eq rfl) (hb hby at_91) (fun _ _ => ⟨rfl, e116, (by decide : 2 + 4 ≤ _), (by decide : 4 + 8 ≤ _)⟩)
        dsimp only [Pt.U, Pt.locs, Pt.cells, Pt.slots] at X117 l117 y117 z117 st117 hQ117 hS117 hge117 hCr117
        subst l117 y117 z117
        obtain ⟨X117, hS, hZ, hown⟩ := rebS hS (by rw [e116]; exact hk) X117 hS117 hge117 hZ hown
        have hk : T117.heap.size ≤ T117.heap.size := Nat.le_refl _
        have hR := hR.trans hCr117
        obtain ⟨rfl, Ne, Ke, De, Ae⟩ := hQ117
        have c117 : Steps p.tables e below S0 (T117.setTop (mkF m 94 #[.val (.int i0), .val (.int i1), .val (.int i2), .val (.int i3), .val (.int f1), .val (.int f2), .val (.int f3), .val (.int f4), .val .null, .unset, .unset, .unset, .unset] [(.ref b114)])) := by
          refine c116.trans ?_
          show Steps p.tables e below (T116.setTop (mkF m 91 #[.val (.int i0), .val (.int i1), .val (.int i2), .val (.int i3), .val (.int f1), .val (.int f2), .val (.int f3), .val (.int f4), .val .null, .unset, .unset, .unset, .unset] [(.ref b116), (.ref b114), (.ref b114)])) _
          refine st117.trans ?_
          exact Steps.refl _
        have Zh := Nat.le_trans Zh Ke.1
        have hO := hO.keep Ke (fun x hx => by cases List.mem_singleton.mp hx; exact gb114)
        have Nf := Fr.app Nf Ne
        have c118 : Steps p.tables e below S0 (T117.setTop (mkF m 105 #[.val (.int i0), .val (.int i1), .val (.int i2), .val (.int i3), .val (.int f1), .val (.int f2), .val (.int f3), .val (.int f4), .val .null, .val (.ref b114), .unset, .unset, .unset] [])) := by
          refine c117.trans ?_
          show Steps p.tables e below (T117.setTop (mkF m 94 #[.val (.int i0), .val (.int i1), .val (.int i2), .val (.int i3), .val (.int f1), .val (.int f2), .val (.int f3), .val (.int f4), .val .null, .unset, .unset, .unset, .unset] [(.ref b114)])) _
          refine XS.astore X117.here hx rfl (hb hby at_94) rfl rfl (l' := #[.val (.int i0), .val (.int i1), .val (.int i2), .val (.int i3), .val (.int f1), .val (.int f2), .val (.int f3), .val (.int f4), .val .null, .val (.ref b114), .unset, .unset, .unset]) rfl ?_
          show Steps p.tables e below (T117.setTop (mkF m 96 #[.val (.int i0), .val (.int i1), .val (.int i2), .val (.int i3), .val (.int f1), .val (.int f2), .val (.int f3), .val (.int f4), .val .null, .val (.ref b114), .unset, .unset, .unset] [])) _
          refine XS.goto X117.here hx rfl (pc0 := 96) (pc' := 105) rfl (hb hby at_96) (by decide) (by decide) ?_
          exact Steps.refl _
        have c119 : Steps p.tables e below S0 (T117.setTop (mkF m 107 #[.val (.int i0), .val (.int i1), .val (.int i2), .val (.int i3), .val (.int f1), .val (.int f2), .val (.int f3), .val (.int f4), .val .null, .val (.ref b114), .unset, .unset, .unset] [(.int f4)])) := by
          refine c118.trans ?_
          show Steps p.tables e below (T117.setTop (mkF m 105 #[.val (.int i0), .val (.int i1), .val (.int i2), .val (.int i3), .val (.int f1), .val (.int f2), .val (.int f3), .val (.int f4), .val .null, .val (.ref b114), .unset, .unset, .unset] [])) _
          refine XS.iload X117.here hx rfl (hb hby at_105) rfl ?_
          exact Steps.refl _
        by_cases hm : f4 = 0
        · have c120 : Steps p.tables e below S0 (T117.setTop (mkF m 114 #[.val (.int i0), .val (.int i1), .val (.int i2), .val (.int i3), .val (.int f1), .val (.int f2), .val (.int f3), .val (.int f4), .val .null, .val (.ref b114), .unset, .unset, .unset] [])) := by
            refine c119.trans ?_
            show Steps p.tables e below (T117.setTop (mkF m 107 #[.val (.int i0), .val (.int i1), .val (.int i2), .val (.int i3), .val (.int f1), .val (.int f2), .val (.int f3), .val (.int f4), .val .null, .val (.ref b114), .unset, .unset, .unset] [(.int f4)])) _
            refine XS.ifYes X117.here hx rfl (pc0 := 107) (pc' := 114) rfl (hb hby at_107) rfl ((if0 _ _).trans (teq hm).1) (by decide) (by decide) ?_
            exact Steps.refl _
          have c121 : Steps p.tables e below S0 (T117.setTop (mkF m 115 #[.val (.int i0), .val (.int i1), .val (.int i2), .val (.int i3), .val (.int f1), .val (.int f2), .val (.int f3), .val (.int f4), .val .null, .val (.ref b114), .unset, .unset, .unset] [(.int i2)])) := by
            refine c120.trans ?_
            show Steps p.tables e below (T117.setTop (mkF m 114 #[.val (.int i0), .val (.int i1), .val (.int i2), .val (.int i3), .val (.int f1), .val (.int f2), .val (.int f3), .val (.int f4), .val .null, .val (.ref b114), .unset, .unset, .unset] [])) _
            refine XS.iloadN X117.here hx rfl (hb hby at_114) rfl ?_
            exact Steps.refl _
          obtain ⟨_, _, ⟨T122, L122, k122, n122⟩, -, X122, ⟨Lc122, hQ122, l122, y122, z122⟩, st122⟩ := Jvm.LawKit.callS X117 hx (y := (⟨"com/example/attestry/attestry/saml/StatusInnermostCodePinLaw", "drawn", "(I)Ljava/lang/String;"⟩ : MethodName)) hown (mvT hZ (hw _ (List.mem_of_getElem? (i := 0) rfl))) (mvT hZ (hw _ (List.mem_of_getElem? (i := 1) rfl))) (mvT hZ (hw _ (List.mem_of_getElem? (i := 2) rfl))) (mvT hZ (hw _ (List.mem_of_getElem? (i := 3) rfl))) (by decide) (backOf (W := 0) (rm2 l Z a0 hw [] i2 G1 T117.heap n0 Zh O2 P5 hO) hZ (hw _ (List.mem_of_getElem? (i := 3) rfl)) (hw _ (List.mem_of_getElem? (i := 2) rfl)) (by decide) (by decide)) (g := (mkF m 115 #[.val (.int i0), .val (.int i1), .val (.int i2), .val (.int i3), .val (.int f1), .val (.int f2), .val (.int f3), .val (.int f4), .val .null, .val (.ref b114), .unset, .unset, .unset] [(.int i2)])) rfl (by rw [hml]; rfl) (argsL := [(.int i2)]) (rest := []) (lenOf pd3 rfl) rfl (by show 2 * 0 + _ ≤ _; exact Nat.le_of_eq rfl) (hb hby at_115) (fun _ _ => ⟨rfl, rfl, (by decide : 6 + 3 ≤ _), (by decide : 12 + 8 ≤ _)⟩)
          dsimp only [Pt.U, Pt.locs, Pt.cells, Pt.slots] at X122 l122 y122 z122 st122 hQ122
          subst l122 y122 z122
          obtain ⟨⟨rm, rfl⟩, Nd, Kd⟩ := hQ122
          have c122 : Steps p.tables e below S0 (T122.setTop (mkF m 118 #[.val (.int i0), .val (.int i1), .val (.int i2), .val (.int i3), .val (.int f1), .val (.int f2), .val (.int f3), .val (.int f4), .val .null, .val (.ref b114), .unset, .unset, .unset] [(.ref rm)])) := by
            refine c121.trans ?_
            show Steps p.tables e below (T117.setTop (mkF m 115 #[.val (.int i0), .val (.int i1), .val (.int i2), .val (.int i3), .val (.int f1), .val (.int f2), .val (.int f3), .val (.int f4), .val .null, .val (.ref b114), .unset, .unset, .unset] [(.int i2)])) _
            refine st122 _ ?_
            exact Steps.refl _
          have hRs122 := CHr.keep Kd (fun x hx => by cases hx) hR.1
          have hR := hR.trans hRs122
          have Zh := Nat.le_trans Zh Kd.1
          have hk := Nat.le_trans hk Kd.1
          have hO := hO.keep Kd (fun x hx => by cases hx)
          have Nf := Fr.app Nf Nd
          have c123 : Steps p.tables e below S0 (T122.setTop (mkF m 120 #[.val (.int i0), .val (.int i1), .val (.int i2), .val (.int i3), .val (.int f1), .val (.int f2), .val (.int f3), .val (.int f4), .val .null, .val (.ref b114), .val (.ref rm), .unset, .unset] [])) := by
            refine c122.trans ?_
            show Steps p.tables e below (T122.setTop (mkF m 118 #[.val (.int i0), .val (.int i1), .val (.int i2), .val (.int i3), .val (.int f1), .val (.int f2), .val (.int f3), .val (.int f4), .val .null, .val (.ref b114), .unset, .unset, .unset] [(.ref rm)])) _
            refine XS.astore X122.here hx rfl (hb hby at_118) rfl rfl (l' := #[.val (.int i0), .val (.int i1), .val (.int i2), .val (.int i3), .val (.int f1), .val (.int f2), .val (.int f3), .val (.int f4), .val .null, .val (.ref b114), .val (.ref rm), .unset, .unset]) rfl ?_
            exact Steps.refl _
          obtain ⟨T124, h124, X124, e124, E124, A124, D124, -, st124⟩ := newO X122 hx hZ hown (hw _ (List.mem_of_getElem? (i := 34) rfl)) (hw _ (List.mem_of_getElem? (i := 35) rfl)) (hw _ (List.mem_of_getElem? (i := 36) rfl)) rfl (g := (mkF m 120 #[.val (.int i0), .val (.int i1), .val (.int i2), .val (.int i3), .val (.int f1), .val (.int f2), .val (.int f3), .val (.int f4), .val .null, .val (.ref b114), .val (.ref rm), .unset, .unset] [])) rfl (hb hby at_120) (by decide) (by decide)
          obtain ⟨b124, g124⟩ : ∃ z, z = T122.heap.size := ⟨_, rfl⟩
          rw [← g124] at A124 D124 st124
          have c124 : Steps p.tables e below S0 (T124.setTop (mkF m 123 #[.val (.int i0), .val (.int i1), .val (.int i2), .val (.int i3), .val (.int f1), .val (.int f2), .val (.int f3), .val (.int f4), .val .null, .val (.ref b114), .val (.ref rm), .unset, .unset] [(.ref b124)])) := by
            refine c123.trans ?_
            show Steps p.tables e below (T122.setTop (mkF m 120 #[.val (.int i0), .val (.int i1), .val (.int i2), .val (.int i3), .val (.int f1), .val (.int f2), .val (.int f3), .val (.int f4), .val .null, .val (.ref b114), .val (.ref rm), .unset, .unset] [])) _
            refine st124 _ ?_
            exact Steps.refl _
          have Sf_b124 := Safe.ext E124 hR.1 (Safe.new (Nat.le_of_eq g124.symm))
          have gb124 : n0 ≤ b124 := Nat.le_trans Zh (Nat.le_of_eq g124.symm)
          have hRs124 := CHr.ext E124 hR.1
          have hR := hR.trans hRs124
          have Zh := Nat.le_trans Zh E124.1
          have hk := Nat.le_trans hk E124.1
          have Gc : Fld Z h124 b124 "com/example/attestry/attestry/saml/Status" "code" "Ljava/lang/String;" .null := D124 (Or.inr (hw _ (List.mem_of_getElem? (i := 47) rfl))) (ty := (.object "java/lang/String")) (by decide)
          have Gs : Fld Z h124 b124 "com/example/attestry/attestry/saml/Status" "subcode" "Ljava/lang/String;" .null := D124 (Or.inr (hw _ (List.mem_of_getElem? (i := 49) rfl))) (ty := (.object "java/lang/String")) (by decide)
          have Gm : Fld Z h124 b124 "com/example/attestry/attestry/saml/Status" "message" "Ljava/lang/String;" .null := D124 (Or.inr (hw _ (List.mem_of_getElem? (i := 51) rfl))) (ty := (.object "java/lang/String")) (by decide)
          have c125 : Steps p.tables e below S0 (T124.setTop (mkF m 130 #[.val (.int i0), .val (.int i1), .val (.int i2), .val (.int i3), .val (.int f1), .val (.int f2), .val (.int f3), .val (.int f4), .val .null, .val (.ref b114), .val (.ref rm), .unset, .unset] [(.ref rm), (.ref b114), .null, (.ref b124), (.ref b124)])) := by
            refine c124.trans ?_
            show Steps p.tables e below (T124.setTop (mkF m 123 #[.val (.int i0), .val (.int i1), .val (.int i2), .val (.int i3), .val (.int f1), .val (.int f2), .val (.int f3), .val (.int f4), .val .null, .val (.ref b114), .val (.ref rm), .unset, .unset] [(.ref b124)])) _
            refine XS.dup X124.here hx rfl (hb hby at_123) rfl rfl ?_
            show Steps p.tables e below (T124.setTop (mkF m 124 #[.val (.int i0), .val (.int i1), .val (.int i2), .val (.int i3), .val (.int f1), .val (.int f2), .val (.int f3), .val (.int f4), .val .null, .val (.ref b114), .val (.ref rm), .unset, .unset] [(.ref b124), (.ref b124)])) _
            refine XS.aload X124.here hx rfl (hb hby at_124) rfl rfl ?_
            show Steps p.tables e below (T124.setTop (mkF m 126 #[.val (.int i0), .val (.int i1), .val (.int i2), .val (.int i3), .val (.int f1), .val (.int f2), .val (.int f3), .val (.int f4), .val .null, .val (.ref b114), .val (.ref rm), .unset, .unset] [.null, (.ref b124), (.ref b124)])) _
            refine XS.aload X124.here hx rfl (hb hby at_126) rfl rfl ?_
            show Steps p.tables e below (T124.setTop (mkF m 128 #[.val (.int i0), .val (.int i1), .val (.int i2), .val (.int i3), .val (.int f1), .val (.int f2), .val (.int f3), .val (.int f4), .val .null, .val (.ref b114), .val (.ref rm), .unset, .unset] [(.ref b114), .null, (.ref b124), (.ref b124)])) _
            refine XS.aload X124.here hx rfl (hb hby at_128) rfl rfl ?_
            exact Steps.refl _
          obtain ⟨_, _, ⟨T126, L126, k126, n126⟩, -, X126, ⟨Lc126, hQ126, l126, y126, z126⟩, st126⟩ := X124.specialBack hx (y := (⟨"com/example/attestry/attestry/saml/Status", "<init>", "(Ljava/lang/String;Ljava/lang/String;Ljava/lang/String;)V"⟩ : MethodName)) rfl hown (mvT hZ (hw _ (List.mem_of_getElem? (i := 37) rfl))) (mvT hZ (hw _ (List.mem_of_getElem? (i := 38) rfl))) (mvT hZ (hw _ (List.mem_of_getElem? (i := 39) rfl))) (by decide) (backOf (W := 1) (rm58 l Z a0 hw [] b124 .null (.ref b114) (.ref rm) h124 n0 Zh rfl rfl rfl A124 Gc Gs Gm gb124) hZ (hw _ (List.mem_of_getElem? (i := 39) rfl)) (hw _ (List.mem_of_getElem? (i := 36) rfl)) (by decide) (by decide)) (g := (mkF m 130 #[.val (.int i0), .val (.int i1), .val (.int i2), .val (.int i3), .val (.int f1), .val (.int f2), .val (.int f3), .val (.int f4), .val .null, .val (.ref b114), .val (.ref rm), .unset, .unset] [(.ref rm), (.ref b114), .null, (.ref b124), (.ref b124)])) rfl (by rw [hml]; rfl) (Steps.refl _) (a := b124) (argsL := [.null, (.ref b114), (.ref rm)]) (rest := [(.ref b124)]) (lenOf pd4 rfl) rfl (by show 2 * 0 + _ ≤ _; exact Nat.le_of_eq rfl) (hb hby at_130) (fun _ _ => ⟨rfl, e124, (by decide : 10 + 0 ≤ _), (by decide : 23 + 0 ≤ _)⟩)
          dsimp only [Pt.U, Pt.locs, Pt.cells, Pt.slots] at X126 l126 y126 z126 st126 hQ126
          subst l126 y126 z126
          obtain ⟨rfl, Nt, Kt, At, Tc, Ts⟩ := hQ126
          have c126 : Steps p.tables e below S0 (T126.setTop (mkF m 133 #[.val (.int i0), .val (.int i1), .val (.int i2), .val (.int i3), .val (.int f1), .val (.int f2), .val (.int f3), .val (.int f4), .val .null, .val (.ref b114), .val (.ref rm), .unset, .unset] [(.ref b124)])) := by
            refine c125.trans ?_
            show Steps p.tables e below (T124.setTop (mkF m 130 #[.val (.int i0), .val (.int i1), .val (.int i2), .val (.int i3), .val (.int f1), .val (.int f2), .val (.int f3), .val (.int f4), .val .null, .val (.ref b114), .val (.ref rm), .unset, .unset] [(.ref rm), (.ref b114), .null, (.ref b124), (.ref b124)])) _
            refine st126.trans ?_
            exact Steps.refl _
          have Nf := Fr.app Nf Nt
          have hRs126 := CHr.keep Kt (fun x hx => by cases List.mem_singleton.mp hx; exact Sf_b124) hR.1
          have hR := hR.trans hRs126
          have Zh := Nat.le_trans Zh Kt.1
          have hk := Nat.le_trans hk Kt.1
          have c127 : Steps p.tables e below S0 (T126.setTop (mkF m 137 #[.val (.int i0), .val (.int i1), .val (.int i2), .val (.int i3), .val (.int f1), .val (.int f2), .val (.int f3), .val (.int f4), .val .null, .val (.ref b114), .val (.ref rm), .val (.ref b124), .unset] [(.ref b124)])) := by
            refine c126.trans ?_
            show Steps p.tables e below (T126.setTop (mkF m 133 #[.val (.int i0), .val (.int i1), .val (.int i2), .val (.int i3), .val (.int f1), .val (.int f2), .val (.int f3), .val (.int f4), .val .null, .val (.ref b114), .val (.ref rm), .unset, .unset] [(.ref b124)])) _
            refine XS.astore X126.here hx rfl (hb hby at_133) rfl rfl (l' := #[.val (.int i0), .val (.int i1), .val (.int i2), .val (.int i3), .val (.int f1), .val (.int f2), .val (.int f3), .val (.int f4), .val .null, .val (.ref b114), .val (.ref rm), .val (.ref b124), .unset]) rfl ?_
            show Steps p.tables e below (T126.setTop (mkF m 135 #[.val (.int i0), .val (.int i1), .val (.int i2), .val (.int i3), .val (.int f1), .val (.int f2), .val (.int f3), .val (.int f4), .val .null, .val (.ref b114), .val (.ref rm), .val (.ref b124), .unset] [])) _
            refine XS.aload X126.here hx rfl (hb hby at_135) rfl rfl ?_
            exact Steps.refl _
          obtain ⟨cq128, kq128, q128a, q128b, q128c⟩ := isOf hZ rfl At
          obtain ⟨_, _, ⟨T128, L128, k128, n128⟩, -, X128, ⟨Lc128, hQ128, l128, y128, z128⟩, st128⟩ := X126.virtualBack hx (y := (⟨"com/example/attestry/attestry/saml/Status", "innermostCode", "()Ljava/lang/String;"⟩ : MethodName)) (z := (⟨"com/example/attestry/attestry/saml/Status", "innermostCode", "()Ljava/lang/String;"⟩ : MethodName)) hown (mvT hZ (hw _ (List.mem_of_getElem? (i := 52) rfl))) (mvT hZ (hw _ (List.mem_of_getElem? (i := 53) rfl))) (notFace_of_selects (args := #[]) (mvT hZ (hw _ (List.mem_of_getElem? (i := 55) rfl)))) (mvT hZ (hw _ (List.mem_of_getElem? (i := 55) rfl))) (mvT hZ (hw _ (List.mem_of_getElem? (i := 54) rfl))) (by decide) (backOf (W := 0) (rm585 l Z a0 hw [] b124 .null (.ref b114) T126.heap n0 Zh rfl rfl Tc Ts) hZ (hw _ (List.mem_of_getElem? (i := 56) rfl)) (hw _ (List.mem_of_getElem? (i := 36) rfl)) (by decide) (by decide)) q128a q128c (g := (mkF m 137 #[.val (.int i0), .val (.int i1), .val (.int i2), .val (.int i3), .val (.int f1), .val (.int f2), .val (.int f3), .val (.int f4), .val .null, .val (.ref b114), .val (.ref rm), .val (.ref b124), .unset] [(.ref b124)])) rfl (by rw [hml]; rfl) (Steps.refl _) (argsL := []) (rest := []) (lenOf pd5 rfl) rfl (by show 2 * 0 + _ ≤ _; exact Nat.le_of_eq rfl) (hb hby at_137) (fun _ _ => ⟨rfl, rfl, (by decide : 10 + 0 ≤ _), (by decide : 23 + 0 ≤ _)⟩)
          dsimp only [Pt.U, Pt.locs, Pt.cells, Pt.slots] at X128 l128 y128 z128 st128 hQ128
          subst l128 y128 z128
          obtain ⟨rfl, Nu, eu⟩ := hQ128
          have c128 : Steps p.tables e below S0 (T128.setTop (mkF m 140 #[.val (.int i0), .val (.int i1), .val (.int i2), .val (.int i3), .val (.int f1), .val (.int f2), .val (.int f3), .val (.int f4), .val .null, .val (.ref b114), .val (.ref rm), .val (.ref b124), .unset] [(.ref b114)])) := by
            refine c127.trans ?_
            show Steps p.tables e below (T126.setTop (mkF m 137 #[.val (.int i0), .val (.int i1), .val (.int i2), .val (.int i3), .val (.int f1), .val (.int f2), .val (.int f3), .val (.int f4), .val .null, .val (.ref b114), .val (.ref rm), .val (.ref b124), .unset] [(.ref b124)])) _
            refine st128.trans ?_
            exact Steps.refl _
          have c129 : Steps p.tables e below S0 (T128.setTop (mkF m 142 #[.val (.int i0), .val (.int i1), .val (.int i2), .val (.int i3), .val (.int f1), .val (.int f2), .val (.int f3), .val (.int f4), .val .null, .val (.ref b114), .val (.ref rm), .val (.ref b124), .val (.ref b114)] [])) := by
            refine c128.trans ?_
            show Steps p.tables e below (T128.setTop (mkF m 140 #[.val (.int i0), .val (.int i1), .val (.int i2), .val (.int i3), .val (.int f1), .val (.int f2), .val (.int f3), .val (.int f4), .val .null, .val (.ref b114), .val (.ref rm), .val (.ref b124), .unset] [(.ref b114)])) _
            refine XS.astore X128.here hx rfl (hb hby at_140) rfl rfl (l' := #[.val (.int i0), .val (.int i1), .val (.int i2), .val (.int i3), .val (.int f1), .val (.int f2), .val (.int f3), .val (.int f4), .val .null, .val (.ref b114), .val (.ref rm), .val (.ref b124), .val (.ref b114)]) rfl ?_
            exact Steps.refl _
          have c130 : Steps p.tables e below S0 (T128.setTop (mkF m 159 #[.val (.int i0), .val (.int i1), .val (.int i2), .val (.int i3), .val (.int f1), .val (.int f2), .val (.int f3), .val (.int f4), .val .null, .val (.ref b114), .val (.ref rm), .val (.ref b124), .val (.ref b114)] [(.int (1 : Int32))])) := by
            refine c129.trans ?_
            show Steps p.tables e below (T128.setTop (mkF m 142 #[.val (.int i0), .val (.int i1), .val (.int i2), .val (.int i3), .val (.int f1), .val (.int f2), .val (.int f3), .val (.int f4), .val .null, .val (.ref b114), .val (.ref rm), .val (.ref b124), .val (.ref b114)] [])) _
            refine XS.aload X128.here hx rfl (hb hby at_142) rfl rfl ?_
            show Steps p.tables e below (T128.setTop (mkF m 144 #[.val (.int i0), .val (.int i1), .val (.int i2), .val (.int i3), .val (.int f1), .val (.int f2), .val (.int f3), .val (.int f4), .val .null, .val (.ref b114), .val (.ref rm), .val (.ref b124), .val (.ref b114)] [(.ref b114)])) _
            refine XS.ifnullNo X128.here hx rfl (hb hby at_144) rfl ?_
            show Steps p.tables e below (T128.setTop (mkF m 147 #[.val (.int i0), .val (.int i1), .val (.int i2), .val (.int i3), .val (.int f1), .val (.int f2), .val (.int f3), .val (.int f4), .val .null, .val (.ref b114), .val (.ref rm), .val (.ref b124), .val (.ref b114)] [])) _
            refine XS.aload X128.here hx rfl (hb hby at_147) rfl rfl ?_
            show Steps p.tables e below (T128.setTop (mkF m 149 #[.val (.int i0), .val (.int i1), .val (.int i2), .val (.int i3), .val (.int f1), .val (.int f2), .val (.int f3), .val (.int f4), .val .null, .val (.ref b114), .val (.ref rm), .val (.ref b124), .val (.ref b114)] [(.ref b114)])) _
            refine XS.aload X128.here hx rfl (hb hby at_149) rfl rfl ?_
            show Steps p.tables e below (T128.setTop (mkF m 151 #[.val (.int i0), .val (.int i1), .val (.int i2), .val (.int i3), .val (.int f1), .val (.int f2), .val (.int f3), .val (.int f4), .val .null, .val (.ref b114), .val (.ref rm), .val (.ref b124), .val (.ref b114)] [(.ref b114), (.ref b114)])) _
            refine Jvm.RoadKit.acmp (g := (mkF m 151 #[.val (.int i0), .val (.int i1), .val (.int i2), .val (.int i3), .val (.int f1), .val (.int f2), .val (.int f3), .val (.int f4), .val .null, .val (.ref b114), .val (.ref rm), .val (.ref b124), .val (.ref b114)] [(.ref b114), (.ref b114)])) X128 hx rfl rfl rfl (pc0 := 151) (pc' := 154) (same := true) rfl (hb hby at_151) rfl (decide_eq_true rfl) (by decide) (by decide) ?_
            show Steps p.tables e below (T128.setTop (mkF m 154 #[.val (.int i0), .val (.int i1), .val (.int i2), .val (.int i3), .val (.int f1), .val (.int f2), .val (.int f3), .val (.int f4), .val .null, .val (.ref b114), .val (.ref rm), .val (.ref b124), .val (.ref b114)] [])) _
            refine XS.iconst X128.here hx rfl (hb hby at_154) ?_
            show Steps p.tables e below (T128.setTop (mkF m 155 #[.val (.int i0), .val (.int i1), .val (.int i2), .val (.int i3), .val (.int f1), .val (.int f2), .val (.int f3), .val (.int f4), .val .null, .val (.ref b114), .val (.ref rm), .val (.ref b124), .val (.ref b114)] [(.int (1 : Int32))])) _
            refine XS.goto X128.here hx rfl (pc0 := 155) (pc' := 159) rfl (hb hby at_155) (by decide) (by decide) ?_
            exact Steps.refl _
          obtain ⟨fs, hr, hrun, hended, hW⟩ := X128.leaveW hS (by rw [eu]; exact hk) (v := some (.int 1)) (fun h => by rw [Bd.returns] at h; cases h)
          refine ⟨_, _, c130.trans ?_, hrun, hended, _, _, rfl, ?_, ?_, hW.1, hW.2.1, hW.2.2.1, hW.2.2.2.mono (by decide) (by decide)⟩
          · show Steps p.tables e below (T128.setTop (mkF m 159 #[.val (.int i0), .val (.int i1), .val (.int i2), .val (.int i3), .val (.int f1), .val (.int f2), .val (.int f3), .val (.int f4), .val .null, .val (.ref b114), .val (.ref rm), .val (.ref b124), .val (.ref b114)] [(.int (1 : Int32))])) _
            exact retN X128 hx (t := .boolean) Bd.returns (by simp) (hb hby at_159) hr
          · show Q0 Z i0 i1 i2 i3 G1 h0 n0 _ T128.heap _
            rw [eu]
            exact ⟨rfl, Fr.app Nf Nu⟩
          · show CHr Z consts_1 s.vm s.heap T128.vm T128.heap
            rw [hh, eu, ← hV0]
            exact hR.trans (CHv.at X128 hZ hEL hR.1)
        · have c131 : Steps p.tables e below S0 (T117.setTop (mkF m 120 #[.val (.int i0), .val (.int i1), .val (.int i2), .val (.int i3), .val (.int f1), .val (.int f2), .val (.int f3), .val (.int f4), .val .null, .val (.ref b114), .val .null, .unset, .unset] [])) := by
            refine c119.trans ?_
            show Steps p.tables e below (T117.setTop (mkF m 107 #[.val (.int i0), .val (.int i1), .val (.int i2), .val (.int i3), .val (.int f1), .val (.int f2), .val (.int f3), .val (.int f4), .val .null, .val (.ref b114), .unset, .unset, .unset] [(.int f4)])) _
            refine XS.ifNo X117.here hx rfl (hb hby at_107) rfl ((if0 _ _).trans (feq hm).1) ?_
            show Steps p.tables e below (T117.setTop (mkF m 110 #[.val (.int i0), .val (.int i1), .val (.int i2), .val (.int i3), .val (.int f1), .val (.int f2), .val (.int f3), .val (.int f4), .val .null, .val (.ref b114), .unset, .unset, .unset] [])) _
            refine XS.aconstNull X117.here hx rfl (hb hby at_110) ?_
            show Steps p.tables e below (T117.setTop (mkF m 111 #[.val (.int i0), .val (.int i1), .val (.int i2), .val (.int i3), .val (.int f1), .val (.int f2), .val (.int f3), .val (.int f4), .val .null, .val (.ref b114), .unset, .unset, .unset] [.null])) _
            refine XS.goto X117.here hx rfl (pc0 := 111) (pc' := 118) rfl (hb hby at_111) (by decide) (by decide) ?_
            show Steps p.tables e below (T117.setTop (mkF m 118 #[.val (.int i0), .val (.int i1), .val (.int i2), .val (.int i3), .val (.int f1), .val (.int f2), .val (.int f3), .val (.int f4), .val .null, .val (.ref b114), .unset, .unset, .unset] [.null])) _
            refine XS.astore X117.here hx rfl (hb hby at_118) rfl rfl (l' := #[.val (.int i0), .val (.int i1), .val (.int i2), .val (.int i3), .val (.int f1), .val (.int f2), .val (.int f3), .val (.int f4), .val .null, .val (.ref b114), .val .null, .unset, .unset]) rfl ?_
            exact Steps.refl _
          obtain ⟨T132, h132, X132, e132, E132, A132, D132, -, st132⟩ := newO X117 hx hZ hown (hw _ (List.mem_of_getElem? (i := 34) rfl)) (hw _ (List.mem_of_getElem? (i := 35) rfl)) (hw _ (List.mem_of_getElem? (i := 36) rfl)) rfl (g := (mkF m 120 #[.val (.int i0), .val (.int i1), .val (.int i2), .val (.int i3), .val (.int f1), .val (.int f2), .val (.int f3), .val (.int f4), .val .null, .val (.ref b114), .val .null, .unset, .unset] [])) rfl (hb hby at_120) (by decide) (by decide)
          obtain ⟨b132, g132⟩ : ∃ z, z = T117.heap.size := ⟨_, rfl⟩
          rw [← g132] at A132 D132 st132
          have c132 : Steps p.tables e below S0 (T132.setTop (mkF m 123 #[.val (.int i0), .val (.int i1), .val (.int i2), .val (.int i3), .val (.int f1), .val (.int f2), .val (.int f3), .val (.int f4), .val .null, .val (.ref b114), .val .null, .unset, .unset] [(.ref b132)])) := by
            refine c131.trans ?_
            show Steps p.tables e below (T117.setTop (mkF m 120 #[.val (.int i0), .val (.int i1), .val (.int i2), .val (.int i3), .val (.int f1), .val (.int f2), .val (.int f3), .val (.int f4), .val .null, .val (.ref b114), .val .null, .unset, .unset] [])) _
            refine st132 _ ?_
            exact Steps.refl _
          have Sf_b132 := Safe.ext E132 hR.1 (Safe.new (Nat.le_of_eq g132.symm))
          have gb132 : n0 ≤ b132 := Nat.le_trans Zh (Nat.le_of_eq g132.symm)
          have hRs132 := CHr.ext E132 hR.1
          have hR := hR.trans hRs132
          have Zh := Nat.le_trans Zh E132.1
          have hk := Nat.le_trans hk E132.1
          have Gc : Fld Z h132 b132 "com/example/attestry/attestry/saml/Status" "code" "Ljava/lang/String;" .null := D132 (Or.inr (hw _ (List.mem_of_getElem? (i := 47) rfl))) (ty := (.object "java/lang/String")) (by decide)
          have Gs : Fld Z h132 b132 "com/example/attestry/attestry/saml/Status" "subcode" "Ljava/lang/String;" .null := D132 (Or.inr (hw _ (List.mem_of_getElem? (i := 49) rfl))) (ty := (.object "java/lang/String")) (by decide)
          have Gm : Fld Z h132 b132 "com/example/attestry/attestry/saml/Status" "message" "Ljava/lang/String;" .null := D132 (Or.inr (hw _ (List.mem_of_getElem? (i := 51) rfl))) (ty := (.object "java/lang/String")) (by decide)
          have c133 : Steps p.tables e below S0 (T132.setTop (mkF m 130 #[.val (.int i0), .val (.int i1), .val (.int i2), .val (.int i3), .val (.int f1), .val (.int f2), .val (.int f3), .val (.int f4), .val .null, .val (.ref b114), .val .null, .unset, .unset] [.null, (.ref b114), .null, (.ref b132), (.ref b132)])) := by
            refine c132.trans ?_
            show Steps p.tables e below (T132.setTop (mkF m 123 #[.val (.int i0), .val (.int i1), .val (.int i2), .val (.int i3), .val (.int f1), .val (.int f2), .val (.int f3), .val (.int f4), .val .null, .val (.ref b114), .val .null, .unset, .unset] [(.ref b132)])) _
            refine XS.dup X132.here hx rfl (hb hby at_123) rfl rfl ?_
            show Steps p.tables e below (T132.setTop (mkF m 124 #[.val (.int i0), .val (.int i1), .val (.int i2), .val (.int i3), .val (.int f1), .val (.int f2), .val (.int f3), .val (.int f4), .val .null, .val (.ref b114), .val .null, .unset, .unset] [(.ref b132), (.ref b132)])) _
            refine XS.aload X132.here hx rfl (hb hby at_124) rfl rfl ?_
            show Steps p.tables e below (T132.setTop (mkF m 126 #[.val (.int i0), .val (.int i1), .val (.int i2), .val (.int i3), .val (.int f1), .val (.int f2), .val (.int f3), .val (.int f4), .val .null, .val (.ref b114), .val .null, .unset, .unset] [.null, (.ref b132), (.ref b132)])) _
            refine XS.aload X132.here hx rfl (hb hby at_126) rfl rfl ?_
            show Steps p.tables e below (T132.setTop (mkF m 128 #[.val (.int i0), .val (.int i1), .val (.int i2), .val (.int i3), .val (.int f1), .val (.int f2), .val (.int f3), .val (.int f4), .val .null, .val (.ref b114), .val .null, .unset, .unset] [(.ref b114), .null, (.ref b132), (.ref b132)])) _
            refine XS.aload X132.here hx rfl (hb hby at_128) rfl rfl ?_
            exact Steps.refl _
          obtain ⟨_, _, ⟨T134, L134, k134, n134⟩, -, X134, ⟨Lc134, hQ134, l134, y134, z134⟩, st134⟩ := X132.specialBack hx (y := (⟨"com/example/attestry/attestry/saml/Status", "<init>", "(Ljava/lang/String;Ljava/lang/String;Ljava/lang/String;)V"⟩ : MethodName)) rfl hown (mvT hZ (hw _ (List.mem_of_getElem? (i := 37) rfl))) (mvT hZ (hw _ (List.mem_of_getElem? (i := 38) rfl))) (mvT hZ (hw _ (List.mem_of_getElem? (i := 39) rfl))) (by decide) (backOf (W := 1) (rm58 l Z a0 hw [] b132 .null (.ref b114) .null h132 n0 Zh rfl rfl rfl A132 Gc Gs Gm gb132) hZ (hw _ (List.mem_of_getElem? (i := 39) rfl)) (hw _ (List.mem_of_getElem? (i := 36) rfl)) (by decide) (by decide)) (g := (mkF m 130 #[.val (.int i0), .val (.int i1), .val (.int i2), .val (.int i3), .val (.int f1), .val (.int f2), .val (.int f3), .val (.int f4), .val .null, .val (.ref b114), .val .null, .unset, .unset] [.null, (.ref b114), .null, (.ref b132), (.ref b132)])) rfl (by rw [hml]; rfl) (Steps.refl _) (a := b132) (argsL := [.null, (.ref b114), .null]) (rest := [(.ref b132)]) (lenOf pd4 rfl) rfl (by show 2 * 0 + _ ≤ _; exact Nat.le_of_eq rfl) (hb hby at_130) (fun _ _ => ⟨rfl, e132, (by decide : 7 + 0 ≤ _), (by decide : 15 + 0 ≤ _)⟩)
          dsimp only [Pt.U, Pt.locs, Pt.cells, Pt.slots] at X134 l134 y134 z134 st134 hQ134
          subst l134 y134 z134
          obtain ⟨rfl, Nt, Kt, At, Tc, Ts⟩ := hQ134
          have c134 : Steps p.tables e below S0 (T134.setTop (mkF m 133 #[.val (.int i0), .val (.int i1), .val (.int i2), .val (.int i3), .val (.int f1), .val (.int f2), .val (.int f3), .val (.int f4), .val .null, .val (.ref b114), .val .null, .unset, .unset] [(.ref b132)])) := by
            refine c133.trans ?_
            show Steps p.tables e below (T132.setTop (mkF m 130 #[.val (.int i0), .val (.int i1), .val (.int i2), .val (.int i3), .val (.int f1), .val (.int f2), .val (.int f3), .val (.int f4), .val .null, .val (.ref b114), .val .null, .unset, .unset] [.null, (.ref b114), .null, (.ref b132), (.ref b132)])) _
            refine st134.trans ?_
            exact Steps.refl _
          have Nf := Fr.app Nf Nt
          have hRs134 := CHr.keep Kt (fun x hx => by cases List.mem_singleton.mp hx; exact Sf_b132) hR.1
          have hR := hR.trans hRs134
          have Zh := Nat.le_trans Zh Kt.1
          have hk := Nat.le_trans hk Kt.1
          have c135 : Steps p.tables e below S0 (T134.setTop (mkF m 137 #[.val (.int i0), .val (.int i1), .val (.int i2), .val (.int i3), .val (.int f1), .val (.int f2), .val (.int f3), .val (.int f4), .val .null, .val (.ref b114), .val .null, .val (.ref b132), .unset] [(.ref b132)])) := by
            refine c134.trans ?_
            show Steps p.tables e below (T134.setTop (mkF m 133 #[.val (.int i0), .val (.int i1), .val (.int i2), .val (.int i3), .val (.int f1), .val (.int f2), .val (.int f3), .val (.int f4), .val .null, .val (.ref b114), .val .null, .unset, .unset] [(.ref b132)])) _
            refine XS.astore X134.here hx rfl (hb hby at_133) rfl rfl (l' := #[.val (.int i0), .val (.int i1), .val (.int i2), .val (.int i3), .val (.int f1), .val (.int f2), .val (.int f3), .val (.int f4), .val .null, .val (.ref b114), .val .null, .val (.ref b132), .unset]) rfl ?_
            show Steps p.tables e below (T134.setTop (mkF m 135 #[.val (.int i0), .val (.int i1), .val (.int i2), .val (.int i3), .val (.int f1), .val (.int f2), .val (.int f3), .val (.int f4), .val .null, .val (.ref b114), .val .null, .val (.ref b132), .unset] [])) _
            refine XS.aload X134.here hx rfl (hb hby at_135) rfl rfl ?_
            exact Steps.refl _
          obtain ⟨cq136, kq136, q136a, q136b, q136c⟩ := isOf hZ rfl At
          obtain ⟨_, _, ⟨T136, L136, k136, n136⟩, -, X136, ⟨Lc136, hQ136, l136, y136, z136⟩, st136⟩ := X134.virtualBack hx (y := (⟨"com/example/attestry/attestry/saml/Status", "innermostCode", "()Ljava/lang/String;"⟩ : MethodName)) (z := (⟨"com/example/attestry/attestry/saml/Status", "innermostCode", "()Ljava/lang/String;"⟩ : MethodName)) hown (mvT hZ (hw _ (List.mem_of_getElem? (i := 52) rfl))) (mvT hZ (hw _ (List.mem_of_getElem? (i := 53) rfl))) (notFace_of_selects (args := #[]) (mvT hZ (hw _ (List.mem_of_getElem? (i := 55) rfl)))) (mvT hZ (hw _ (List.mem_of_getElem? (i := 55) rfl))) (mvT hZ (hw _ (List.mem_of_getElem? (i := 54) rfl))) (by decide) (backOf (W := 0) (rm585 l Z a0 hw [] b132 .null (.ref b114) T134.heap n0 Zh rfl rfl Tc Ts) hZ (hw _ (List.mem_of_getElem? (i := 56) rfl)) (hw _ (List.mem_of_getElem? (i := 36) rfl)) (by decide) (by decide)) q136a q136c (g := (mkF m 137 #[.val (.int i0), .val (.int i1), .val (.int i2), .val (.int i3), .val (.int f1), .val (.int f2), .val (.int f3), .val (.int f4), .val .null, .val (.ref b114), .val .null, .val (.ref b132), .unset] [(.ref b132)])) rfl (by rw [hml]; rfl) (Steps.refl _) (argsL := []) (rest := []) (lenOf pd5 rfl) rfl (by show 2 * 0 + _ ≤ _; exact Nat.le_of_eq rfl) (hb hby at_137) (fun _ _ => ⟨rfl, rfl, (by decide : 7 + 0 ≤ _), (by decide : 15 + 0 ≤ _)⟩)
          dsimp only [Pt.U, Pt.locs, Pt.cells, Pt.slots] at X136 l136 y136 z136 st136 hQ136
          subst l136 y136 z136
          obtain ⟨rfl, Nu, eu⟩ := hQ136
          have c136 : Steps p.tables e below S0 (T136.setTop (mkF m 140 #[.val (.int i0), .val (.int i1), .val (.int i2), .val (.int i3), .val (.int f1), .val (.int f2), .val (.int f3), .val (.int f4), .val .null, .val (.ref b114), .val .null, .val (.ref b132), .unset] [(.ref b114)])) := by
            refine c135.trans ?_
            show Steps p.tables e below (T134.setTop (mkF m 137 #[.val (.int i0), .val (.int i1), .val (.int i2), .val (.int i3), .val (.int f1), .val (.int f2), .val (.int f3), .val (.int f4), .val .null, .val (.ref b114), .val .null, .val (.ref b132), .unset] [(.ref b132)])) _
            refine st136.trans ?_
            exact Steps.refl _
          have c137 : Steps p.tables e below S0 (T136.setTop (mkF m 142 #[.val (.int i0), .val (.int i1), .val (.int i2), .val (.int i3), .val (.int f1), .val (.int f2), .val (.int f3), .val (.int f4), .val .null, .val (.ref b114), .val .null, .val (.ref b132), .val (.ref b114)] [])) := by
            refine c136.trans ?_
            show Steps p.tables e below (T136.setTop (mkF m 140 #[.val (.int i0), .val (.int i1), .val (.int i2), .val (.int i3), .val (.int f1), .val (.int f2), .val (.int f3), .val (.int f4), .val .null, .val (.ref b114), .val .null, .val (.ref b132), .unset] [(.ref b114)])) _
            refine XS.astore X136.here hx rfl (hb hby at_140) rfl rfl (l' := #[.val (.int i0), .val (.int i1), .val (.int i2), .val (.int i3), .val (.int f1), .val (.int f2), .val (.int f3), .val (.int f4), .val .null, .val (.ref b114), .val .null, .val (.ref b132), .val (.ref b114)]) rfl ?_
            exact Steps.refl _
          have c138 : Steps p.tables e below S0 (T136.setTop (mkF m 159 #[.val (.int i0), .val (.int i1), .val (.int i2), .val (.int i3), .val (.int f1), .val (.int f2), .val (.int f3), .val (.int f4), .val .null, .val (.ref b114), .val .null, .val (.ref b132), .val (.ref b114)] [(.int (1 : Int32))])) := by
            refine c137.trans ?_
            show Steps p.tables e below (T136.setTop (mkF m 142 #[.val (.int i0), .val (.int i1), .val (.int i2), .val (.int i3), .val (.int f1), .val (.int f2), .val (.int f3), .val (.int f4), .val .null, .val (.ref b114), .val .null, .val (.ref b132), .val (.ref b114)] [])) _
            refine XS.aload X136.here hx rfl (hb hby at_142) rfl rfl ?_
            show Steps p.tables e below (T136.setTop (mkF m 144 #[.val (.int i0), .val (.int i1), .val (.int i2), .val (.int i3), .val (.int f1), .val (.int f2), .val (.int f3), .val (.int f4), .val .null, .val (.ref b114), .val .null, .val (.ref b132), .val (.ref b114)] [(.ref b114)])) _
            refine XS.ifnullNo X136.here hx rfl (hb hby at_144) rfl ?_
            show Steps p.tables e below (T136.setTop (mkF m 147 #[.val (.int i0), .val (.int i1), .val (.int i2), .val (.int i3), .val (.int f1), .val (.int f2), .val (.int f3), .val (.int f4), .val .null, .val (.ref b114), .val .null, .val (.ref b132), .val (.ref b114)] [])) _
            refine XS.aload X136.here hx rfl (hb hby at_147) rfl rfl ?_
            show Steps p.tables e below (T136.setTop (mkF m 149 #[.val (.int i0), .val (.int i1), .val (.int i2), .val (.int i3), .val (.int f1), .val (.int f2), .val (.int f3), .val (.int f4), .val .null, .val (.ref b114), .val .null, .val (.ref b132), .val (.ref b114)] [(.ref b114)])) _
            refine XS.aload X136.here hx rfl (hb hby at_149) rfl rfl ?_
            show Steps p.tables e below (T136.setTop (mkF m 151 #[.val (.int i0), .val (.int i1), .val (.int i2), .val (.int i3), .val (.int f1), .val (.int f2), .val (.int f3), .val (.int f4), .val .null, .val (.ref b114), .val .null, .val (.ref b132), .val (.ref b114)] [(.ref b114), (.ref b114)])) _
            refine Jvm.RoadKit.acmp (g := (mkF m 151 #[.val (.int i0), .val (.int i1), .val (.int i2), .val (.int i3), .val (.int f1), .val (.int f2), .val (.int f3), .val (.int f4), .val .null, .val (.ref b114), .val .null, .val (.ref b132), .val (.ref b114)] [(.ref b114), (.ref b114)])) X136 hx rfl rfl rfl (pc0 := 151) (pc' := 154) (same := true) rfl (hb hby at_151) rfl (decide_eq_true rfl) (by decide) (by decide) ?_
            show Steps p.tables e below (T136.setTop (mkF m 154 #[.val (.int i0), .val (.int i1), .val (.int i2), .val (.int i3), .val (.int f1), .val (.int f2), .val (.int f3), .val (.int f4), .val .null, .val (.ref b114), .val .null, .val (.ref b132), .val (.ref b114)] [])) _
            refine XS.iconst X136.here hx rfl (hb hby at_154) ?_
            show Steps p.tables e below (T136.setTop (mkF m 155 #[.val (.int i0), .val (.int i1), .val (.int i2), .val (.int i3), .val (.int f1), .val (.int f2), .val (.int f3), .val (.int f4), .val .null, .val (.ref b114), .val .null, .val (.ref b132), .val (.ref b114)] [(.int (1 : Int32))])) _
            refine XS.goto X136.here hx rfl (pc0 := 155) (pc' := 159) rfl (hb hby at_155) (by decide) (by decide) ?_
            exact Steps.refl _
          obtain ⟨fs, hr, hrun, hended, hW⟩ := X136.leaveW hS (by rw [eu]; exact hk) (v := some (.int 1)) (fun h => by rw [Bd.returns] at h; cases h)
          refine ⟨_, _, c138.trans ?_, hrun, hended, _, _, rfl, ?_, ?_, hW.1, hW.2.1, hW.2.2.1, hW.2.2.2.mono (by decide) (by decide)⟩
          · show Steps p.tables e below (T136.setTop (mkF m 159 #[.val (.int i0), .val (.int i1), .val (.int i2), .val (.int i3), .val (.int f1), .val (.int f2), .val (.int f3), .val (.int f4), .val .null, .val (.ref b114), .val .null, .val (.ref b132), .val (.ref b114)] [(.int (1 : Int32))])) _
            exact retN X136 hx (t := .boolean) Bd.returns (by simp) (hb hby at_159) hr
          · show Q0 Z i0 i1 i2 i3 G1 h0 n0 _ T136.heap _
            rw [eu]
            exact ⟨rfl, Fr.app Nf Nu⟩
          · show CHr Z consts_1 s.vm s.heap T136.vm T136.heap
            rw [hh, eu, ← hV0]
            exact hR.trans (CHv.at X136 hZ hEL hR.1)
    · have c139 : Steps p.tables e below S0 (s₁.setTop (mkF m 105 #[.val (.int i0), .val (.int i1), .val (.int i2), .val (.int i3), .val (.int f1), .val (.int f2), .val (.int f3), .val (.int f4), .val .null, .val .null, .unset, .unset, .unset] [])) := by
        refine c87.trans ?_
        show Steps p.tables e below (s₁.setTop (mkF m 70 #[.val (.int i0), .val (.int i1), .val (.int i2), .val (.int i3), .val (.int f1), .val (.int f2), .val (.int f3), .val (.int f4), .val .null, .unset, .unset, .unset, .unset] [(.int f2)])) _
        refine XS.ifNo Xs.here hx rfl (hb hby at_70) rfl ((if0 _ _).trans (feq hs2).1) ?_
        show Steps p.tables e below (s₁.setTop (mkF m 73 #[.val (.int i0), .val (.int i1), .val (.int i2), .val (.int i3), .val (.int f1), .val (.int f2), .val (.int f3), .val (.int f4), .val .null, .unset, .unset, .unset, .unset] [])) _
        refine XS.aconstNull Xs.here hx rfl (hb hby at_73) ?_
        show Steps p.tables e below (s₁.setTop (mkF m 74 #[.val (.int i0), .val (.int i1), .val (.int i2), .val (.int i3), .val (.int f1), .val (.int f2), .val (.int f3), .val (.int f4), .val .null, .unset, .unset, .unset, .unset] [.null])) _
        refine XS.astore Xs.here hx rfl (hb hby at_74) rfl rfl (l' := #[.val (.int i0), .val (.int i1), .val (.int i2), .val (.int i3), .val (.int f1), .val (.int f2), .val (.int f3), .val (.int f4), .val .null, .val .null, .unset, .unset, .unset]) rfl ?_
        show Steps p.tables e below (s₁.setTop (mkF m 76 #[.val (.int i0), .val (.int i1), .val (.int i2), .val (.int i3), .val (.int f1), .val (.int f2), .val (.int f3), .val (.int f4), .val .null, .val .null, .unset, .unset, .unset] [])) _
        refine XS.goto Xs.here hx rfl (pc0 := 76) (pc' := 105) rfl (hb hby at_76) (by decide) (by decide) ?_
        exact Steps.refl _
      have c140 : Steps p.tables e below S0 (s₁.setTop (mkF m 107 #[.val (.int i0), .val (.int i1), .val (.int i2), .val (.int i3), .val (.int f1), .val (.int f2), .val (.int f3), .val (.int f4), .val .null, .val .null, .unset, .unset, .unset] [(.int f4)])) := by
        refine c139.trans ?_
        show Steps p.tables e below (s₁.setTop (mkF m 105 #[.val (.int i0), .val (.int i1), .val (.int i2), .val (.int i3), .val (.int f1), .val (.int f2), .val (.int f3), .val (.int f4), .val .null, .val .null, .unset, .unset, .unset] [])) _
        refine XS.iload Xs.here hx rfl (hb hby at_105) rfl ?_
        exact Steps.refl _
      by_cases hm : f4 = 0
      · have c141 : Steps p.tables e below S0 (s₁.setTop (mkF m 114 #[.val (.int i0), .val (.int i1), .val (.int i2), .val (.int i3), .val (.int f1), .val (.int f2), .val (.int f3), .val (.int f4), .val .null, .val .null, .unset, .unset, .unset] [])) := by
          refine c140.trans ?_
          show Steps p.tables e below (s₁.setTop (mkF m 107 #[.val (.int i0), .val (.int i1), .val (.int i2), .val (.int i3), .val (.int f1), .val (.int f2), .val (.int f3), .val (.int f4), .val .null, .val .null, .unset, .unset, .unset] [(.int f4)])) _
          refine XS.ifYes Xs.here hx rfl (pc0 := 107) (pc' := 114) rfl (hb hby at_107) rfl ((if0 _ _).trans (teq hm).1) (by decide) (by decide) ?_
          exact Steps.refl _
        have c142 : Steps p.tables e below S0 (s₁.setTop (mkF m 115 #[.val (.int i0), .val (.int i1), .val (.int i2), .val (.int i3), .val (.int f1), .val (.int f2), .val (.int f3), .val (.int f4), .val .null, .val .null, .unset, .unset, .unset] [(.int i2)])) := by
          refine c141.trans ?_
          show Steps p.tables e below (s₁.setTop (mkF m 114 #[.val (.int i0), .val (.int i1), .val (.int i2), .val (.int i3), .val (.int f1), .val (.int f2), .val (.int f3), .val (.int f4), .val .null, .val .null, .unset, .unset, .unset] [])) _
          refine XS.iloadN Xs.here hx rfl (hb hby at_114) rfl ?_
          exact Steps.refl _
        obtain ⟨_, _, ⟨T143, L143, k143, n143⟩, -, X143, ⟨Lc143, hQ143, l143, y143, z143⟩, st143⟩ := Jvm.LawKit.callS Xs hx (y := (⟨"com/example/attestry/attestry/saml/StatusInnermostCodePinLaw", "drawn", "(I)Ljava/lang/String;"⟩ : MethodName)) hown (mvT hZ (hw _ (List.mem_of_getElem? (i := 0) rfl))) (mvT hZ (hw _ (List.mem_of_getElem? (i := 1) rfl))) (mvT hZ (hw _ (List.mem_of_getElem? (i := 2) rfl))) (mvT hZ (hw _ (List.mem_of_getElem? (i := 3) rfl))) (by decide) (backOf (W := 0) (rm2 l Z a0 hw [] i2 G1 h0 n0 Zh O2 P5 hO) hZ (hw _ (List.mem_of_getElem? (i := 3) rfl)) (hw _ (List.mem_of_getElem? (i := 2) rfl)) (by decide) (by decide)) (g := (mkF m 115 #[.val (.int i0), .val (.int i1), .val (.int i2), .val (.int i3), .val (.int f1), .val (.int f2), .val (.int f3), .val (.int f4), .val .null, .val .null, .unset, .unset, .unset] [(.int i2)])) rfl (by rw [hml]; rfl) (argsL := [(.int i2)]) (rest := []) (lenOf pd3 rfl) rfl (by show 2 * 0 + _ ≤ _; exact Nat.le_of_eq rfl) (hb hby at_115) (fun _ _ => ⟨rfl, e0, (by decide : 0 + 3 ≤ _), (by decide : 0 + 8 ≤ _)⟩)
        dsimp only [Pt.U, Pt.locs, Pt.cells, Pt.slots] at X143 l143 y143 z143 st143 hQ143
        subst l143 y143 z143
        obtain ⟨⟨rm, rfl⟩, Nd, Kd⟩ := hQ143
        have c143 : Steps p.tables e below S0 (T143.setTop (mkF m 118 #[.val (.int i0), .val (.int i1), .val (.int i2), .val (.int i3), .val (.int f1), .val (.int f2), .val (.int f3), .val (.int f4), .val .null, .val .null, .unset, .unset, .unset] [(.ref rm)])) := by
          refine c142.trans ?_
          show Steps p.tables e below (s₁.setTop (mkF m 115 #[.val (.int i0), .val (.int i1), .val (.int i2), .val (.int i3), .val (.int f1), .val (.int f2), .val (.int f3), .val (.int f4), .val .null, .val .null, .unset, .unset, .unset] [(.int i2)])) _
          refine st143 _ ?_
          exact Steps.refl _
        have hRs143 := CHr.keep Kd (fun x hx => by cases hx) hR.1
        have hR := hR.trans hRs143
        have Zh := Nat.le_trans Zh Kd.1
        have hk := Nat.le_trans hk Kd.1
        have hO := hO.keep Kd (fun x hx => by cases hx)
        have Nf := Fr.app Nf Nd
        have c144 : Steps p.tables e below S0 (T143.setTop (mkF m 120 #[.val (.int i0), .val (.int i1), .val (.int i2), .val (.int i3), .val (.int f1), .val (.int f2), .val (.int f3), .val (.int f4), .val .null, .val .null, .val (.ref rm), .unset, .unset] [])) := by
          refine c143.trans ?_
          show Steps p.tables e below (T143.setTop (mkF m 118 #[.val (.int i0), .val (.int i1), .val (.int i2), .val (.int i3), .val (.int f1), .val (.int f2), .val (.int f3), .val (.int f4), .val .null, .val .null, .unset, .unset, .unset] [(.ref rm)])) _
          refine XS.astore X143.here hx rfl (hb hby at_118) rfl rfl (l' := #[.val (.int i0), .val (.int i1), .val (.int i2), .val (.int i3), .val (.int f1), .val (.int f2), .val (.int f3), .val (.int f4), .val .null, .val .null, .val (.ref rm), .unset, .unset]) rfl ?_
          exact Steps.refl _
        obtain ⟨T145, h145, X145, e145, E145, A145, D145, -, st145⟩ := newO X143 hx hZ hown (hw _ (List.mem_of_getElem? (i := 34) rfl)) (hw _ (List.mem_of_getElem? (i := 35) rfl)) (hw _ (List.mem_of_getElem? (i := 36) rfl)) rfl (g := (mkF m 120 #[.val (.int i0), .val (.int i1), .val (.int i2), .val (.int i3), .val (.int f1), .val (.int f2), .val (.int f3), .val (.int f4), .val .null, .val .null, .val (.ref rm), .unset, .unset] [])) rfl (hb hby at_120) (by decide) (by decide)
        obtain ⟨b145, g145⟩ : ∃ z, z = T143.heap.size := ⟨_, rfl⟩
        rw [← g145] at A145 D145 st145
        have c145 : Steps p.tables e below S0 (T145.setTop (mkF m 123 #[.val (.int i0), .val (.int i1), .val (.int i2), .val (.int i3), .val (.int f1), .val (.int f2), .val (.int f3), .val (.int f4), .val .null, .val .null, .val (.ref rm), .unset, .unset] [(.ref b145)])) := by
          refine c144.trans ?_
          show Steps p.tables e below (T143.setTop (mkF m 120 #[.val (.int i0), .val (.int i1), .val (.int i2), .val (.int i3), .val (.int f1), .val (.int f2), .val (.int f3), .val (.int f4), .val .null, .val .null, .val (.ref rm), .unset, .unset] [])) _
          refine st145 _ ?_
          exact Steps.refl _
        have Sf_b145 := Safe.ext E145 hR.1 (Safe.new (Nat.le_of_eq g145.symm))
        have gb145 : n0 ≤ b145 := Nat.le_trans Zh (Nat.le_of_eq g145.symm)
        have hRs145 := CHr.ext E145 hR.1
        have hR := hR.trans hRs145
        have Zh := Nat.le_trans Zh E145.1
        have hk := Nat.le_trans hk E145.1
        have Gc : Fld Z h145 b145 "com/example/attestry/attestry/saml/Status" "code" "Ljava/lang/String;" .null := D145 (Or.inr (hw _ (List.mem_of_getElem? (i := 47) rfl))) (ty := (.object "java/lang/String")) (by decide)
        have Gs : Fld Z h145 b145 "com/example/attestry/attestry/saml/Status" "subcode" "Ljava/lang/String;" .null := D145 (Or.inr (hw _ (List.mem_of_getElem? (i := 49) rfl))) (ty := (.object "java/lang/String")) (by decide)
        have Gm : Fld Z h145 b145 "com/example/attestry/attestry/saml/Status" "message" "Ljava/lang/String;" .null := D145 (Or.inr (hw _ (List.mem_of_getElem? (i := 51) rfl))) (ty := (.object "java/lang/String")) (by decide)
        have c146 : Steps p.tables e below S0 (T145.setTop (mkF m 130 #[.val (.int i0), .val (.int i1), .val (.int i2), .val (.int i3), .val (.int f1), .val (.int f2), .val (.int f3), .val (.int f4), .val .null, .val .null, .val (.ref rm), .unset, .unset] [(.ref rm), .null, .null, (.ref b145), (.ref b145)])) := by
          refine c145.trans ?_
          show Steps p.tables e below (T145.setTop (mkF m 123 #[.val (.int i0), .val (.int i1), .val (.int i2), .val (.int i3), .val (.int f1), .val (.int f2), .val (.int f3), .val (.int f4), .val .null, .val .null, .val (.ref rm), .unset, .unset] [(.ref b145)])) _
          refine XS.dup X145.here hx rfl (hb hby at_123) rfl rfl ?_
          show Steps p.tables e below (T145.setTop (mkF m 124 #[.val (.int i0), .val (.int i1), .val (.int i2), .val (.int i3), .val (.int f1), .val (.int f2), .val (.int f3), .val (.int f4), .val .null, .val .null, .val (.ref rm), .unset, .unset] [(.ref b145), (.ref b145)])) _
          refine XS.aload X145.here hx rfl (hb hby at_124) rfl rfl ?_
          show Steps p.tables e below (T145.setTop (mkF m 126 #[.val (.int i0), .val (.int i1), .val (.int i2), .val (.int i3), .val (.int f1), .val (.int f2), .val (.int f3), .val (.int f4), .val .null, .val .null, .val (.ref rm), .unset, .unset] [.null, (.ref b145), (.ref b145)])) _
          refine XS.aload X145.here hx rfl (hb hby at_126) rfl rfl ?_
          show Steps p.tables e below (T145.setTop (mkF m 128 #[.val (.int i0), .val (.int i1), .val (.int i2), .val (.int i3), .val (.int f1), .val (.int f2), .val (.int f3), .val (.int f4), .val .null, .val .null, .val (.ref rm), .unset, .unset] [.null, .null, (.ref b145), (.ref b145)])) _
          refine XS.aload X145.here hx rfl (hb hby at_128) rfl rfl ?_
          exact Steps.refl _
        obtain ⟨_, _, ⟨T147, L147, k147, n147⟩, -, X147, ⟨Lc147, hQ147, l147, y147, z147⟩, st147⟩ := X145.specialBack hx (y := (⟨"com/example/attestry/attestry/saml/Status", "<init>", "(Ljava/lang/String;Ljava/lang/String;Ljava/lang/String;)V"⟩ : MethodName)) rfl hown (mvT hZ (hw _ (List.mem_of_getElem? (i := 37) rfl))) (mvT hZ (hw _ (List.mem_of_getElem? (i := 38) rfl))) (mvT hZ (hw _ (List.mem_of_getElem? (i := 39) rfl))) (by decide) (backOf (W := 1) (rm58 l Z a0 hw [] b145 .null .null (.ref rm) h145 n0 Zh rfl rfl rfl A145 Gc Gs Gm gb145) hZ (hw _ (List.mem_of_getElem? (i := 39) rfl)) (hw _ (List.mem_of_getElem? (i := 36) rfl)) (by decide) (by decide)) (g := (mkF m 130 #[.val (.int i0), .val (.int i1), .val (.int i2), .val (.int i3), .val (.int f1), .val (.int f2), .val (.int f3), .val (.int f4), .val .null, .val .null, .val (.ref rm), .unset, .unset] [(.ref rm), .null, .null, (.ref b145), (.ref b145)])) rfl (by rw [hml]; rfl) (Steps.refl _) (a := b145) (argsL := [.null, .null, (.ref rm)]) (rest := [(.ref b145)]) (lenOf pd4 rfl) rfl (by show 2 * 0 + _ ≤ _; exact Nat.le_of_eq rfl) (hb hby at_130) (fun _ _ => ⟨rfl, e145, (by decide : 4 + 0 ≤ _), (by decide : 11 + 0 ≤ _)⟩)
        dsimp only [Pt.U, Pt.locs, Pt.cells, Pt.slots] at X147 l147 y147 z147 st147 hQ147
        subst l147 y147 z147
        obtain ⟨rfl, Nt, Kt, At, Tc, Ts⟩ := hQ147
        have c147 : Steps p.tables e below S0 (T147.setTop (mkF m 133 #[.val (.int i0), .val (.int i1), .val (.int i2), .val (.int i3), .val (.int f1), .val (.int f2), .val (.int f3), .val (.int f4), .val .null, .val .null, .val (.ref rm), .unset, .unset] [(.ref b145)])) := by
          refine c146.trans ?_
          show Steps p.tables e below (T145.setTop (mkF m 130 #[.val (.int i0), .val (.int i1), .val (.int i2), .val (.int i3), .val (.int f1), .val (.int f2), .val (.int f3), .val (.int f4), .val .null, .val .null, .val (.ref rm), .unset, .unset] [(.ref rm), .null, .null, (.ref b145), (.ref b145)])) _
          refine st147.trans ?_
          exact Steps.refl _
        have Nf := Fr.app Nf Nt
        have hRs147 := CHr.keep Kt (fun x hx => by cases List.mem_singleton.mp hx; exact Sf_b145) hR.1
        have hR := hR.trans hRs147
        have Zh := Nat.le_trans Zh Kt.1
        have hk := Nat.le_trans hk Kt.1
        have c148 : Steps p.tables e below S0 (T147.setTop (mkF m 137 #[.val (.int i0), .val (.int i1), .val (.int i2), .val (.int i3), .val (.int f1), .val (.int f2), .val (.int f3), .val (.int f4), .val .null, .val .null, .val (.ref rm), .val (.ref b145), .unset] [(.ref b145)])) := by
          refine c147.trans ?_
          show Steps p.tables e below (T147.setTop (mkF m 133 #[.val (.int i0), .val (.int i1), .val (.int i2), .val (.int i3), .val (.int f1), .val (.int f2), .val (.int f3), .val (.int f4), .val .null, .val .null, .val (.ref rm), .unset, .unset] [(.ref b145)])) _
          refine XS.astore X147.here hx rfl (hb hby at_133) rfl rfl (l' := #[.val (.int i0), .val (.int i1), .val (.int i2), .val (.int i3), .val (.int f1), .val (.int f2), .val (.int f3), .val (.int f4), .val .null, .val .null, .val (.ref rm), .val (.ref b145), .unset]) rfl ?_
          show Steps p.tables e below (T147.setTop (mkF m 135 #[.val (.int i0), .val (.int i1), .val (.int i2), .val (.int i3), .val (.int f1), .val (.int f2), .val (.int f3), .val (.int f4), .val .null, .val .null, .val (.ref rm), .val (.ref b145), .unset] [])) _
          refine XS.aload X147.here hx rfl (hb hby at_135) rfl rfl ?_
          exact Steps.refl _
        obtain ⟨cq149, kq149, q149a, q149b, q149c⟩ := isOf hZ rfl At
        obtain ⟨_, _, ⟨T149, L149, k149, n149⟩, -, X149, ⟨Lc149, hQ149, l149, y149, z149⟩, st149⟩ := X147.virtualBack hx (y := (⟨"com/example/attestry/attestry/saml/Status", "innermostCode", "()Ljava/lang/String;"⟩ : MethodName)) (z := (⟨"com/example/attestry/attestry/saml/Status", "innermostCode", "()Ljava/lang/String;"⟩ : MethodName)) hown (mvT hZ (hw _ (List.mem_of_getElem? (i := 52) rfl))) (mvT hZ (hw _ (List.mem_of_getElem? (i := 53) rfl))) (notFace_of_selects (args := #[]) (mvT hZ (hw _ (List.mem_of_getElem? (i := 55) rfl)))) (mvT hZ (hw _ (List.mem_of_getElem? (i := 55) rfl))) (mvT hZ (hw _ (List.mem_of_getElem? (i := 54) rfl))) (by decide) (backOf (W := 0) (rm585 l Z a0 hw [] b145 .null .null T147.heap n0 Zh rfl rfl Tc Ts) hZ (hw _ (List.mem_of_getElem? (i := 56) rfl)) (hw _ (List.mem_of_getElem? (i := 36) rfl)) (by decide) (by decide)) q149a q149c (g := (mkF m 137 #[.val (.int i0), .val (.int i1), .val (.int i2), .val (.int i3), .val (.int f1), .val (.int f2), .val (.int f3), .val (.int f4), .val .null, .val .null, .val (.ref rm), .val (.ref b145), .unset] [(.ref b145)])) rfl (by rw [hml]; rfl) (Steps.refl _) (argsL := []) (rest := []) (lenOf pd5 rfl) rfl (by show 2 * 0 + _ ≤ _; exact Nat.le_of_eq rfl) (hb hby at_137) (fun _ _ => ⟨rfl, rfl, (by decide : 4 + 0 ≤ _), (by decide : 11 + 0 ≤ _)⟩)
        dsimp only [Pt.U, Pt.locs, Pt.cells, Pt.slots] at X149 l149 y149 z149 st149 hQ149
        subst l149 y149 z149
        obtain ⟨rfl, Nu, eu⟩ := hQ149
        have c149 : Steps p.tables e below S0 (T149.setTop (mkF m 140 #[.val (.int i0), .val (.int i1), .val (.int i2), .val (.int i3), .val (.int f1), .val (.int f2), .val (.int f3), .val (.int f4), .val .null, .val .null, .val (.ref rm), .val (.ref b145), .unset] [.null])) := by
          refine c148.trans ?_
          show Steps p.tables e below (T147.setTop (mkF m 137 #[.val (.int i0), .val (.int i1), .val (.int i2), .val (.int i3), .val (.int f1), .val (.int f2), .val (.int f3), .val (.int f4), .val .null, .val .null, .val (.ref rm), .val (.ref b145), .unset] [(.ref b145)])) _
          refine st149.trans ?_
          exact Steps.refl _
        have c150 : Steps p.tables e below S0 (T149.setTop (mkF m 142 #[.val (.int i0), .val (.int i1), .val (.int i2), .val (.int i3), .val (.int f1), .val (.int f2), .val (.int f3), .val (.int f4), .val .null, .val .null, .val (.ref rm), .val (.ref b145), .val .null] [])) := by
          refine c149.trans ?_
          show Steps p.tables e below (T149.setTop (mkF m 140 #[.val (.int i0), .val (.int i1), .val (.int i2), .val (.int i3), .val (.int f1), .val (.int f2), .val (.int f3), .val (.int f4), .val .null, .val .null, .val (.ref rm), .val (.ref b145), .unset] [.null])) _
          refine XS.astore X149.here hx rfl (hb hby at_140) rfl rfl (l' := #[.val (.int i0), .val (.int i1), .val (.int i2), .val (.int i3), .val (.int f1), .val (.int f2), .val (.int f3), .val (.int f4), .val .null, .val .null, .val (.ref rm), .val (.ref b145), .val .null]) rfl ?_
          exact Steps.refl _
        have c151 : Steps p.tables e below S0 (T149.setTop (mkF m 172 #[.val (.int i0), .val (.int i1), .val (.int i2), .val (.int i3), .val (.int f1), .val (.int f2), .val (.int f3), .val (.int f4), .val .null, .val .null, .val (.ref rm), .val (.ref b145), .val .null] [(.int (1 : Int32))])) := by
          refine c150.trans ?_
          show Steps p.tables e below (T149.setTop (mkF m 142 #[.val (.int i0), .val (.int i1), .val (.int i2), .val (.int i3), .val (.int f1), .val (.int f2), .val (.int f3), .val (.int f4), .val .null, .val .null, .val (.ref rm), .val (.ref b145), .val .null] [])) _
          refine XS.aload X149.here hx rfl (hb hby at_142) rfl rfl ?_
          show Steps p.tables e below (T149.setTop (mkF m 144 #[.val (.int i0), .val (.int i1), .val (.int i2), .val (.int i3), .val (.int f1), .val (.int f2), .val (.int f3), .val (.int f4), .val .null, .val .null, .val (.ref rm), .val (.ref b145), .val .null] [.null])) _
          refine XS.ifnullYes X149.here hx rfl (pc0 := 144) (pc' := 160) rfl (hb hby at_144) rfl (by decide) (by decide) ?_
          show Steps p.tables e below (T149.setTop (mkF m 160 #[.val (.int i0), .val (.int i1), .val (.int i2), .val (.int i3), .val (.int f1), .val (.int f2), .val (.int f3), .val (.int f4), .val .null, .val .null, .val (.ref rm), .val (.ref b145), .val .null] [])) _
          refine XS.aload X149.here hx rfl (hb hby at_160) rfl rfl ?_
          show Steps p.tables e below (T149.setTop (mkF m 162 #[.val (.int i0), .val (.int i1), .val (.int i2), .val (.int i3), .val (.int f1), .val (.int f2), .val (.int f3), .val (.int f4), .val .null, .val .null, .val (.ref rm), .val (.ref b145), .val .null] [.null])) _
          refine XS.aload X149.here hx rfl (hb hby at_162) rfl rfl ?_
          show Steps p.tables e below (T149.setTop (mkF m 164 #[.val (.int i0), .val (.int i1), .val (.int i2), .val (.int i3), .val (.int f1), .val (.int f2), .val (.int f3), .val (.int f4), .val .null, .val .null, .val (.ref rm), .val (.ref b145), .val .null] [.null, .null])) _
          refine Jvm.RoadKit.acmp (g := (mkF m 164 #[.val (.int i0), .val (.int i1), .val (.int i2), .val (.int i3), .val (.int f1), .val (.int f2), .val (.int f3), .val (.int f4), .val .null, .val .null, .val (.ref rm), .val (.ref b145), .val .null] [.null, .null])) X149 hx rfl rfl rfl (pc0 := 164) (pc' := 167) (same := true) rfl (hb hby at_164) rfl (decide_eq_true rfl) (by decide) (by decide) ?_
          show Steps p.tables e below (T149.setTop (mkF m 167 #[.val (.int i0), .val (.int i1), .val (.int i2), .val (.int i3), .val (.int f1), .val (.int f2), .val (.int f3), .val (.int f4), .val .null, .val .null, .val (.ref rm), .val (.ref b145), .val .null] [])) _
          refine XS.iconst X149.here hx rfl (hb hby at_167) ?_
          show Steps p.tables e below (T149.setTop (mkF m 168 #[.val (.int i0), .val (.int i1), .val (.int i2), .val (.int i3), .val (.int f1), .val (.int f2), .val (.int f3), .val (.int f4), .val .null, .val .null, .val (.ref rm), .val (.ref b145), .val .null] [(.int (1 : Int32))])) _
          refine XS.goto X149.here hx rfl (pc0 := 168) (pc' := 172) rfl (hb hby at_168) (by decide) (by decide) ?_
          exact Steps.refl _
        obtain ⟨fs, hr, hrun, hended, hW⟩ := X149.leaveW hS (by rw [eu]; exact hk) (v := some (.int 1)) (fun h => by rw [Bd.returns] at h; cases h)
        refine ⟨_, _, c151.trans ?_, hrun, hended, _, _, rfl, ?_, ?_, hW.1, hW.2.1, hW.2.2.1, hW.2.2.2.mono (by decide) (by decide)⟩
        · show Steps p.tables e below (T149.setTop (mkF m 172 #[.val (.int i0), .val (.int i1), .val (.int i2), .val (.int i3), .val (.int f1), .val (.int f2), .val (.int f3), .val (.int f4), .val .null, .val .null, .val (.ref rm), .val (.ref b145), .val .null] [(.int (1 : Int32))])) _
          exact retN X149 hx (t := .boolean) Bd.returns (by simp) (hb hby at_172) hr
        · show Q0 Z i0 i1 i2 i3 G1 h0 n0 _ T149.heap _
          rw [eu]
          exact ⟨rfl, Fr.app Nf Nu⟩
        · show CHr Z consts_1 s.vm s.heap T149.vm T149.heap
          rw [hh, eu, ← hV0]
          exact hR.trans (CHv.at X149 hZ hEL hR.1)
      · have c152 : Steps p.tables e below S0 (s₁.setTop (mkF m 120 #[.val (.int i0), .val (.int i1), .val (.int i2), .val (.int i3), .val (.int f1), .val (.int f2), .val (.int f3), .val (.int f4), .val .null, .val .null, .val .null, .unset, .unset] [])) := by
          refine c140.trans ?_
          show Steps p.tables e below (s₁.setTop (mkF m 107 #[.val (.int i0), .val (.int i1), .val (.int i2), .val (.int i3), .val (.int f1), .val (.int f2), .val (.int f3), .val (.int f4), .val .null, .val .null, .unset, .unset, .unset] [(.int f4)])) _
          refine XS.ifNo Xs.here hx rfl (hb hby at_107) rfl ((if0 _ _).trans (feq hm).1) ?_
          show Steps p.tables e below (s₁.setTop (mkF m 110 #[.val (.int i0), .val (.int i1), .val (.int i2), .val (.int i3), .val (.int f1), .val (.int f2), .val (.int f3), .val (.int f4), .val .null, .val .null, .unset, .unset, .unset] [])) _
          refine XS.aconstNull Xs.here hx rfl (hb hby at_110) ?_
          show Steps p.tables e below (s₁.setTop (mkF m 111 #[.val (.int i0), .val (.int i1), .val (.int i2), .val (.int i3), .val (.int f1), .val (.int f2), .val (.int f3), .val (.int f4), .val .null, .val .null, .unset, .unset, .unset] [.null])) _
          refine XS.goto Xs.here hx rfl (pc0 := 111) (pc' := 118) rfl (hb hby at_111) (by decide) (by decide) ?_
          show Steps p.tables e below (s₁.setTop (mkF m 118 #[.val (.int i0), .val (.int i1), .val (.int i2), .val (.int i3), .val (.int f1), .val (.int f2), .val (.int f3), .val (.int f4), .val .null, .val .null, .unset, .unset, .unset] [.null])) _
          refine XS.astore Xs.here hx rfl (hb hby at_118) rfl rfl (l' := #[.val (.int i0), .val (.int i1), .val (.int i2), .val (.int i3), .val (.int f1), .val (.int f2), .val (.int f3), .val (.int f4), .val .null, .val .null, .val .null, .unset, .unset]) rfl ?_
          exact Steps.refl _
        obtain ⟨T153, h153, X153, e153, E153, A153, D153, -, st153⟩ := newO Xs hx hZ hown (hw _ (List.mem_of_getElem? (i := 34) rfl)) (hw _ (List.mem_of_getElem? (i := 35) rfl)) (hw _ (List.mem_of_getElem? (i := 36) rfl)) e0 (g := (mkF m 120 #[.val (.int i0), .val (.int i1), .val (.int i2), .val (.int i3), .val (.int f1), .val (.int f2), .val (.int f3), .val (.int f4), .val .null, .val .null, .val .null, .unset, .unset] [])) rfl (hb hby at_120) (by decide) (by decide)
        obtain ⟨b153, g153⟩ : ∃ z, z = h0.size := ⟨_, rfl⟩
        rw [← g153] at A153 D153 st153
        have c153 : Steps p.tables e below S0 (T153.setTop (mkF m 123 #[.val (.int i0), .val (.int i1), .val (.int i2), .val (.int i3), .val (.int f1), .val (.int f2), .val (.int f3), .val (.int f4), .val .null, .val .null, .val .null, .unset, .unset] [(.ref b153)])) := by
          refine c152.trans ?_
          show Steps p.tables e below (s₁.setTop (mkF m 120 #[.val (.int i0), .val (.int i1), .val (.int i2), .val (.int i3), .val (.int f1), .val (.int f2), .val (.int f3), .val (.int f4), .val .null, .val .null, .val .null, .unset, .unset] [])) _
          refine st153 _ ?_
          exact Steps.refl _
        have Sf_b153 := Safe.ext E153 hR.1 (Safe.new (Nat.le_of_eq g153.symm))
        have gb153 : n0 ≤ b153 := Nat.le_trans Zh (Nat.le_of_eq g153.symm)
        have hRs153 := CHr.ext E153 hR.1
        have hR := hR.trans hRs153
        have Zh := Nat.le_trans Zh E153.1
        have hk := Nat.le_trans hk E153.1
        have Gc : Fld Z h153 b153 "com/example/attestry/attestry/saml/Status" "code" "Ljava/lang/String;" .null := D153 (Or.inr (hw _ (List.mem_of_getElem? (i := 47) rfl))) (ty := (.object "java/lang/String")) (by decide)
        have Gs : Fld Z h153 b153 "com/example/attestry/attestry/saml/Status" "subcode" "Ljava/lang/String;" .null := D153 (Or.inr (hw _ (List.mem_of_getElem? (i := 49) rfl))) (ty := (.object "java/lang/String")) (by decide)
        have Gm : Fld Z h153 b153 "com/example/attestry/attestry/saml/Status" "message" "Ljava/lang/String;" .null := D153 (Or.inr (hw _ (List.mem_of_getElem? (i := 51) rfl))) (ty := (.object "java/lang/String")) (by decide)
        have c154 : Steps p.tables e below S0 (T153.setTop (mkF m 130 #[.val (.int i0), .val (.int i1), .val (.int i2), .val (.int i3), .val (.int f1), .val (.int f2), .val (.int f3), .val (.int f4), .val .null, .val .null, .val .null, .unset, .unset] [.null, .null, .null, (.ref b153), (.ref b153)])) := by
          refine c153.trans ?_
          show Steps p.tables e below (T153.setTop (mkF m 123 #[.val (.int i0), .val (.int i1), .val (.int i2), .val (.int i3), .val (.int f1), .val (.int f2), .val (.int f3), .val (.int f4), .val .null, .val .null, .val .null, .unset, .unset] [(.ref b153)])) _
          refine XS.dup X153.here hx rfl (hb hby at_123) rfl rfl ?_
          show Steps p.tables e below (T153.setTop (mkF m 124 #[.val (.int i0), .val (.int i1), .val (.int i2), .val (.int i3), .val (.int f1), .val (.int f2), .val (.int f3), .val (.int f4), .val .null, .val .null, .val .null, .unset, .unset] [(.ref b153), (.ref b153)])) _
          refine XS.aload X153.here hx rfl (hb hby at_124) rfl rfl ?_
          show Steps p.tables e below (T153.setTop (mkF m 126 #[.val (.int i0), .val (.int i1), .val (.int i2), .val (.int i3), .val (.int f1), .val (.int f2), .val (.int f3), .val (.int f4), .val .null, .val .null, .val .null, .unset, .unset] [.null, (.ref b153), (.ref b153)])) _
          refine XS.aload X153.here hx rfl (hb hby at_126) rfl rfl ?_
          show Steps p.tables e below (T153.setTop (mkF m 128 #[.val (.int i0), .val (.int i1), .val (.int i2), .val (.int i3), .val (.int f1), .val (.int f2), .val (.int f3), .val (.int f4), .val .null, .val .null, .val .null, .unset, .unset] [.null, .null, (.ref b153), (.ref b153)])) _
          refine XS.aload X153.here hx rfl (hb hby at_128) rfl rfl ?_
          exact Steps.refl _
        obtain ⟨_, _, ⟨T155, L155, k155, n155⟩, -, X155, ⟨Lc155, hQ155, l155, y155, z155⟩, st155⟩ := X153.specialBack hx (y := (⟨"com/example/attestry/attestry/saml/Status", "<init>", "(Ljava/lang/String;Ljava/lang/String;Ljava/lang/String;)V"⟩ : MethodName)) rfl hown (mvT hZ (hw _ (List.mem_of_getElem? (i := 37) rfl))) (mvT hZ (hw _ (List.mem_of_getElem? (i := 38) rfl))) (mvT hZ (hw _ (List.mem_of_getElem? (i := 39) rfl))) (by decide) (backOf (W := 1) (rm58 l Z a0 hw [] b153 .null .null .null h153 n0 Zh rfl rfl rfl A153 Gc Gs Gm gb153) hZ (hw _ (List.mem_of_getElem? (i := 39) rfl)) (hw _ (List.mem_of_getElem? (i := 36) rfl)) (by decide) (by decide)) (g := (mkF m 130 #[.val (.int i0), .val (.int i1), .val (.int i2), .val (.int i3), .val (.int f1), .val (.int f2), .val (.int f3), .val (.int f4), .val .null, .val .null, .val .null, .unset, .unset] [.null, .null, .null, (.ref b153), (.ref b153)])) rfl (by rw [hml]; rfl) (Steps.refl _) (a := b153) (argsL := [.null, .null, .null]) (rest := [(.ref b153)]) (lenOf pd4 rfl) rfl (by show 2 * 0 + _ ≤ _; exact Nat.le_of_eq rfl) (hb hby at_130) (fun _ _ => ⟨rfl, e153, (by decide : 1 + 0 ≤ _), (by decide : 3 + 0 ≤ _)⟩)
        dsimp only [Pt.U, Pt.locs, Pt.cells, Pt.slots] at X155 l155 y155 z155 st155 hQ155
        subst l155 y155 z155
        obtain ⟨rfl, Nt, Kt, At, Tc, Ts⟩ := hQ155
        have c155 : Steps p.tables e below S0 (T155.setTop (mkF m 133 #[.val (.int i0), .val (.int i1), .val (.int i2), .val (.int i3), .val (.int f1), .val (.int f2), .val (.int f3), .val (.int f4), .val .null, .val .null, .val .null, .unset, .unset] [(.ref b153)])) := by
          refine c154.trans ?_
          show Steps p.tables e below (T153.setTop (mkF m 130 #[.val (.int i0), .val (.int i1), .val (.int i2), .val (.int i3), .val (.int f1), .val (.int f2), .val (.int f3), .val (.int f4), .val .null, .val .null, .val .null, .unset, .unset] [.null, .null, .null, (.ref b153), (.ref b153)])) _
          refine st155.trans ?_
          exact Steps.refl _
        have Nf := Fr.app Nf Nt
        have hRs155 := CHr.keep Kt (fun x hx => by cases List.mem_singleton.mp hx; exact Sf_b153) hR.1
        have hR := hR.trans hRs155
        have Zh := Nat.le_trans Zh Kt.1
        have hk := Nat.le_trans hk Kt.1
        have c156 : Steps p.tables e below S0 (T155.setTop (mkF m 137 #[.val (.int i0), .val (.int i1), .val (.int i2), .val (.int i3), .val (.int f1), .val (.int f2), .val (.int f3), .val (.int f4), .val .null, .val .null, .val .null, .val (.ref b153), .unset] [(.ref b153)])) := by
          refine c155.trans ?_
          show Steps p.tables e below (T155.setTop (mkF m 133 #[.val (.int i0), .val (.int i1), .val (.int i2), .val (.int i3), .val (.int f1), .val (.int f2), .val (.int f3), .val (.int f4), .val .null, .val .null, .val .null, .unset, .unset] [(.ref b153)])) _
          refine XS.astore X155.here hx rfl (hb hby at_133) rfl rfl (l' := #[.val (.int i0), .val (.int i1), .val (.int i2), .val (.int i3), .val (.int f1), .val (.int f2), .val (.int f3), .val (.int f4), .val .null, .val .null, .val .null, .val (.ref b153), .unset]) rfl ?_
          show Steps p.tables e below (T155.setTop (mkF m 135 #[.val (.int i0), .val (.int i1), .val (.int i2), .val (.int i3), .val (.int f1), .val (.int f2), .val (.int f3), .val (.int f4), .val .null, .val .null, .val .null, .val (.ref b153), .unset] [])) _
          refine XS.aload X155.here hx rfl (hb hby at_135) rfl rfl ?_
          exact Steps.refl _
        obtain ⟨cq157, kq157, q157a, q157b, q157c⟩ := isOf hZ rfl At
        obtain ⟨_, _, ⟨T157, L157, k157, n157⟩, -, X157, ⟨Lc157, hQ157, l157, y157, z157⟩, st157⟩ := X155.virtualBack hx (y := (⟨"com/example/attestry/attestry/saml/Status", "innermostCode", "()Ljava/lang/String;"⟩ : MethodName)) (z := (⟨"com/example/attestry/attestry/saml/Status", "innermostCode", "()Ljava/lang/String;"⟩ : MethodName)) hown (mvT hZ (hw _ (List.mem_of_getElem? (i := 52) rfl))) (mvT hZ (hw _ (List.mem_of_getElem? (i := 53) rfl))) (notFace_of_selects (args := #[]) (mvT hZ (hw _ (List.mem_of_getElem? (i := 55) rfl)))) (mvT hZ (hw _ (List.mem_of_getElem? (i := 55) rfl))) (mvT hZ (hw _ (List.mem_of_getElem? (i := 54) rfl))) (by decide) (backOf (W := 0) (rm585 l Z a0 hw [] b153 .null .null T155.heap n0 Zh rfl rfl Tc Ts) hZ (hw _ (List.mem_of_getElem? (i := 56) rfl)) (hw _ (List.mem_of_getElem? (i := 36) rfl)) (by decide) (by decide)) q157a q157c (g := (mkF m 137 #[.val (.int i0), .val (.int i1), .val (.int i2), .val (.int i3), .val (.int f1), .val (.int f2), .val (.int f3), .val (.int f4), .val .null, .val .null, .val .null, .val (.ref b153), .unset] [(.ref b153)])) rfl (by rw [hml]; rfl) (Steps.refl _) (argsL := []) (rest := []) (lenOf pd5 rfl) rfl (by show 2 * 0 + _ ≤ _; exact Nat.le_of_eq rfl) (hb hby at_137) (fun _ _ => ⟨rfl, rfl, (by decide : 1 + 0 ≤ _), (by decide : 3 + 0 ≤ _)⟩)
        dsimp only [Pt.U, Pt.locs, Pt.cells, Pt.slots] at X157 l157 y157 z157 st157 hQ157
        subst l157 y157 z157
        obtain ⟨rfl, Nu, eu⟩ := hQ157
        have c157 : Steps p.tables e below S0 (T157.setTop (mkF m 140 #[.val (.int i0), .val (.int i1), .val (.int i2), .val (.int i3), .val (.int f1), .val (.int f2), .val (.int f3), .val (.int f4), .val .null, .val .null, .val .null, .val (.ref b153), .unset] [.null])) := by
          refine c156.trans ?_
          show Steps p.tables e below (T155.setTop (mkF m 137 #[.val (.int i0), .val (.int i1), .val (.int i2), .val (.int i3), .val (.int f1), .val (.int f2), .val (.int f3), .val (.int f4), .val .null, .val .null, .val .null, .val (.ref b153), .unset] [(.ref b153)])) _
          refine st157.trans ?_
          exact Steps.refl _
        have c158 : Steps p.tables e below S0 (T157.setTop (mkF m 142 #[.val (.int i0), .val (.int i1), .val (.int i2), .val (.int i3), .val (.int f1), .val (.int f2), .val (.int f3), .val (.int f4), .val .null, .val .null, .val .null, .val (.ref b153), .val .null] [])) := by
          refine c157.trans ?_
          show Steps p.tables e below (T157.setTop (mkF m 140 #[.val (.int i0), .val (.int i1), .val (.int i2), .val (.int i3), .val (.int f1), .val (.int f2), .val (.int f3), .val (.int f4), .val .null, .val .null, .val .null, .val (.ref b153), .unset] [.null])) _
          refine XS.astore X157.here hx rfl (hb hby at_140) rfl rfl (l' := #[.val (.int i0), .val (.int i1), .val (.int i2), .val (.int i3), .val (.int f1), .val (.int f2), .val (.int f3), .val (.int f4), .val .null, .val .null, .val .null, .val (.ref b153), .val .null]) rfl ?_
          exact Steps.refl _
        have c159 : Steps p.tables e below S0 (T157.setTop (mkF m 172 #[.val (.int i0), .val (.int i1), .val (.int i2), .val (.int i3), .val (.int f1), .val (.int f2), .val (.int f3), .val (.int f4), .val .null, .val .null, .val .null, .val (.ref b153), .val .null] [(.int (1 : Int32))])) := by
          refine c158.trans ?_
          show Steps p.tables e below (T157.setTop (mkF m 142 #[.val (.int i0), .val (.int i1), .val (.int i2), .val (.int i3), .val (.int f1), .val (.int f2), .val (.int f3), .val (.int f4), .val .null, .val .null, .val .null, .val (.ref b153), .val .null] [])) _
          refine XS.aload X157.here hx rfl (hb hby at_142) rfl rfl ?_
          show Steps p.tables e below (T157.setTop (mkF m 144 #[.val (.int i0), .val (.int i1), .val (.int i2), .val (.int i3), .val (.int f1), .val (.int f2), .val (.int f3), .val (.int f4), .val .null, .val .null, .val .null, .val (.ref b153), .val .null] [.null])) _
          refine XS.ifnullYes X157.here hx rfl (pc0 := 144) (pc' := 160) rfl (hb hby at_144) rfl (by decide) (by decide) ?_
          show Steps p.tables e below (T157.setTop (mkF m 160 #[.val (.int i0), .val (.int i1), .val (.int i2), .val (.int i3), .val (.int f1), .val (.int f2), .val (.int f3), .val (.int f4), .val .null, .val .null, .val .null, .val (.ref b153), .val .null] [])) _
          refine XS.aload X157.here hx rfl (hb hby at_160) rfl rfl ?_
          show Steps p.tables e below (T157.setTop (mkF m 162 #[.val (.int i0), .val (.int i1), .val (.int i2), .val (.int i3), .val (.int f1), .val (.int f2), .val (.int f3), .val (.int f4), .val .null, .val .null, .val .null, .val (.ref b153), .val .null] [.null])) _
          refine XS.aload X157.here hx rfl (hb hby at_162) rfl rfl ?_
          show Steps p.tables e below (T157.setTop (mkF m 164 #[.val (.int i0), .val (.int i1), .val (.int i2), .val (.int i3), .val (.int f1), .val (.int f2), .val (.int f3), .val (.int f4), .val .null, .val .null, .val .null, .val (.ref b153), .val .null] [.null, .null])) _
          refine Jvm.RoadKit.acmp (g := (mkF m 164 #[.val (.int i0), .val (.int i1), .val (.int i2), .val (.int i3), .val (.int f1), .val (.int f2), .val (.int f3), .val (.int f4), .val .null, .val .null, .val .null, .val (.ref b153), .val .null] [.null, .null])) X157 hx rfl rfl rfl (pc0 := 164) (pc' := 167) (same := true) rfl (hb hby at_164) rfl (decide_eq_true rfl) (by decide) (by decide) ?_
          show Steps p.tables e below (T157.setTop (mkF m 167 #[.val (.int i0), .val (.int i1), .val (.int i2), .val (.int i3), .val (.int f1), .val (.int f2), .val (.int f3), .val (.int f4), .val .null, .val .null, .val .null, .val (.ref b153), .val .null] [])) _
          refine XS.iconst X157.here hx rfl (hb hby at_167) ?_
          show Steps p.tables e below (T157.setTop (mkF m 168 #[.val (.int i0), .val (.int i1), .val (.int i2), .val (.int i3), .val (.int f1), .val (.int f2), .val (.int f3), .val (.int f4), .val .null, .val .null, .val .null, .val (.ref b153), .val .null] [(.int (1 : Int32))])) _
          refine XS.goto X157.here hx rfl (pc0 := 168) (pc' := 172) rfl (hb hby at_168) (by decide) (by decide) ?_
          exact Steps.refl _
        obtain ⟨fs, hr, hrun, hended, hW⟩ := X157.leaveW hS (by rw [eu]; exact hk) (v := some (.int 1)) (fun h => by rw [Bd.returns] at h; cases h)
        refine ⟨_, _, c159.trans ?_, hrun, hended, _, _, rfl, ?_, ?_, hW.1, hW.2.1, hW.2.2.1, hW.2.2.2.mono (by decide) (by decide)⟩
        · show Steps p.tables e below (T157.setTop (mkF m 172 #[.val (.int i0), .val (.int i1), .val (.int i2), .val (.int i3), .val (.int f1), .val (.int f2), .val (.int f3), .val (.int f4), .val .null, .val .null, .val .null, .val (.ref b153), .val .null] [(.int (1 : Int32))])) _
          exact retN X157 hx (t := .boolean) Bd.returns (by simp) (hb hby at_172) hr
        · show Q0 Z i0 i1 i2 i3 G1 h0 n0 _ T157.heap _
          rw [eu]
          exact ⟨rfl, Fr.app Nf Nu⟩
        · show CHr Z consts_1 s.vm s.heap T157.vm T157.heap
          rw [hh, eu, ← hV0]
          exact hR.trans (CHv.at X157 hZ hEL hR.1)
set_option maxRecDepth 65536 in
set_option maxHeartbeats 40000000 in
theorem comes_1 {Post : Tables → Env → Array Value → State → Outcome → State → Prop} (hpost : ∀ tb e args s v u, (limb_1_1.after args s (.returned v) u = true ∧ limb_1_2.after args s (.returned v) u = true ∧ True) → ReturnedEndW s (.returned v) u (Jvm.fieldLocs frame_1_writes args s ++ Jvm.arrayLocs frame_1_arrays args s ++ Jvm.staticLocs frame_1_statics s) 32 1152 → Post tb e args s (.returned v) u) :
    ArmFor flags0 classFile x code maxLocals ret World_1 tables_1 room_1 Calls_1 rest_1 Pre_1 Post := by
  intro l hfl _ _ p e ha hc hk s m args below hf hA hF happ hP
  obtain ⟨hcalls, hrest, hpre⟩ := hP
  obtain ⟨-, -, -, hnamed, -, -, -, hat⟩ := (Spec.applies_iff hf).mp happ
  obtain ⟨hg, hn⟩ := and_e (Cond.before_iff.mp (show (Jvm.Cond.and given_1 narrow_1).before args s = true from hpre))
  obtain ⟨h1, g0⟩ := and_e hg
  obtain ⟨a0, g1⟩ := and_e g0
  obtain ⟨a1, g2⟩ := and_e g1
  obtain ⟨a2, g3⟩ := and_e g2
  have a3 := g3
  obtain ⟨w0, w1, w2, w3, rfl⟩ : ∃ w0 w1 w2 w3 : Value, args = #[w0, w1, w2, w3] := by
    have hs : args.size = 4 := by simpa [Cond.value, given_1] using h1
    obtain ⟨L⟩ := args
    match L, hs with
    | [w0, w1, w2, w3], _ => exact ⟨w0, w1, w2, w3, rfl⟩
  have hw := fun d (hd : d ∈ tables_1) => atoms_spec (ws := Jvm.Cond.code x code maxLocals ret :: tables_1) hat d (List.mem_cons_of_mem _ hd)
  obtain ⟨hsets, hown0⟩ := atoms_of _ (rest_1_c_eq ▸ (show rest_1_c.before _ s = true from hrest))
  have hr0 := Cond.before_iff.mp hown0
  have hfit : Fit s := fun {y c} hc i hi => by
    obtain ⟨ha, rfl⟩ := Array.getElem?_eq_some_iff.mp hc
    have q := List.all_eq_true.mp ((Array.all_eq_true_iff_forall_mem.mp hF) _ (Array.getElem_mem ha)) i (List.mem_range.mpr hi)
    simpa [Array.getElem?_eq_getElem hi] using q
  obtain ⟨i0, e0⟩ := is_v a0
  obtain rfl : w0 = (.int i0) := Option.some.inj e0
  obtain ⟨i1, e1⟩ := is_v a1
  obtain rfl : w1 = (.int i1) := Option.some.inj e1
  obtain ⟨i2, e2⟩ := is_v a2
  obtain rfl : w2 = (.int i2) := Option.some.inj e2
  obtain ⟨i3, e3⟩ := is_v a3
  obtain rfl : w3 = (.int i3) := Option.some.inj e3
  have n5 := not_v (Cond.before_iff.mp (hsets _ (List.mem_of_getElem? (i := 2) rfl)))
  obtain ⟨G1, eG⟩ := is_v (Cond.before_iff.mp (hsets _ (List.mem_of_getElem? (i := 1) rfl)))
  have O2 : Sta s s.heap "java/lang/String" "COMPACT_STRINGS" "Z" (.int G1) := Sta.start eG (Or.inl (hsets _ (List.mem_of_getElem? (i := 0) rfl)))
  have P5 : ¬ (G1 = (0 : Int32)) := gotF (Cond.eq_ints eG (Term.int_eval (0))) n5
  have hC0 : CHv s consts_1 s.vm s.heap := CHv.start (own_EW hw) hcalls.1 (hsets _ (List.mem_of_getElem? (i := 2) rfl)) (hw _ (List.mem_of_getElem? (i := 23) rfl)) (hw _ (List.mem_of_getElem? (i := 6) rfl))
  obtain ⟨n, o, h1, h2, h3, _, L, rfl, ⟨rfl, N⟩, -, hq⟩ := rm0 l s _ hw tables_1 i0 i1 i2 i3 G1 s.heap s.heap.size (Nat.le_refl _) O2 P5 (Old.start s) p e ha hc hk s m _ below hf ((Spec.applies_iff_loose hf).mp happ).1 ⟨rfl, State.Warmed39.refl s, rfl, hC0, fun x hx => by cases hx⟩ trivial
  refine ⟨n, _, h1, h2, h3, hpost _ _ _ _ _ _ ⟨Cond.after_iff.mpr rfl, Cond.after_iff.mpr (eq_i res_at (Term.int_eval (1)) rfl), trivial⟩ ⟨hq.1, hq.2.1, hq.2.2.1, (hq.2.2.2.sift fun y hy => Or.inr (N y hy)).mono (by decide) (by decide)⟩⟩
theorem main_1_1 : Claimed_1_1 := comes_1 fun _ _ _ _ _ _ h hF => ⟨h.1, hF⟩
theorem main_1_2 : Claimed_1_2 := comes_1 fun _ _ _ _ _ _ h hF => ⟨h.2.1, hF⟩
end Jvm.Pilot.@@N@@
namespace Jvm.Pilot.@@N@@
open Jvm Jvm.ClassFile Sem Op Lib Jvm.Free Jvm.Stand Jvm.Pilot.@@N@@.Jvm.D
/-! MADE BY PROGRAM (witnessworld.py) out of the Statement's table words and the real class files: 21 classes; the members and pool entries that the words name. The judged class is class 1, her method 2. -/
namespace start1
open Jvm.ClassFile
def u (s : String) : CpInfo := .utf8 (stringToUtf16 s)
/-- a pool by its gaps: so many unusable entries, then the entry; so many at the end -/
def gap : Nat → List CpInfo → List CpInfo
  | 0, r => r
  | n + 1, r => .unusable :: gap n r
def poolList (es : List (Nat × CpInfo)) (last : Nat) : List CpInfo := es.foldr (fun e r => gap e.1 (e.2 :: r)) (gap last [])
def pool (es : List (Nat × CpInfo)) (last : Nat) : Array CpInfo := ⟨poolList es last⟩
def fileOf (pool : Array CpInfo) (this : Nat) (attrs : Array Attribute := #[]) (ms : Array MethodInfo := #[]) (fl : Nat := 33) (sup : Nat := 0) (ifs : Array Nat := #[]) (fds : Array FieldInfo := #[]) : ClassFile where
  minorVersion := 0
  majorVersion := 65
  constantPool := pool
  accessFlags := fl
  thisClass := this
  superClass := sup
  interfaces := ifs
  fields := fds
  methods := ms
  attributes := attrs
def plain (name : String) (sup : Option ClassId) : Class where
  name := name
  kind := .ordinary
  loader := none
  accessFlags := 33
  super := sup
  interfaces := #[]
  cf := none
  fields := #[]
  methods := #[]
  instanceTypes := #[]
  staticTypes := #[]
  resolved := #[]
  callSites := []
  init := .initialized
  statics := none
  mirror := none

def pool0 : Array CpInfo := pool [(5, u "<init>"), (0, u "()V"), (1, .class_ 10), (1, u "java/lang/Object")] 113

def k0c0 : Code := { maxStack := 0, maxLocals := 1, code := object_method_1_code, exceptionTable := #[], attributes := #[] }
def k0m0 : Method := { name := "<init>", desc := "()V", sig := { parameters := [], returnType := none }, accessFlags := 1, code := some k0c0 }
/-- java/lang/Object -/
def k0 : Class := { plain "java/lang/Object" none with
  accessFlags := 33
  interfaces := #[]
  cf := some (fileOf pool0 8 #[] #[{ accessFlags := 1, nameIndex := 5, descriptorIndex := 6, attributes := #[] }] 33 0 #[] #[])
  fields := #[]
  methods := #[k0m0]
  instanceTypes := #[]
  staticTypes := #[]
  resolved := Array.replicate 124 none
  statics := none }

def pool1 : Array CpInfo := pool [(2, .class_ 4), (1, u "java/lang/Object"), (0, u "<init>"), (0, u "()V"), (0, .class_ 8), (0, u "java/lang/String"), (0, .methodref 7 10), (0, .nameAndType 5 11), (0, u "([C)V"), (0, .methodref 13 14), (0, .class_ 15), (0, .nameAndType 16 17), (0, u "com/example/attestry/attestry/saml/StatusInnermostCodePinLaw"), (0, u "drawn"), (0, u "(I)Ljava/lang/String;"), (0, .class_ 19), (0, u "com/example/attestry/attestry/saml/Status"), (0, .methodref 18 21), (0, .nameAndType 5 22), (0, u "(Ljava/lang/String;Ljava/lang/String;Ljava/lang/String;)V"), (0, .methodref 18 24), (0, .nameAndType 25 26), (0, u "innermostCode"), (0, u "()Ljava/lang/String;"), (2, u "law"), (0, u "(IIII)Z")] 3

def k1m0 : Method := { name := "<init>", desc := "()V", sig := { parameters := [], returnType := none }, accessFlags := 2, code := none }
def k1c1 : Code := { maxStack := 4, maxLocals := 2, code := method_2_code, exceptionTable := #[], attributes := #[] }
def k1m1 : Method := { name := "drawn", desc := "(I)Ljava/lang/String;", sig := { parameters := [.int], returnType := some (.object "java/lang/String") }, accessFlags := 10, code := some k1c1 }
def k1c2 : Code := { maxStack := 5, maxLocals := 13, code := code, exceptionTable := #[], attributes := #[] }
def k1m2 : Method := { name := "law", desc := "(IIII)Z", sig := { parameters := [.int, .int, .int, .int], returnType := some .boolean }, accessFlags := 9, code := some k1c2 }
/-- com/example/attestry/attestry/saml/StatusInnermostCodePinLaw -/
def k1 : Class := { plain "com/example/attestry/attestry/saml/StatusInnermostCodePinLaw" (some 0) with
  accessFlags := 49
  interfaces := #[]
  cf := some (fileOf pool1 13 #[] #[{ accessFlags := 2, nameIndex := 5, descriptorIndex := 6, attributes := #[] }, { accessFlags := 10, nameIndex := 16, descriptorIndex := 17, attributes := #[] }, { accessFlags := 9, nameIndex := 29, descriptorIndex := 30, attributes := #[] }] 49 2 #[] #[])
  fields := #[]
  methods := #[k1m0, k1m1, k1m2]
  instanceTypes := #[]
  staticTypes := #[]
  resolved := Array.replicate 34 none
  statics := none }

def pool2 : Array CpInfo := pool [(1, .class_ 2), (0, u "java/io/Serializable"), (0, .class_ 4), (0, u "java/lang/Object")] 2

/-- java/io/Serializable -/
def k2 : Class := { plain "java/io/Serializable" (some 0) with
  accessFlags := 1537
  interfaces := #[]
  cf := some (fileOf pool2 1 #[] #[] 1537 3 #[] #[])
  fields := #[]
  methods := #[]
  instanceTypes := #[]
  staticTypes := #[]
  resolved := Array.replicate 7 none
  statics := none }

def pool3 : Array CpInfo := pool [(1, .class_ 2), (0, u "java/lang/Comparable"), (0, .class_ 4), (0, u "java/lang/Object")] 7

/-- java/lang/Comparable -/
def k3 : Class := { plain "java/lang/Comparable" (some 0) with
  accessFlags := 1537
  interfaces := #[]
  cf := some (fileOf pool3 1 #[] #[] 1537 3 #[] #[])
  fields := #[]
  methods := #[]
  instanceTypes := #[]
  staticTypes := #[]
  resolved := Array.replicate 12 none
  statics := none }

def pool4 : Array CpInfo := pool [(2, .class_ 4), (1, u "java/lang/CharSequence"), (42, .class_ 48), (0, u "java/lang/CharSequence$1CodePointIterator"), (10, .class_ 60), (0, u "java/lang/CharSequence$1CharIterator"), (5, .class_ 67), (0, u "java/lang/Object")] 63

/-- java/lang/CharSequence -/
def k4 : Class := { plain "java/lang/CharSequence" (some 0) with
  accessFlags := 1537
  interfaces := #[]
  cf := some (fileOf pool4 2 #[.nestMembers #[47, 59]] #[] 1537 66 #[] #[])
  fields := #[]
  methods := #[]
  instanceTypes := #[]
  staticTypes := #[]
  resolved := Array.replicate 131 none
  statics := none }

def pool5 : Array CpInfo := pool [(1, .class_ 2), (0, u "java/lang/constant/Constable"), (0, .class_ 4), (0, u "java/lang/Object")] 6

/-- java/lang/constant/Constable -/
def k5 : Class := { plain "java/lang/constant/Constable" (some 0) with
  accessFlags := 1537
  interfaces := #[]
  cf := some (fileOf pool5 1 #[] #[] 1537 3 #[] #[])
  fields := #[]
  methods := #[]
  instanceTypes := #[]
  staticTypes := #[]
  resolved := Array.replicate 11 none
  statics := none }

def pool6 : Array CpInfo := pool [(1, .class_ 2), (0, u "java/lang/constant/ConstantDesc"), (0, .class_ 4), (0, u "java/lang/Object")] 32

/-- java/lang/constant/ConstantDesc -/
def k6 : Class := { plain "java/lang/constant/ConstantDesc" (some 0) with
  accessFlags := 1537
  interfaces := #[]
  cf := some (fileOf pool6 1 #[] #[] 1537 3 #[] #[])
  fields := #[]
  methods := #[]
  instanceTypes := #[]
  staticTypes := #[]
  resolved := Array.replicate 37 none
  statics := none }

def pool7 : Array CpInfo := pool [(1, .methodref 2 3), (0, .class_ 4), (0, .nameAndType 5 6), (0, u "java/lang/Object"), (0, u "<init>"), (0, u "()V"), (0, .string 8), (0, u ""), (0, .fieldref 10 11), (0, .class_ 12), (0, .nameAndType 13 14), (0, u "java/lang/String"), (0, u "value"), (0, u "[B"), (0, .fieldref 10 16), (0, .nameAndType 17 18), (0, u "coder"), (0, u "B"), (2, u "hash"), (0, u "I"), (2, u "hashIsZero"), (0, u "Z"), (0, .methodref 10 28), (0, .nameAndType 5 29), (0, u "([CIILjava/lang/Void;)V"), (8, .fieldref 10 39), (0, .nameAndType 40 26), (0, u "COMPACT_STRINGS"), (1, .class_ 44), (1, u "java/lang/StringUTF16"), (0, u "compress"), (1, .methodref 42 48), (0, .nameAndType 49 50), (0, u "coderFromArrayLen"), (0, u "([BI)B"), (126, .methodref 42 178), (0, .nameAndType 45 179), (0, u "([CII)[B"), (395, .class_ 576), (0, u "java/lang/CharSequence"), (22, u "CASE_INSENSITIVE_ORDER"), (0, u "Ljava/util/Comparator;"), (409, u "([C)V"), (90, u "serialPersistentFields"), (0, u "[Ljava/io/ObjectStreamField;"), (0, .class_ 1104), (0, u "java/lang/String$CaseInsensitiveComparator"), (1, .class_ 1107), (0, u "java/io/Serializable"), (0, .class_ 1109), (0, u "java/lang/Comparable"), (0, .class_ 1111), (0, u "java/lang/constant/Constable"), (0, .class_ 1113), (0, u "java/lang/constant/ConstantDesc"), (2, u "serialVersionUID"), (0, u "J"), (3, u "REPL"), (0, u "C"), (2, u "LATIN1"), (1, u "UTF16")] 323

def k7m0 : Method := { name := "<init>", desc := "()V", sig := { parameters := [], returnType := none }, accessFlags := 1, code := none }
def k7c1 : Code := { maxStack := 5, maxLocals := 2, code := jdk_42_method_3_code, exceptionTable := #[], attributes := #[] }
def k7m1 : Method := { name := "<init>", desc := "([C)V", sig := { parameters := [(.array .char)], returnType := none }, accessFlags := 1, code := some k7c1 }
def k7c2 : Code := { maxStack := 4, maxLocals := 6, code := jdk_42_method_149_code, exceptionTable := #[], attributes := #[] }
def k7m2 : Method := { name := "<init>", desc := "([CIILjava/lang/Void;)V", sig := { parameters := [(.array .char), .int, .int, (.object "java/lang/Void")], returnType := none }, accessFlags := 2, code := some k7c2 }
/-- java/lang/String -/
def k7 : Class := { plain "java/lang/String" (some 0) with
  accessFlags := 49
  interfaces := #[2, 3, 4, 5, 6]
  cf := some (fileOf pool7 10 #[.nestMembers #[1103]] #[{ accessFlags := 1, nameIndex := 5, descriptorIndex := 6, attributes := #[] }, { accessFlags := 1, nameIndex := 5, descriptorIndex := 1010, attributes := #[] }, { accessFlags := 2, nameIndex := 5, descriptorIndex := 29, attributes := #[] }] 49 2 #[1106, 1108, 575, 1110, 1112] #[{ accessFlags := 18, nameIndex := 13, descriptorIndex := 14, attributes := #[] }, { accessFlags := 18, nameIndex := 17, descriptorIndex := 18, attributes := #[] }, { accessFlags := 2, nameIndex := 21, descriptorIndex := 22, attributes := #[] }, { accessFlags := 2, nameIndex := 25, descriptorIndex := 26, attributes := #[] }, { accessFlags := 26, nameIndex := 1116, descriptorIndex := 1117, attributes := #[] }, { accessFlags := 24, nameIndex := 40, descriptorIndex := 26, attributes := #[] }, { accessFlags := 26, nameIndex := 1101, descriptorIndex := 1102, attributes := #[] }, { accessFlags := 26, nameIndex := 1121, descriptorIndex := 1122, attributes := #[] }, { accessFlags := 25, nameIndex := 599, descriptorIndex := 600, attributes := #[] }, { accessFlags := 24, nameIndex := 1125, descriptorIndex := 18, attributes := #[] }, { accessFlags := 24, nameIndex := 1127, descriptorIndex := 18, attributes := #[] }])
  fields := #[{ name := "value", type := (.array .byte), accessFlags := 18, slot := 0, constantValue := 0 }, { name := "coder", type := .byte, accessFlags := 18, slot := 1, constantValue := 0 }, { name := "hash", type := .int, accessFlags := 2, slot := 2, constantValue := 0 }, { name := "hashIsZero", type := .boolean, accessFlags := 2, slot := 3, constantValue := 0 }, { name := "serialVersionUID", type := .long, accessFlags := 26, slot := 0, constantValue := 0 }, { name := "COMPACT_STRINGS", type := .boolean, accessFlags := 24, slot := 1, constantValue := 0 }, { name := "serialPersistentFields", type := (.array (.object "java/io/ObjectStreamField")), accessFlags := 26, slot := 2, constantValue := 0 }, { name := "REPL", type := .char, accessFlags := 26, slot := 3, constantValue := 0 }, { name := "CASE_INSENSITIVE_ORDER", type := (.object "java/util/Comparator"), accessFlags := 25, slot := 4, constantValue := 0 }, { name := "LATIN1", type := .byte, accessFlags := 24, slot := 5, constantValue := 0 }, { name := "UTF16", type := .byte, accessFlags := 24, slot := 6, constantValue := 0 }]
  methods := #[k7m0, k7m1, k7m2]
  instanceTypes := #[(.array .byte), .byte, .int, .boolean]
  staticTypes := #[.long, .boolean, (.array (.object "java/io/ObjectStreamField")), .char, (.object "java/util/Comparator"), .byte, .byte]
  resolved := Array.replicate 1451 none
  statics := some 0 }

def pool8 : Array CpInfo := pool [(6, .class_ 8), (1, u "java/lang/Object"), (0, u "<init>"), (0, u "()V"), (1, .class_ 14), (1, u "java/lang/StringUTF16"), (31, u "$assertionsDisabled"), (0, u "Z"), (13, u "HI_BYTE_SHIFT"), (0, u "I"), (2, u "LO_BYTE_SHIFT"), (49, .methodref 12 116), (0, .nameAndType 117 118), (0, u "compress"), (0, u "([CI[BII)I"), (3, u "([CII)[B"), (138, u "coderFromArrayLen"), (0, u "([BI)B"), (106, .class_ 371), (1, u "java/lang/StringUTF16$LinesSpliterator"), (58, u "MAX_LENGTH"), (196, .class_ 628), (0, u "java/lang/StringUTF16$CodePointsSpliterator"), (0, .class_ 630), (0, u "java/lang/StringUTF16$CharsSpliterator")] 4

def k8m0 : Method := { name := "<init>", desc := "()V", sig := { parameters := [], returnType := none }, accessFlags := 0, code := none }
def k8c1 : Code := { maxStack := 2, maxLocals := 2, code := jdk_52_method_15_code, exceptionTable := #[], attributes := #[] }
def k8m1 : Method := { name := "coderFromArrayLen", desc := "([BI)B", sig := { parameters := [(.array .byte), .int], returnType := some .byte }, accessFlags := 8, code := some k8c1 }
def k8c2 : Code := { maxStack := 5, maxLocals := 6, code := jdk_52_method_16_code, exceptionTable := #[], attributes := #[] }
def k8m2 : Method := { name := "compress", desc := "([CII)[B", sig := { parameters := [(.array .char), .int, .int], returnType := some (.array .byte) }, accessFlags := 9, code := some k8c2 }
def k8c3 : Code := { maxStack := 3, maxLocals := 7, code := jdk_52_method_21_code, exceptionTable := #[], attributes := #[] }
def k8m3 : Method := { name := "compress", desc := "([CI[BII)I", sig := { parameters := [(.array .char), .int, (.array .byte), .int, .int], returnType := some .int }, accessFlags := 9, code := some k8c3 }
/-- java/lang/StringUTF16 -/
def k8 : Class := { plain "java/lang/StringUTF16" (some 0) with
  accessFlags := 48
  interfaces := #[]
  cf := some (fileOf pool8 12 #[.nestMembers #[627, 629, 369]] #[{ accessFlags := 0, nameIndex := 9, descriptorIndex := 10, attributes := #[] }, { accessFlags := 8, nameIndex := 261, descriptorIndex := 262, attributes := #[] }, { accessFlags := 9, nameIndex := 117, descriptorIndex := 122, attributes := #[] }, { accessFlags := 9, nameIndex := 117, descriptorIndex := 118, attributes := #[] }] 48 6 #[] #[{ accessFlags := 26, nameIndex := 61, descriptorIndex := 62, attributes := #[] }, { accessFlags := 26, nameIndex := 65, descriptorIndex := 62, attributes := #[] }, { accessFlags := 24, nameIndex := 430, descriptorIndex := 62, attributes := #[] }, { accessFlags := 4120, nameIndex := 46, descriptorIndex := 47, attributes := #[] }])
  fields := #[{ name := "HI_BYTE_SHIFT", type := .int, accessFlags := 26, slot := 0, constantValue := 0 }, { name := "LO_BYTE_SHIFT", type := .int, accessFlags := 26, slot := 1, constantValue := 0 }, { name := "MAX_LENGTH", type := .int, accessFlags := 24, slot := 2, constantValue := 0 }, { name := "$assertionsDisabled", type := .boolean, accessFlags := 4120, slot := 3, constantValue := 0 }]
  methods := #[k8m0, k8m1, k8m2, k8m3]
  instanceTypes := #[]
  staticTypes := #[.int, .int, .int, .boolean]
  resolved := Array.replicate 635 none
  statics := none }

def pool9 : Array CpInfo := pool [(1, .methodref 2 3), (0, .class_ 4), (0, .nameAndType 5 6), (0, u "java/lang/Object"), (0, u "<init>"), (0, u "()V"), (0, .class_ 8), (0, u "java/lang/Record")] 13

def k9c0 : Code := { maxStack := 1, maxLocals := 1, code := jdk_30_method_1_code, exceptionTable := #[], attributes := #[] }
def k9m0 : Method := { name := "<init>", desc := "()V", sig := { parameters := [], returnType := none }, accessFlags := 4, code := some k9c0 }
/-- java/lang/Record -/
def k9 : Class := { plain "java/lang/Record" (some 0) with
  accessFlags := 1057
  interfaces := #[]
  cf := some (fileOf pool9 7 #[] #[{ accessFlags := 4, nameIndex := 5, descriptorIndex := 6, attributes := #[] }] 1057 2 #[] #[])
  fields := #[]
  methods := #[k9m0]
  instanceTypes := #[]
  staticTypes := #[]
  resolved := Array.replicate 22 none
  statics := none }

def pool10 : Array CpInfo := pool [(1, .class_ 2), (0, u "com/example/attestry/attestry/saml/Status"), (0, .methodref 4 5), (0, .class_ 6), (0, .nameAndType 7 8), (0, u "java/lang/Record"), (0, u "<init>"), (0, u "()V"), (0, .fieldref 1 10), (0, .nameAndType 11 12), (0, u "code"), (0, u "Ljava/lang/String;"), (0, .fieldref 1 14), (0, .nameAndType 15 12), (0, u "subcode"), (0, .fieldref 1 17), (0, .nameAndType 18 12), (0, u "message"), (4, u "(Ljava/lang/String;Ljava/lang/String;Ljava/lang/String;)V"), (88, u "OK"), (0, u "Lcom/example/attestry/attestry/saml/Status;"), (0, u "PREFIX"), (3, u "SUCCESS"), (0, u "REQUESTER"), (0, u "VERSION_MISMATCH"), (2, u "UNKNOWN_PRINCIPAL"), (2, u "REQUEST_DENIED"), (10, u "innermostCode"), (0, u "()Ljava/lang/String;")] 49

def k10c0 : Code := { maxStack := 2, maxLocals := 4, code := prog_58_method_1_code, exceptionTable := #[], attributes := #[] }
def k10m0 : Method := { name := "<init>", desc := "(Ljava/lang/String;Ljava/lang/String;Ljava/lang/String;)V", sig := { parameters := [(.object "java/lang/String"), (.object "java/lang/String"), (.object "java/lang/String")], returnType := none }, accessFlags := 1, code := some k10c0 }
def k10c1 : Code := { maxStack := 1, maxLocals := 1, code := prog_58_method_5_code, exceptionTable := #[], attributes := #[] }
def k10m1 : Method := { name := "innermostCode", desc := "()Ljava/lang/String;", sig := { parameters := [], returnType := some (.object "java/lang/String") }, accessFlags := 1, code := some k10c1 }
/-- com/example/attestry/attestry/saml/Status -/
def k10 : Class := { plain "com/example/attestry/attestry/saml/Status" (some 9) with
  accessFlags := 49
  interfaces := #[]
  cf := some (fileOf pool10 1 #[] #[{ accessFlags := 1, nameIndex := 7, descriptorIndex := 23, attributes := #[] }, { accessFlags := 1, nameIndex := 137, descriptorIndex := 138, attributes := #[] }] 49 4 #[] #[{ accessFlags := 18, nameIndex := 11, descriptorIndex := 12, attributes := #[] }, { accessFlags := 18, nameIndex := 15, descriptorIndex := 12, attributes := #[] }, { accessFlags := 18, nameIndex := 18, descriptorIndex := 12, attributes := #[] }, { accessFlags := 26, nameIndex := 114, descriptorIndex := 12, attributes := #[] }, { accessFlags := 25, nameIndex := 118, descriptorIndex := 12, attributes := #[] }, { accessFlags := 25, nameIndex := 119, descriptorIndex := 12, attributes := #[] }, { accessFlags := 25, nameIndex := 120, descriptorIndex := 12, attributes := #[] }, { accessFlags := 25, nameIndex := 123, descriptorIndex := 12, attributes := #[] }, { accessFlags := 25, nameIndex := 126, descriptorIndex := 12, attributes := #[] }, { accessFlags := 25, nameIndex := 112, descriptorIndex := 113, attributes := #[] }])
  fields := #[{ name := "code", type := (.object "java/lang/String"), accessFlags := 18, slot := 0, constantValue := 0 }, { name := "subcode", type := (.object "java/lang/String"), accessFlags := 18, slot := 1, constantValue := 0 }, { name := "message", type := (.object "java/lang/String"), accessFlags := 18, slot := 2, constantValue := 0 }, { name := "PREFIX", type := (.object "java/lang/String"), accessFlags := 26, slot := 0, constantValue := 0 }, { name := "SUCCESS", type := (.object "java/lang/String"), accessFlags := 25, slot := 1, constantValue := 0 }, { name := "REQUESTER", type := (.object "java/lang/String"), accessFlags := 25, slot := 2, constantValue := 0 }, { name := "VERSION_MISMATCH", type := (.object "java/lang/String"), accessFlags := 25, slot := 3, constantValue := 0 }, { name := "UNKNOWN_PRINCIPAL", type := (.object "java/lang/String"), accessFlags := 25, slot := 4, constantValue := 0 }, { name := "REQUEST_DENIED", type := (.object "java/lang/String"), accessFlags := 25, slot := 5, constantValue := 0 }, { name := "OK", type := (.object "com/example/attestry/attestry/saml/Status"), accessFlags := 25, slot := 6, constantValue := 0 }]
  methods := #[k10m0, k10m1]
  instanceTypes := #[(.object "java/lang/String"), (.object "java/lang/String"), (.object "java/lang/String")]
  staticTypes := #[(.object "java/lang/String"), (.object "java/lang/String"), (.object "java/lang/String"), (.object "java/lang/String"), (.object "java/lang/String"), (.object "java/lang/String"), (.object "com/example/attestry/attestry/saml/Status")]
  resolved := Array.replicate 188 none
  statics := none }

def pool11 : Array CpInfo := pool [(4, .class_ 6), (1, u "java/lang/Object"), (0, u "<init>"), (0, u "()V"), (5, .class_ 16), (1, u "java/lang/StringLatin1"), (104, u "$assertionsDisabled"), (0, u "Z"), (98, .class_ 223), (1, u "java/lang/StringLatin1$LinesSpliterator"), (166, .class_ 391), (0, u "java/lang/StringLatin1$CharsSpliterator")] 3

def k11m0 : Method := { name := "<init>", desc := "()V", sig := { parameters := [], returnType := none }, accessFlags := 0, code := none }
/-- java/lang/StringLatin1 -/
def k11 : Class := { plain "java/lang/StringLatin1" (some 0) with
  accessFlags := 48
  interfaces := #[]
  cf := some (fileOf pool11 14 #[.nestMembers #[390, 221]] #[{ accessFlags := 0, nameIndex := 7, descriptorIndex := 8, attributes := #[] }] 48 4 #[] #[{ accessFlags := 4120, nameIndex := 121, descriptorIndex := 122, attributes := #[] }])
  fields := #[{ name := "$assertionsDisabled", type := .boolean, accessFlags := 4120, slot := 0, constantValue := 0 }]
  methods := #[k11m0]
  instanceTypes := #[]
  staticTypes := #[.boolean]
  resolved := Array.replicate 395 none
  statics := none }

def pool12 : Array CpInfo := pool [(2, .class_ 4), (1, u "java/lang/Object"), (0, u "<init>"), (0, u "()V"), (17, .class_ 26), (1, u "jdk/internal/util/Preconditions"), (28, .class_ 56), (0, u "jdk/internal/util/Preconditions$4"), (57, .class_ 115), (0, u "jdk/internal/util/Preconditions$1"), (7, u "SIOOBE_FORMATTER"), (0, u "Ljava/util/function/BiFunction;"), (0, .class_ 126), (0, u "jdk/internal/util/Preconditions$2"), (3, u "AIOOBE_FORMATTER"), (0, .class_ 132), (0, u "jdk/internal/util/Preconditions$3"), (3, u "IOOBE_FORMATTER")] 57

def k12m0 : Method := { name := "<init>", desc := "()V", sig := { parameters := [], returnType := none }, accessFlags := 1, code := none }
/-- jdk/internal/util/Preconditions -/
def k12 : Class := { plain "jdk/internal/util/Preconditions" (some 0) with
  accessFlags := 33
  interfaces := #[]
  cf := some (fileOf pool12 24 #[.nestMembers #[55, 131, 125, 114]] #[{ accessFlags := 1, nameIndex := 5, descriptorIndex := 6, attributes := #[] }] 33 2 #[] #[{ accessFlags := 25, nameIndex := 123, descriptorIndex := 124, attributes := #[] }, { accessFlags := 25, nameIndex := 130, descriptorIndex := 124, attributes := #[] }, { accessFlags := 25, nameIndex := 136, descriptorIndex := 124, attributes := #[] }])
  fields := #[{ name := "SIOOBE_FORMATTER", type := (.object "java/util/function/BiFunction"), accessFlags := 25, slot := 0, constantValue := 0 }, { name := "AIOOBE_FORMATTER", type := (.object "java/util/function/BiFunction"), accessFlags := 25, slot := 1, constantValue := 0 }, { name := "IOOBE_FORMATTER", type := (.object "java/util/function/BiFunction"), accessFlags := 25, slot := 2, constantValue := 0 }]
  methods := #[k12m0]
  instanceTypes := #[]
  staticTypes := #[(.object "java/util/function/BiFunction"), (.object "java/util/function/BiFunction"), (.object "java/util/function/BiFunction")]
  resolved := Array.replicate 194 none
  statics := some 1 }

def pool13 : Array CpInfo := pool [(9, u "<init>"), (6, .class_ 18), (1, u "java/lang/Object"), (0, u "()V"), (1, .class_ 23), (1, u "jdk/internal/util/ArraysSupport"), (0, u "LOG2_ARRAY_LONG_INDEX_SCALE"), (0, u "I"), (2, u "U"), (0, u "Ljdk/internal/misc/Unsafe;"), (8, u "BIG_ENDIAN"), (0, u "Z"), (8, u "LOG2_BYTE_BIT_SIZE"), (4, u "LOG2_ARRAY_INT_INDEX_SCALE"), (54, u "JLA"), (0, u "Ljdk/internal/access/JavaLangAccess;"), (11, u "LOG2_ARRAY_BOOLEAN_INDEX_SCALE"), (9, u "LOG2_ARRAY_BYTE_INDEX_SCALE"), (5, u "LOG2_ARRAY_CHAR_INDEX_SCALE"), (5, u "LOG2_ARRAY_SHORT_INDEX_SCALE"), (18, u "LOG2_ARRAY_FLOAT_INDEX_SCALE"), (24, u "LOG2_ARRAY_DOUBLE_INDEX_SCALE"), (89, u "T_BOOLEAN"), (2, u "T_CHAR"), (1, u "T_FLOAT"), (1, u "T_DOUBLE"), (1, u "T_BYTE"), (1, u "T_SHORT"), (1, u "T_INT"), (1, u "T_LONG"), (1, u "SOFT_MAX_ARRAY_LENGTH")] 83

def k13m0 : Method := { name := "<init>", desc := "()V", sig := { parameters := [], returnType := none }, accessFlags := 2, code := none }
/-- jdk/internal/util/ArraysSupport -/
def k13 : Class := { plain "jdk/internal/util/ArraysSupport" (some 0) with
  accessFlags := 33
  interfaces := #[]
  cf := some (fileOf pool13 21 #[] #[{ accessFlags := 2, nameIndex := 9, descriptorIndex := 19, attributes := #[] }] 33 16 #[] #[{ accessFlags := 24, nameIndex := 28, descriptorIndex := 29, attributes := #[] }, { accessFlags := 26, nameIndex := 38, descriptorIndex := 39, attributes := #[] }, { accessFlags := 25, nameIndex := 121, descriptorIndex := 25, attributes := #[] }, { accessFlags := 25, nameIndex := 131, descriptorIndex := 25, attributes := #[] }, { accessFlags := 25, nameIndex := 137, descriptorIndex := 25, attributes := #[] }, { accessFlags := 25, nameIndex := 143, descriptorIndex := 25, attributes := #[] }, { accessFlags := 25, nameIndex := 53, descriptorIndex := 25, attributes := #[] }, { accessFlags := 25, nameIndex := 24, descriptorIndex := 25, attributes := #[] }, { accessFlags := 25, nameIndex := 162, descriptorIndex := 25, attributes := #[] }, { accessFlags := 25, nameIndex := 187, descriptorIndex := 25, attributes := #[] }, { accessFlags := 26, nameIndex := 48, descriptorIndex := 25, attributes := #[] }, { accessFlags := 25, nameIndex := 277, descriptorIndex := 25, attributes := #[] }, { accessFlags := 25, nameIndex := 280, descriptorIndex := 25, attributes := #[] }, { accessFlags := 25, nameIndex := 282, descriptorIndex := 25, attributes := #[] }, { accessFlags := 25, nameIndex := 284, descriptorIndex := 25, attributes := #[] }, { accessFlags := 25, nameIndex := 286, descriptorIndex := 25, attributes := #[] }, { accessFlags := 25, nameIndex := 288, descriptorIndex := 25, attributes := #[] }, { accessFlags := 25, nameIndex := 290, descriptorIndex := 25, attributes := #[] }, { accessFlags := 25, nameIndex := 292, descriptorIndex := 25, attributes := #[] }, { accessFlags := 26, nameIndex := 108, descriptorIndex := 109, attributes := #[] }, { accessFlags := 25, nameIndex := 294, descriptorIndex := 25, attributes := #[] }])
  fields := #[{ name := "U", type := (.object "jdk/internal/misc/Unsafe"), accessFlags := 24, slot := 0, constantValue := 0 }, { name := "BIG_ENDIAN", type := .boolean, accessFlags := 26, slot := 1, constantValue := 0 }, { name := "LOG2_ARRAY_BOOLEAN_INDEX_SCALE", type := .int, accessFlags := 25, slot := 2, constantValue := 0 }, { name := "LOG2_ARRAY_BYTE_INDEX_SCALE", type := .int, accessFlags := 25, slot := 3, constantValue := 0 }, { name := "LOG2_ARRAY_CHAR_INDEX_SCALE", type := .int, accessFlags := 25, slot := 4, constantValue := 0 }, { name := "LOG2_ARRAY_SHORT_INDEX_SCALE", type := .int, accessFlags := 25, slot := 5, constantValue := 0 }, { name := "LOG2_ARRAY_INT_INDEX_SCALE", type := .int, accessFlags := 25, slot := 6, constantValue := 0 }, { name := "LOG2_ARRAY_LONG_INDEX_SCALE", type := .int, accessFlags := 25, slot := 7, constantValue := 0 }, { name := "LOG2_ARRAY_FLOAT_INDEX_SCALE", type := .int, accessFlags := 25, slot := 8, constantValue := 0 }, { name := "LOG2_ARRAY_DOUBLE_INDEX_SCALE", type := .int, accessFlags := 25, slot := 9, constantValue := 0 }, { name := "LOG2_BYTE_BIT_SIZE", type := .int, accessFlags := 26, slot := 10, constantValue := 0 }, { name := "T_BOOLEAN", type := .int, accessFlags := 25, slot := 11, constantValue := 0 }, { name := "T_CHAR", type := .int, accessFlags := 25, slot := 12, constantValue := 0 }, { name := "T_FLOAT", type := .int, accessFlags := 25, slot := 13, constantValue := 0 }, { name := "T_DOUBLE", type := .int, accessFlags := 25, slot := 14, constantValue := 0 }, { name := "T_BYTE", type := .int, accessFlags := 25, slot := 15, constantValue := 0 }, { name := "T_SHORT", type := .int, accessFlags := 25, slot := 16, constantValue := 0 }, { name := "T_INT", type := .int, accessFlags := 25, slot := 17, constantValue := 0 }, { name := "T_LONG", type := .int, accessFlags := 25, slot := 18, constantValue := 0 }, { name := "JLA", type := (.object "jdk/internal/access/JavaLangAccess"), accessFlags := 26, slot := 19, constantValue := 0 }, { name := "SOFT_MAX_ARRAY_LENGTH", type := .int, accessFlags := 25, slot := 20, constantValue := 0 }]
  methods := #[k13m0]
  instanceTypes := #[]
  staticTypes := #[(.object "jdk/internal/misc/Unsafe"), .boolean, .int, .int, .int, .int, .int, .int, .int, .int, .int, .int, .int, .int, .int, .int, .int, .int, .int, (.object "jdk/internal/access/JavaLangAccess"), .int]
  resolved := Array.replicate 378 none
  statics := none }

def pool14 : Array CpInfo := pool [(1, u "java/lang/Cloneable"), (0, .class_ 1), (0, u "java/lang/Object"), (0, .class_ 3)] 3

/-- java/lang/Cloneable -/
def k14 : Class := { plain "java/lang/Cloneable" (some 0) with
  accessFlags := 1537
  interfaces := #[]
  cf := some (fileOf pool14 2 #[] #[] 1537 4 #[] #[])
  fields := #[]
  methods := #[]
  instanceTypes := #[]
  staticTypes := #[]
  resolved := Array.replicate 8 none
  statics := none }

/-- the primitive byte -/
def k15 : Class := { plain "byte" none with kind := .primitive 'B', accessFlags := 0x411 }
/-- [B -/
def k16 : Class := { plain "[B" (some 0) with kind := .array 15 .byte, interfaces := #[14, 2], accessFlags := 1041 }

/-- the primitive char -/
def k17 : Class := { plain "char" none with kind := .primitive 'C', accessFlags := 0x411 }
/-- [C -/
def k18 : Class := { plain "[C" (some 0) with kind := .array 17 .char, interfaces := #[14, 2], accessFlags := 1041 }

/-- the primitive int -/
def k19 : Class := { plain "int" none with kind := .primitive 'I', accessFlags := 0x411 }
/-- [I -/
def k20 : Class := { plain "[I" (some 0) with kind := .array 19 .int, interfaces := #[14, 2], accessFlags := 1041 }

def heap : Heap := #[{ cls := 7, slots := #[.long 0, .int 1, .null, .int 0, .null, .int 0, .int 0], vm := .statics 7 },
  { cls := 12, slots := #[.null, .null, .null], vm := .statics 12 }]
def classes : Array Class := #[k0, k1, k2, k3, k4, k5, k6, k7, k8, k9, k10, k11, k12, k13, k14, k15, k16, k17, k18, k19, k20]
def interned : List (Array UInt16 × Addr) := []
def slotsUsed : Nat := 10
def theMethod : MethodId := ⟨1, 2⟩
def args0 : Array Value := #[.int 5, .int 6, .int 3, .int 0]
def aboutOver (below : List Frame) : State where
  vm := { classes := classes, interned := interned.toArray }
  heap := heap
  slotsUsed := slotsUsed
  threads := #[{ frames := .invoking theMethod args0 :: below }]
def below0 : List Frame := [.native { method := ⟨0, 0⟩, args := #[] }]
def about1 : State := aboutOver below0
def p0 : Program := .bare "" "" ""
def e0 : Env := launch0.env 0 0 0
theorem w_frames : about1.frames = Frame.invoking theMethod args0 :: below0 := rfl
set_option maxRecDepth 65536 in
theorem w_args : argsFit about1.vm theMethod args0 = true := by decide +kernel
set_option maxRecDepth 65536 in
theorem w_heap : heapFits about1 = true := by decide +kernel
set_option maxRecDepth 65536 in
theorem w_runnable : about1.curStatus? = some .runnable := by decide +kernel
set_option maxRecDepth 65536 in
theorem w_alone : about1.alone = true := by decide +kernel
set_option maxRecDepth 65536 in
theorem w_named : about1.methodNamed? x = some theMethod := by decide +kernel
set_option maxRecDepth 65536 in
theorem w_hears : about1.hears theMethod below0 = true := by decide +kernel
set_option maxRecDepth 65536 in
theorem w_ripe : about1.ripe theMethod args0 below0 = true := by decide +kernel
theorem w_running : about1.status = .running := rfl
set_option maxRecDepth 65536 in
theorem w_room : about1.hasRoom e0.platform room_1 = true :=
  launch0.hasRoom_least _ room_1 (by decide +kernel) (by decide +kernel) (by decide +kernel) (by decide +kernel) (by decide +kernel) (by decide +kernel)
theorem allAtoms_all (ts : List Jvm.Cond) (a : Array Jvm.Value) (st : Jvm.State) : (allAtoms ts).before a st = ts.all (fun c => c.before a st) := by
  induction ts with
  | nil => rfl
  | cons c t ih =>
    show (Jvm.Cond.and c (allAtoms t)).before a st = _
    rw [Jvm.Cond.before_and, ih, List.all_cons]
def words1 : List Jvm.Cond := Jvm.Cond.code x code maxLocals ret :: tables_1
/-- a 'code' word, met by the world's own term for the bytes: nothing is compared byte by byte -/
theorem code_word {y : MethodName} {bytes : ByteArray} {mx : Nat} {rt : Option FieldType} {a : Array Value} {s : State} {m : MethodId} {meth : Method} {c : Code} (h1 : s.methodNamed? y = some m) (h2 : s.vm.method? m = some meth) (h3 : meth.code = some c) (h4 : c.code = bytes)
    (h5 : (c.maxLocals == mx && c.exceptionTable.isEmpty && decide (c.maxStack ≤ mostOperands) && decide (meth.sig.returnType = rt) && !meth.locks && decide (parseMethodDescriptor y.desc = some meth.sig)) = true) : (Jvm.Cond.code y bytes mx rt).before a s = true := by
  simp only [Bool.and_eq_true, beq_iff_eq, Bool.not_eq_true', decide_eq_true_eq] at h5
  obtain ⟨⟨⟨⟨⟨g1, g2⟩, g3⟩, g4⟩, g5⟩, g6⟩ := h5
  simp [Cond.before, Cond.holds, Cond.value, h1, h2, h3, h4, g1, g2, g3, g4, g5, g6]
def isCode : Jvm.Cond → Bool
  | .code _ _ _ _ => true
  | _ => false
theorem all_split {L : List Jvm.Cond} {P : Jvm.Cond → Bool} (h1 : L.all (fun c => isCode c || P c) = true) (h2 : ∀ c ∈ L.filter isCode, P c = true) : L.all P = true := by
  refine List.all_eq_true.mpr fun c hc => ?_
  have h := List.all_eq_true.mp h1 c hc
  rcases Bool.eq_false_or_eq_true (isCode c) with hi | hi
  · exact h2 c (List.mem_filter.mpr ⟨hc, hi⟩)
  · simpa [hi] using h
set_option maxRecDepth 65536 in
theorem w_c0 : (Jvm.Cond.code x code maxLocals ret).before args0 about1 = true := code_word (m := ⟨1, 2⟩) (meth := k1m2) (c := k1c2) (by decide +kernel) rfl rfl rfl (by decide +kernel)
set_option maxRecDepth 65536 in
theorem w_c1 : (Jvm.Cond.code ({ cls := "com/example/attestry/attestry/saml/StatusInnermostCodePinLaw", name := "drawn", desc := "(I)Ljava/lang/String;" } : Jvm.MethodName) method_2_code (2 : Nat) (Option.some (Jvm.ClassFile.FieldType.object "java/lang/String"))).before args0 about1 = true := code_word (m := ⟨1, 1⟩) (meth := k1m1) (c := k1c1) (by decide +kernel) rfl rfl rfl (by decide +kernel)
set_option maxRecDepth 65536 in
theorem w_c2 : (Jvm.Cond.code ({ cls := "java/lang/String", name := "<init>", desc := "([C)V" } : Jvm.MethodName) jdk_42_method_3_code (2 : Nat) (Option.none : Option Jvm.ClassFile.FieldType)).before args0 about1 = true := code_word (m := ⟨7, 1⟩) (meth := k7m1) (c := k7c1) (by decide +kernel) rfl rfl rfl (by decide +kernel)
set_option maxRecDepth 65536 in
theorem w_c3 : (Jvm.Cond.code ({ cls := "java/lang/String", name := "<init>", desc := "([CIILjava/lang/Void;)V" } : Jvm.MethodName) jdk_42_method_149_code (6 : Nat) (Option.none : Option Jvm.ClassFile.FieldType)).before args0 about1 = true := code_word (m := ⟨7, 2⟩) (meth := k7m2) (c := k7c2) (by decide +kernel) rfl rfl rfl (by decide +kernel)
set_option maxRecDepth 65536 in
theorem w_c4 : (Jvm.Cond.code ({ cls := "java/lang/Object", name := "<init>", desc := "()V" } : Jvm.MethodName) object_method_1_code (1 : Nat) (Option.none : Option Jvm.ClassFile.FieldType)).before args0 about1 = true := code_word (m := ⟨0, 0⟩) (meth := k0m0) (c := k0c0) (by decide +kernel) rfl rfl rfl (by decide +kernel)
set_option maxRecDepth 65536 in
theorem w_c5 : (Jvm.Cond.code ({ cls := "java/lang/StringUTF16", name := "compress", desc := "([CII)[B" } : Jvm.MethodName) jdk_52_method_16_code (6 : Nat) (Option.some (Jvm.ClassFile.FieldType.array Jvm.ClassFile.FieldType.byte))).before args0 about1 = true := code_word (m := ⟨8, 2⟩) (meth := k8m2) (c := k8c2) (by decide +kernel) rfl rfl rfl (by decide +kernel)
set_option maxRecDepth 65536 in
theorem w_c6 : (Jvm.Cond.code ({ cls := "java/lang/StringUTF16", name := "compress", desc := "([CI[BII)I" } : Jvm.MethodName) jdk_52_method_21_code (7 : Nat) (Option.some Jvm.ClassFile.FieldType.int)).before args0 about1 = true := code_word (m := ⟨8, 3⟩) (meth := k8m3) (c := k8c3) (by decide +kernel) rfl rfl rfl (by decide +kernel)
set_option maxRecDepth 65536 in
theorem w_c7 : (Jvm.Cond.code ({ cls := "java/lang/StringUTF16", name := "coderFromArrayLen", desc := "([BI)B" } : Jvm.MethodName) jdk_52_method_15_code (2 : Nat) (Option.some Jvm.ClassFile.FieldType.byte)).before args0 about1 = true := code_word (m := ⟨8, 1⟩) (meth := k8m1) (c := k8c1) (by decide +kernel) rfl rfl rfl (by decide +kernel)
set_option maxRecDepth 65536 in
theorem w_c8 : (Jvm.Cond.code ({ cls := "com/example/attestry/attestry/saml/Status", name := "<init>", desc := "(Ljava/lang/String;Ljava/lang/String;Ljava/lang/String;)V" } : Jvm.MethodName) prog_58_method_1_code (4 : Nat) (Option.none : Option Jvm.ClassFile.FieldType)).before args0 about1 = true := code_word (m := ⟨10, 0⟩) (meth := k10m0) (c := k10c0) (by decide +kernel) rfl rfl rfl (by decide +kernel)
set_option maxRecDepth 65536 in
theorem w_c9 : (Jvm.Cond.code ({ cls := "java/lang/Record", name := "<init>", desc := "()V" } : Jvm.MethodName) jdk_30_method_1_code (1 : Nat) (Option.none : Option Jvm.ClassFile.FieldType)).before args0 about1 = true := code_word (m := ⟨9, 0⟩) (meth := k9m0) (c := k9c0) (by decide +kernel) rfl rfl rfl (by decide +kernel)
set_option maxRecDepth 65536 in
theorem w_c10 : (Jvm.Cond.code ({ cls := "com/example/attestry/attestry/saml/Status", name := "innermostCode", desc := "()Ljava/lang/String;" } : Jvm.MethodName) prog_58_method_5_code (1 : Nat) (Option.some (Jvm.ClassFile.FieldType.object "java/lang/String"))).before args0 about1 = true := code_word (m := ⟨10, 1⟩) (meth := k10m1) (c := k10c1) (by decide +kernel) rfl rfl rfl (by decide +kernel)
def codes1 : List Jvm.Cond := [Jvm.Cond.code x code maxLocals ret, Jvm.Cond.code ({ cls := "com/example/attestry/attestry/saml/StatusInnermostCodePinLaw", name := "drawn", desc := "(I)Ljava/lang/String;" } : Jvm.MethodName) method_2_code (2 : Nat) (Option.some (Jvm.ClassFile.FieldType.object "java/lang/String")), Jvm.Cond.code ({ cls := "java/lang/String", name := "<init>", desc := "([C)V" } : Jvm.MethodName) jdk_42_method_3_code (2 : Nat) (Option.none : Option Jvm.ClassFile.FieldType), Jvm.Cond.code ({ cls := "java/lang/String", name := "<init>", desc := "([CIILjava/lang/Void;)V" } : Jvm.MethodName) jdk_42_method_149_code (6 : Nat) (Option.none : Option Jvm.ClassFile.FieldType), Jvm.Cond.code ({ cls := "java/lang/Object", name := "<init>", desc := "()V" } : Jvm.MethodName) object_method_1_code (1 : Nat) (Option.none : Option Jvm.ClassFile.FieldType), Jvm.Cond.code ({ cls := "java/lang/StringUTF16", name := "compress", desc := "([CII)[B" } : Jvm.MethodName) jdk_52_method_16_code (6 : Nat) (Option.some (Jvm.ClassFile.FieldType.array Jvm.ClassFile.FieldType.byte)), Jvm.Cond.code ({ cls := "java/lang/StringUTF16", name := "compress", desc := "([CI[BII)I" } : Jvm.MethodName) jdk_52_method_21_code (7 : Nat) (Option.some Jvm.ClassFile.FieldType.int), Jvm.Cond.code ({ cls := "java/lang/StringUTF16", name := "coderFromArrayLen", desc := "([BI)B" } : Jvm.MethodName) jdk_52_method_15_code (2 : Nat) (Option.some Jvm.ClassFile.FieldType.byte), Jvm.Cond.code ({ cls := "com/example/attestry/attestry/saml/Status", name := "<init>", desc := "(Ljava/lang/String;Ljava/lang/String;Ljava/lang/String;)V" } : Jvm.MethodName) prog_58_method_1_code (4 : Nat) (Option.none : Option Jvm.ClassFile.FieldType), Jvm.Cond.code ({ cls := "java/lang/Record", name := "<init>", desc := "()V" } : Jvm.MethodName) jdk_30_method_1_code (1 : Nat) (Option.none : Option Jvm.ClassFile.FieldType), Jvm.Cond.code ({ cls := "com/example/attestry/attestry/saml/Status", name := "innermostCode", desc := "()Ljava/lang/String;" } : Jvm.MethodName) prog_58_method_5_code (1 : Nat) (Option.some (Jvm.ClassFile.FieldType.object "java/lang/String"))]
set_option maxRecDepth 65536 in
theorem codes_eq : words1.filter isCode = codes1 := rfl
theorem w_codes : ∀ c ∈ words1.filter isCode, c.before args0 about1 = true := by
  rw [codes_eq]
  intro c hc
  simp only [codes1, List.mem_cons, List.not_mem_nil, or_false] at hc
  rcases hc with rfl | rfl | rfl | rfl | rfl | rfl | rfl | rfl | rfl | rfl | rfl
  · exact w_c0
  · exact w_c1
  · exact w_c2
  · exact w_c3
  · exact w_c4
  · exact w_c5
  · exact w_c6
  · exact w_c7
  · exact w_c8
  · exact w_c9
  · exact w_c10
set_option maxRecDepth 65536 in
theorem w_t1 : (words1.take 24).all (fun c => isCode c || c.before args0 about1) = true := by decide +kernel
set_option maxRecDepth 65536 in
theorem w_t2 : ((words1.drop 24).take 24).all (fun c => isCode c || c.before args0 about1) = true := by decide +kernel
set_option maxRecDepth 65536 in
theorem w_t3 : ((words1.drop 24).drop 24).all (fun c => isCode c || c.before args0 about1) = true := by decide +kernel
theorem w_tables : (allAtoms (Jvm.Cond.code x code maxLocals ret :: tables_1)).before args0 about1 = true := by
  rw [allAtoms_all]
  show words1.all (fun c => c.before args0 about1) = true
  refine all_split ?_ w_codes
  rw [← List.take_append_drop 24 words1, List.all_append, w_t1, ← List.take_append_drop 24 (words1.drop 24), List.all_append, w_t2, w_t3]
  rfl
set_option maxRecDepth 65536 in
theorem w_rest : rest_1_c.before args0 about1 = true := by decide +kernel
set_option maxRecDepth 65536 in
theorem w_case : (Jvm.Cond.and given_1 narrow_1).before args0 about1 = true := by decide +kernel
set_option maxRecDepth 65536 in
theorem w_consts : constsHeld consts_1 about1 := Jvm.Lit.constsHeldB_iff.mp (by decide +kernel)
theorem w_applies : (headSpec (Jvm.Cond.code x code maxLocals ret :: tables_1) room_1).applies x e0.platform about1 = true :=
  (Spec.applies_iff w_frames).mpr ⟨w_running, w_runnable, w_alone, w_named, w_hears, w_ripe, w_room, w_tables⟩
theorem atStart : AtStart classFile x code maxLocals ret World_1 tables_1 room_1 Calls_1 rest_1 Pre_1 launch0 p0 e0 about1 theMethod args0 below0 :=
  ⟨lists_1, trivial, launch0.admits_env _ _ _, launch0.least_env, fairChoices_fair.cas, fairChoices_fair.clock, w_frames, w_args, w_heap, w_applies, ⟨w_consts, trivial⟩, w_rest, w_case⟩
end start1
theorem witness_1 : WitnessClaimed_1 := ⟨start1.p0, start1.e0, start1.about1, start1.theMethod, start1.args0, start1.below0, start1.atStart⟩
end Jvm.Pilot.@@N@@
