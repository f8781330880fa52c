import JvmDerived
import JvmDerived.Pilot.@@N@@Statement
import JvmDerived.Pilot.@@N@@Code
set_option linter.unusedVariables false
set_option linter.unusedSimpArgs false
@@BLOCK:NumsL.lean.txt@@
namespace Jvm.RoadKit
open Sem ClassFile Op Lib Jvm.Stand Jvm.Free Jvm.LawKit
section New
variable {p : Program} {l : Launch} {e : Env} {R : Room} {s : State} {m : MethodId} {args : Array Value} {below : List Frame} {meth : Method} {c : Code} {T : State} {locs : List Loc} {cells slots : Nat}
theorem retI (X : Stand p l e R s m args below meth c T locs cells slots) (hx : p.tables.exec = Jvm.exec) {pc : Nat} {Ls : Array Slot} {z : Int32} {rest : List Value} (hret : meth.sig.returnType = some .int) (hd : decode c.code pc = .ok (.ireturn, 1)) {fs : List Frame}
    (hl : ∀ (f : JFrame) (acts : List Action), f.method = m → f.locked = none → f.entered = [] → (doReturn e (T.setTop f) acts (some (.int z))).1 = T.setFrames fs) : Steps p.tables e below (T.setTop (mkF m pc Ls (.int z :: rest))) (T.setFrames fs) := by
  have hm' : T.vm.method? m = some meth := X.method'
  have hn : narrow .int (.int z) = .int z := rfl
  show Steps p.tables e below (T.setTop { method := m, pc := pc, locals := Ls, stack := _ :: rest, locked := none }) _
  jvm_step X.here [X.here.top, hx, hd, hm', hret, hn]
  first | (intro acts; rw [hl _ acts rfl rfl rfl]) | rw [hl _ _ rfl rfl rfl]
  exact Steps.refl _
theorem retD (X : Stand p l e R s m args below meth c T locs cells slots) (hx : p.tables.exec = Jvm.exec) {pc : Nat} {Ls : Array Slot} {z : UInt64} {rest : List Value} (hret : meth.sig.returnType = some .double) (hd : decode c.code pc = .ok (.dreturn, 1)) {fs : List Frame}
    (hl : ∀ (f : JFrame) (acts : List Action), f.method = m → f.locked = none → f.entered = [] → (doReturn e (T.setTop f) acts (some (.double z))).1 = T.setFrames fs) : Steps p.tables e below (T.setTop (mkF m pc Ls (.double z :: rest))) (T.setFrames fs) := by
  have hm' : T.vm.method? m = some meth := X.method'
  show Steps p.tables e below (T.setTop { method := m, pc := pc, locals := Ls, stack := _ :: rest, locked := none }) _
  jvm_step X.here [X.here.top, hx, hd, hm', hret, narrow]
  first | (intro acts; rw [hl _ acts rfl rfl rfl]) | (refine ⟨meth, hm', ⟨_, hret, rfl⟩, fun acts => ?_⟩; rw [hl _ acts rfl rfl rfl])
  exact Steps.refl _
theorem retA (X : Stand p l e R s m args below meth c T locs cells slots) (hx : p.tables.exec = Jvm.exec) {pc : Nat} {Ls : Array Slot} {v : Value} {rest : List Value} {t : FieldType} (hret : meth.sig.returnType = some t) (ht : t.isReference = true) (hv : v.isRef = true) (hd : decode c.code pc = .ok (.areturn, 1)) {fs : List Frame}
    (hl : ∀ (f : JFrame) (acts : List Action), f.method = m → f.locked = none → f.entered = [] → (doReturn e (T.setTop f) acts (some v)).1 = T.setFrames fs) : Steps p.tables e below (T.setTop (mkF m pc Ls (v :: rest))) (T.setFrames fs) := by
  have hm' : T.vm.method? m = some meth := X.method'
  show Steps p.tables e below (T.setTop { method := m, pc := pc, locals := Ls, stack := _ :: rest, locked := none }) _
  jvm_step X.here [X.here.top, hx, hd, hm', hret, hv, ht]
  first | (intro acts; rw [hl _ acts rfl rfl rfl]) | (refine ⟨meth, hm', ⟨_, hret, rfl⟩, fun acts => ?_⟩; rw [hl _ acts rfl rfl rfl])
  exact Steps.refl _
theorem own_ref {v : Value} (h : v.isRef = true) : v = .null ∨ ∃ b, v = .ref b := by
  cases v <;> simp [Value.isRef] at h <;> simp
theorem own_narrow {v : Value} {C : String} (h : v.isRef = true) : narrow (.object C) v = v := by
  rcases own_ref h with rfl | ⟨b, rfl⟩ <;> rfl
theorem own_fits {v : Value} {C : String} (h : v.isRef = true) : fits (.object C) v = true := by
  rcases own_ref h with rfl | ⟨b, rfl⟩ <;> rfl
end New
end Jvm.RoadKit
namespace Jvm.RoadKit
open Sem ClassFile Op Lib Bundle Jvm.Stand Jvm.Free Jvm.LawKit Jvm.Free.SB Jvm.Free.SBG
theorem own_wsz {h h' : Heap} {a : Addr} {j : Nat} {v : Value} (W : Wr h h' a j v) : h'.size = h.size := by
  obtain ⟨c, -, -, -, rfl⟩ := W; simp
section OwnX
variable {p : Program} {l : Launch} {e : Env} {R : Room} {s : State} {args : Array Value} {below : List Frame} {Z : State} {a0 : Array Value} {EL : List (String × Nat)} {h : Heap} {vm0 : Vm}
/-- a callee that keeps the invariant and asks that some places be safe -/
theorem backOfSX {y : MethodName} {bytes : ByteArray} {maxL : Nat} {ret : Option FieldType} {rm : Room} {len W : Nat} {as' : Array Value} {Q : Option Value → Heap → List Loc → Prop} {xs : List Addr}
    (hM : MetFree l y (head1 [Cond.code y bytes maxL ret] rm) (fun a U => a = as' ∧ Z.Warmed39 U.vm ∧ U.heap = h ∧ CHv Z EL U.vm h ∧ ∀ x ∈ xs, Safe Z EL U.vm h x) (fun _ _ _ _ _ => True) (fun _ U o U' => ∃ v L, o = .returned v ∧ Q v U'.heap L ∧ CHr Z EL U.vm U.heap U'.vm U'.heap ∧ ReturnedEndW U o U' L rm.cells rm.slots))
    (hZ : Z.Warmed39 vm0) (wc : (Cond.code y bytes maxL ret).before a0 Z = true) (wz : (Cond.initialized y.cls).before a0 Z = true) (hf : rm.frames + 1 ≤ R.frames) (hl : W + (maxL + 11) + rm.locals ≤ R.locals) (hEL : EW Z a0 EL) (H : CHv Z EL vm0 h) (hxs : ∀ x ∈ xs, x < h.size ∧ Safe Z EL vm0 h x) :
    BackS l R p e below (s.setVm vm0) args y len W (fun A a => a = as' ∧ A.U.heap = h ∧ A.cells + rm.cells ≤ R.cells ∧ A.slots + rm.slots ≤ R.slots)
      (fun A _ v B => ∃ L, Q v B.U.heap L ∧ B.locs = A.locs ++ L ∧ B.cells = A.cells + rm.cells ∧ B.slots = A.slots + rm.slots ∧ CHr Z EL vm0 h B.U.vm B.U.heap) := by
  refine BackS.of_freeW (bytes := bytes) (maxL := maxL) (ret := ret) (E := fun _ first o t L k n => k = rm.cells ∧ n = rm.slots ∧ (∃ v, o = .returned v ∧ Q v t.heap L) ∧ CHr Z EL first.vm first.heap t.vm t.heap) hM hf hl ?_ ?_ ?_ ?_ ?_
  · intro m meth c A a Y hp
    have hU : Z.Warmed39 A.U.vm := wtrans (s := s.setVm vm0) hZ Y.warmed
    exact ⟨by show (Cond.and _ .tt).before a A.U = true; rw [Cond.before_and, mv hU wc]; rfl, mv hU wc, mv hU wz, hp.2.2.1, hp.2.2.2⟩
  · intro m meth c A a g mk Y hp
    have hA := CHv.at Y hZ hEL H
    exact ⟨hp.1, wtrans (s := s.setVm vm0) hZ Y.warmed, hp.2.1, hA.1, fun x hx => hA.safe (hxs x hx).1 (hxs x hx).2⟩
  · intros; trivial
  · rintro _ _ _ _ ⟨v, L, h1, h2, h3, h4⟩
    exact ⟨L, _, _, h4, rfl, rfl, ⟨v, h1, h2⟩, h3⟩
  · rintro m meth c A a g mk v t L k n Y hp _ _ ⟨e1, e2, ⟨v', e3, e4⟩, e5⟩
    cases e3; subst e1 e2
    refine ⟨L, e4, rfl, rfl, rfl, (CHv.at Y hZ hEL H).trans ?_⟩
    rw [← hp.2.1]; exact e5
end OwnX
end Jvm.RoadKit
namespace Jvm.RoadKit
open Sem ClassFile Op Lib Bundle Jvm.Stand Jvm.Free Jvm.LawKit
/-- the class of that name is there and no interface -/
def own_NI (Z : State) (C : String) : Prop := ∃ c k, Z.vm.findClass C = some c ∧ Z.vm.classes[c]? = some k ∧ k.isInterface = false
theorem own_NI_of {Z : State} {a0 : Array Value} {C : String} {y : MethodName} (w : (Cond.selects C y y).before a0 Z = true) : own_NI Z y.cls := by
  obtain ⟨c, r, m, -, -, q3, -, k, hk, hi⟩ := Cond.selects_spec w
  exact ⟨m.cls, k, findClass_of_methodNamed q3, hk, hi⟩
theorem own_selself {Z : State} {a0 : Array Value} {C : String} {y : MethodName} (w : (Cond.selects C y y).before a0 Z = true) (wp : (Cond.privateMethod y).before a0 Z = true) (wi : (Cond.instanceMethod y).before a0 Z = true) (hy : y.cls ≠ "java/lang/invoke/MethodHandle" ∧ y.cls ≠ "java/lang/invoke/VarHandle") : (Cond.selects y.cls y y).before a0 Z = true := by
  obtain ⟨c, k, h1, h2, h3⟩ := own_NI_of w
  exact Stand.selects_self_of_private h1 h2 h3 (Cond.privateMethod_at wp) wi hy
theorem own_same {Z : State} {a0 : Array Value} {y : MethodName} (wi : (Cond.instanceMethod y).before a0 Z = true) (n : own_NI Z y.cls ∧ (y.cls ≠ "java/lang/invoke/MethodHandle" ∧ y.cls ≠ "java/lang/invoke/VarHandle")) : (Cond.sameMethod y.cls y.cls y.name y.desc).before a0 Z = true := by
  obtain ⟨mk, methM, hnamed, hmethM, -, -⟩ := Cond.instanceMethod_spec wi
  have hfound := State.methodFound?_of_named hnamed n.2
  obtain ⟨c, k, h1, h2, h3⟩ := n.1
  simp [Cond.before, Cond.holds, Cond.value, h1, hfound, hnamed, h2, h3]
theorem own_nf {Z s : State} {y : MethodName} (hZ : Z.Warmed39 s.vm) (n : own_NI Z y.cls) : NotFace s y := fun r0 h0 => by
  obtain ⟨c, k, h1, h2, h3⟩ := n
  obtain ⟨k', q, e⟩ := hZ.alike.2.2 _ _ h2
  have hc := findClass_of_methodNamed h0
  rw [hZ.alike.findClass] at hc
  cases h1.symm.trans hc
  exact ⟨k', q, by rw [e]; exact h3⟩
end Jvm.RoadKit
namespace Jvm.RoadKit
open Sem ClassFile Op Lib Bundle Jvm.Stand Jvm.Free Jvm.LawKit
section OwnC
variable {p : Program} {l : Launch} {e : Env} {R : Room} {s : State} {m : MethodId} {args : Array Value} {below : List Frame} {meth : Method} {c : Code} {T : State} {locs : List Loc} {cells slots : Nat} {Z : State} {h : Heap} {a : Addr} {ty : FieldType}
theorem own_cloneV (X : Stand p l e R s m args below meth c T locs cells slots) (hx : p.tables.exec = Jvm.exec) (hZ : Z.Warmed39 s.vm) {a0 : Array Value} {own ad : String} {index : Nat} (hown : s.vm.findClass own = some m.cls)
    (w1 : (Cond.methodLink own index ⟨ad, "clone", "()Ljava/lang/Object;"⟩).before a0 Z = true) (w2 : (Cond.sameMethod ad "java/lang/Object" "clone" "()Ljava/lang/Object;").before a0 Z = true) (w3 : (Cond.native ⟨"java/lang/Object", "clone", "()Ljava/lang/Object;"⟩).before a0 Z = true)
    (w4 : (Cond.instanceMethod ⟨"java/lang/Object", "clone", "()Ljava/lang/Object;"⟩).before a0 Z = true) (w5 : (Cond.selects ad ⟨ad, "clone", "()Ljava/lang/Object;"⟩ ⟨"java/lang/Object", "clone", "()Ljava/lang/Object;"⟩).before a0 Z = true) (w6 : (Cond.castable ad "java/lang/Cloneable").before a0 Z = true)
    (eT : T.heap = h) {k : ClassId} {z : Int32} {vs : List Value} {dv : Value} (F : Arv Z h a k ty z vs dv) (E : Exa Z h a ad) {g : JFrame} (hg : g.method = m) (hsize : g.locals.size = c.maxLocals) {rest : List Value} (hst : g.stack = .ref a :: rest) (hd : decode c.code g.pc = .ok (.invokevirtual index, 3))
    (hf : 1 ≤ R.frames) {W cap : Nat} (hW : 2 * g.monitorRoom + (rest.map fun v => v.category).sum ≤ W) (hl : W + 14 ≤ R.locals) (hcap : z.toNatClampNeg ≤ cap) (hc : cells + 1 ≤ R.cells) (hsl : slots + cap ≤ R.slots) :
    ∃ T' h', Stand p l e R s m args below meth c T' locs (cells + 1) (slots + cap) ∧ T'.heap = h' ∧ Ext h h' ∧ Arv Z h' h.size k ty z vs dv ∧ Exa Z h' h.size ad ∧
      ∀ target, Steps p.tables e below (T'.setTop { g with pc := g.pc + 3, stack := .ref h.size :: rest }) target → Steps p.tables e below (T.setTop g) target := by
  obtain ⟨cl, A, q1, S, q3, H, G⟩ := F
  have FC : FitC Z cl := fitC_of A fun i hi v hv => by rw [H i hi] at hv; cases hv; exact G i hi
  obtain ⟨T', h', X', e', ex, A', E', st⟩ := cloneA X hx hZ hown w1 w2 w3 w4 w5 w6 eT A E FC hg hsize hst hd hf hW hl (by rw [S]; exact hcap) hc hsl
  exact ⟨T', h', X', e', ex, ⟨cloneOf cl, A', q1, S, q3, H, G⟩, E', st⟩
end OwnC
end Jvm.RoadKit
namespace Jvm.Pilot.@@N@@
namespace StrChars
open Jvm Sem ClassFile Op Lib Jvm.Stand Jvm.Free.XT Jvm.Free.ALB Jvm.Free.JM Jvm.Free
open Jvm.Lib.Cold (StaticIs)
/-- a char array whose places are chars -/
def Ch (a : Addr) (A : Cell) (U : State) : Prop := Arr .char a A U ∧ Typed .char A
theorem Ch.mv {a : Addr} {A : Cell} {U U' : State} (h : Ch a A U) (hal : U.vm.Alike U'.vm) (hh : U'.heap = U.heap) : Ch a A U' := ⟨h.1.mv hal hh, h.2⟩
theorem Ch.keep {a : Addr} {A : Cell} {U U' : State} (h : Ch a A U) (hal : U.vm.Alike U'.vm) (hk : U'.heap[a]? = some A) : Ch a A U' := ⟨h.1.keep hal hk, h.2⟩
/-- what place i of a char[]'s cell holds -/
def cv (A : Cell) (i : Nat) : Int32 := match A.slots[i]? with | some (.int x) => x | _ => 0
theorem Ch.get {a : Addr} {A : Cell} {U : State} (h : Ch a A U) {i : Nat} (hi : i < A.slots.size) : A.slots[i]? = some (.int (cv A i)) := by
  have e := Array.getElem?_eq_getElem hi
  have f := h.2 i _ e
  unfold cv; rw [e]
  generalize A.slots[i] = v at f
  cases v <;> simp [fits] at f ⊢
/-- the byte that i2b leaves of a char -/
def lo8 (x : Int32) : Int32 := x.toInt8.toInt32
theorem fits_lo8 (y : Int32) : fits .byte (.int (lo8 y)) = true := by
  have h1 := y.toInt8.le_toInt
  have h2 := y.toInt8.toInt_lt
  simp only [lo8, fits, Bool.and_eq_true, decide_eq_true_eq, Int32.le_iff_toInt_le, Int8.toInt_toInt32, show (-128 : Int32).toInt = -128 from by decide, show (127 : Int32).toInt = 127 from by decide]
  omega
/-- A' is A but that each place j of lo .. hi - 1 holds f j -/
def Laid (A A' : Cell) (lo hi : Nat) (f : Nat → Value) : Prop := A'.cls = A.cls ∧ A'.vm = A.vm ∧ A'.slots.size = A.slots.size ∧ ∀ i, A'.slots[i]? = if lo ≤ i ∧ i < hi then some (f i) else A.slots[i]?
theorem Laid.zero (A : Cell) (lo : Nat) (f : Nat → Value) : Laid A A lo (lo + 0) f := ⟨rfl, rfl, rfl, fun i => by rw [if_neg (by omega)]⟩
theorem Laid.step {A Ak : Cell} {lo k : Nat} {f : Nat → Value} {v : Value} (h : Laid A Ak lo k f) (hlo : lo ≤ k) (hk : k < Ak.slots.size) (hv : v = f k) : Laid A (Ak.setSlot k v) lo (k + 1) f := by
  refine ⟨h.1, h.2.1, by simpa [Cell.setSlot] using h.2.2.1, fun i => ?_⟩
  by_cases e : k = i
  · subst e; rw [Cell.slots_setSlot_self v hk, if_pos (by omega), hv]
  · rw [Cell.slots_setSlot_ne v e, h.2.2.2 i]
    by_cases q : lo ≤ i ∧ i < k
    · rw [if_pos q, if_pos (by omega)]
    · rw [if_neg q, if_neg (by omega)]
def U16 : String := "java/lang/StringUTF16"
namespace Cmp5
def yN : MethodName := ⟨"java/lang/StringUTF16", "compress", "([CI[BII)I"⟩
abbrev yB : ByteArray := jdk_52_method_21_code
theorem d0 : decode yB 0 = .ok (.iconst 0, 1) := by decide +kernel
theorem d1 : decode yB 1 = .ok (.istore 5, 2) := by decide +kernel
theorem d3 : decode yB 3 = .ok (.iload 5, 2) := by decide +kernel
theorem d5 : decode yB 5 = .ok (.iload 4, 2) := by decide +kernel
theorem d7 : decode yB 7 = .ok (.if_icmp (.ge) 37, 3) := by decide +kernel
theorem d10 : decode yB 10 = .ok (.aload_n 0, 1) := by decide +kernel
theorem d11 : decode yB 11 = .ok (.iload_n 1, 1) := by decide +kernel
theorem d12 : decode yB 12 = .ok (.caload, 1) := by decide +kernel
theorem d13 : decode yB 13 = .ok (.istore 6, 2) := by decide +kernel
theorem d15 : decode yB 15 = .ok (.iload 6, 2) := by decide +kernel
theorem d17 : decode yB 17 = .ok (.sipush 255, 3) := by decide +kernel
theorem d20 : decode yB 20 = .ok (.if_icmp (.le) 6, 3) := by decide +kernel
theorem d26 : decode yB 26 = .ok (.aload_n 2, 1) := by decide +kernel
theorem d27 : decode yB 27 = .ok (.iload_n 3, 1) := by decide +kernel
theorem d28 : decode yB 28 = .ok (.iload 6, 2) := by decide +kernel
theorem d30 : decode yB 30 = .ok (.i2b, 1) := by decide +kernel
theorem d31 : decode yB 31 = .ok (.bastore, 1) := by decide +kernel
theorem d32 : decode yB 32 = .ok (.iinc 1 1, 3) := by decide +kernel
theorem d35 : decode yB 35 = .ok (.iinc 3 1, 3) := by decide +kernel
theorem d38 : decode yB 38 = .ok (.iinc 5 1, 3) := by decide +kernel
theorem d41 : decode yB 41 = .ok (.goto (-38), 3) := by decide +kernel
theorem d44 : decode yB 44 = .ok (.iload 4, 2) := by decide +kernel
theorem d46 : decode yB 46 = .ok (.ireturn, 1) := by decide +kernel
def site : List Cond := []
def tab : Cond := tabOf yN yB 7 (some .int) site
def P (b : Addr) (A : Cell) (d : Addr) (B : Cell) (o q len : Nat) (args : Array Value) (s : State) : Prop := args = #[.ref b, .int (Int32.ofNat o), .ref d, .int (Int32.ofNat q), .int (Int32.ofNat len)] ∧ Ch b A s ∧ Arr .byte d B s ∧ b ≠ d ∧ o + len ≤ A.slots.size ∧ q + len ≤ B.slots.size ∧ ∀ i, i < len → ¬ 255 < cv A (o + i)
def E (b : Addr) (A : Cell) (d : Addr) (B : Cell) (o q len : Nat) (r : Option Value) (s u : State) : Prop := r = some (.int (Int32.ofNat len)) ∧ ∃ B', Put d B' s u ∧ Laid B B' q (q + len) (fun j => Value.int (lo8 (cv A (o + (j - q)))))
/-- no char of the range above 255: len; the places written hold each char's low byte -/
theorem law (l : Launch) (b : Addr) (A : Cell) (d : Addr) (B : Cell) (o q len : Nat) : Law l yN 5 5 0 0 yB 7 (some .int) site (P b A d B o q len) (E b A d B o q len) (copyLocs d q len) 0 0 := by
  refine Law.of_walk (plainFor_of_name (by decide +kernel)) (by decide +kernel) (by decide +kernel) (by decide) (fun _ _ h => by rw [h.1]; rfl) (fun _ U U' hal hh h => ⟨h.1, h.2.1.mv hal hh, h.2.2.1.mv hal hh, h.2.2.2⟩) (fun r U U' V V' h1 hal h2 h => ⟨h.1, h.2.elim fun B' q => ⟨B', q.1.mv h1 h2, q.2⟩⟩) ?_
  intro p e s m args below meth c s₁ X0 hexec hbytes hml hret hlk hnm hown hh0 W hP
  obtain ⟨rfl, hA, hB, hne, l1, l2, hp⟩ := hP
  have c1 : Steps p.tables e below (s₁.setTop (entryFrame m #[.ref b, .int (Int32.ofNat o), .ref d, .int (Int32.ofNat q), .int (Int32.ofNat len)] 7)) (s₁.setTop (mkF m 0 #[.val (.ref b), .val (.int (Int32.ofNat o)), .val (.ref d), .val (.int (Int32.ofNat q)), .val (.int (Int32.ofNat len)), .unset, .unset] [])) := entry rfl
  have hA0 := hA.1.mv X0.warmed.alike hh0
  have hB0 := hB.mv X0.warmed.alike hh0
  have a31 := hA.1.2.2.2
  have c2 : Steps p.tables e below (s₁.setTop (entryFrame m #[.ref b, .int (Int32.ofNat o), .ref d, .int (Int32.ofNat q), .int (Int32.ofNat len)] 7)) (s₁.setTop (mkF m 3 #[.val (.ref b), .val (.int (Int32.ofNat o)), .val (.ref d), .val (.int (Int32.ofNat q)), .val (.int (Int32.ofNat len)), .val (.int 0), .unset] [])) := c1.trans (by
    refine iconstV X0.here hexec rfl 0 (hb hbytes d0) (by decide) ?_
    refine XS.istore X0.here hexec rfl (hb hbytes d1) rfl rfl ?_
    exact Steps.refl _)
  have loop : ∀ (r i : Nat), i + r = len → ∀ (z : Slot), (z = .unset ∨ ∃ w, z = .val w ∧ w.category = 1) → ∀ (Tl : State) (Bk : Cell), Stand p l e { frames := 0, locals := 0, cells := 0, slots := 0 } s m #[.ref b, .int (Int32.ofNat o), .ref d, .int (Int32.ofNat q), .int (Int32.ofNat len)] below meth c Tl ([] ++ copyLocs d q i) 0 0 → Put d Bk s₁ Tl → Laid B Bk q (q + i) (fun j => Value.int (lo8 (cv A (o + (j - q))))) →
      Steps p.tables e below (s₁.setTop (entryFrame m #[.ref b, .int (Int32.ofNat o), .ref d, .int (Int32.ofNat q), .int (Int32.ofNat len)] 7)) (Tl.setTop (mkF m 3 #[.val (.ref b), .val (.int (Int32.ofNat (o + i))), .val (.ref d), .val (.int (Int32.ofNat (q + i))), .val (.int (Int32.ofNat len)), .val (.int (Int32.ofNat i)), z] [])) → ∃ (T' : State) (B' : Cell) (z' : Slot), Stand p l e { frames := 0, locals := 0, cells := 0, slots := 0 } s m #[.ref b, .int (Int32.ofNat o), .ref d, .int (Int32.ofNat q), .int (Int32.ofNat len)] below meth c T' ([] ++ copyLocs d q len) 0 0 ∧ Put d B' s₁ T' ∧ Laid B B' q (q + len) (fun j => Value.int (lo8 (cv A (o + (j - q))))) ∧
      Steps p.tables e below (s₁.setTop (entryFrame m #[.ref b, .int (Int32.ofNat o), .ref d, .int (Int32.ofNat q), .int (Int32.ofNat len)] 7)) (T'.setTop (mkF m 3 #[.val (.ref b), .val (.int (Int32.ofNat (o + len))), .val (.ref d), .val (.int (Int32.ofNat (q + len))), .val (.int (Int32.ofNat len)), .val (.int (Int32.ofNat len)), z'] [])) := by
    intro r
    induction r with
    | zero =>
      intro i hi z hz Tl Bk Xl pl fl cl
      have hil : i = len := by omega
      rw [hil] at Xl fl cl
      exact ⟨Tl, Bk, z, Xl, pl, fl, cl⟩
    | succ r ih =>
      intro i hi z hz Tl Bk Xl pl fl cl
      have all := X0.warmed.alike.symm.trans Xl.warmed.alike
      have hAl := hA0.keep all (pl.other hne hA0.1)
      have hBk := hB0.like all pl.1 fl.1 fl.2.1 fl.2.2.1
      have hlt : q + i < Bk.slots.size := by rw [fl.2.2.1]; omega
      have c3 : Steps p.tables e below (s₁.setTop (entryFrame m #[.ref b, .int (Int32.ofNat o), .ref d, .int (Int32.ofNat q), .int (Int32.ofNat len)] 7)) (Tl.setTop (mkF m 12 #[.val (.ref b), .val (.int (Int32.ofNat (o + i))), .val (.ref d), .val (.int (Int32.ofNat (q + i))), .val (.int (Int32.ofNat len)), .val (.int (Int32.ofNat i)), z] [.int (Int32.ofNat (o + i)), .ref b])) := cl.trans (by
        refine XS.iload Xl.here hexec rfl (hb hbytes d3) rfl ?_
        refine XS.iload Xl.here hexec rfl (hb hbytes d5) rfl ?_
        refine XS.icmpNo Xl.here hexec rfl (hb hbytes d7) rfl (ii_ge_f (lt32 (by omega) (by omega))) ?_
        refine XS.aloadN Xl.here hexec rfl (hb hbytes d10) rfl rfl ?_
        refine XS.iloadN Xl.here hexec rfl (hb hbytes d11) rfl ?_
        exact Steps.refl _)
      have c4 : Steps p.tables e below (s₁.setTop (entryFrame m #[.ref b, .int (Int32.ofNat o), .ref d, .int (Int32.ofNat q), .int (Int32.ofNat len)] 7)) (Tl.setTop (mkF m 13 #[.val (.ref b), .val (.int (Int32.ofNat (o + i))), .val (.ref d), .val (.int (Int32.ofNat (q + i))), .val (.int (Int32.ofNat len)), .val (.int (Int32.ofNat i)), z] [.int (cv A (o + i))])) := c3.trans (by
        refine Xl.aget hexec hAl rfl (hA.get (i := o + i) (by omega)) rfl rfl (hb hbytes d12) ?_
        exact Steps.refl _)
      have c5 : Steps p.tables e below (s₁.setTop (entryFrame m #[.ref b, .int (Int32.ofNat o), .ref d, .int (Int32.ofNat q), .int (Int32.ofNat len)] 7)) (Tl.setTop (mkF m 15 #[.val (.ref b), .val (.int (Int32.ofNat (o + i))), .val (.ref d), .val (.int (Int32.ofNat (q + i))), .val (.int (Int32.ofNat len)), .val (.int (Int32.ofNat i)), .val (.int (cv A (o + i)))] [])) := c4.trans (by
        refine XS.istoreS Xl.here hexec rfl (hb hbytes d13) rfl rfl hz ?_
        exact Steps.refl _)
      have c6 : Steps p.tables e below (s₁.setTop (entryFrame m #[.ref b, .int (Int32.ofNat o), .ref d, .int (Int32.ofNat q), .int (Int32.ofNat len)] 7)) (Tl.setTop (mkF m 31 #[.val (.ref b), .val (.int (Int32.ofNat (o + i))), .val (.ref d), .val (.int (Int32.ofNat (q + i))), .val (.int (Int32.ofNat len)), .val (.int (Int32.ofNat i)), .val (.int (cv A (o + i)))] [.int (lo8 (cv A (o + i))), .int (Int32.ofNat (q + i)), .ref d])) := c5.trans (by
        refine XS.iload Xl.here hexec rfl (hb hbytes d15) rfl ?_
        refine sipushV Xl.here hexec rfl 255 (hb hbytes d17) (by decide) ?_
        refine XS.icmpYes Xl.here hexec rfl (pc0 := 20) rfl (hb hbytes d20) rfl (ii_le_t (hp i (by omega))) (by decide) rfl ?_
        refine XS.aloadN Xl.here hexec rfl (hb hbytes d26) rfl rfl ?_
        refine XS.iloadN Xl.here hexec rfl (hb hbytes d27) rfl ?_
        refine XS.iload Xl.here hexec rfl (hb hbytes d28) rfl ?_
        refine i2b Xl.here hexec rfl (hb hbytes d30) rfl ?_
        exact Steps.refl _)
      obtain ⟨T7, X7, p7, st7⟩ := Xl.aput hexec hBk rfl hlt rfl (fits_lo8 (cv A (o + i))) (g := (mkF m 31 #[.val (.ref b), .val (.int (Int32.ofNat (o + i))), .val (.ref d), .val (.int (Int32.ofNat (q + i))), .val (.int (Int32.ofNat len)), .val (.int (Int32.ofNat i)), .val (.int (cv A (o + i)))] [.int (lo8 (cv A (o + i))), .int (Int32.ofNat (q + i)), .ref d])) rfl (rest := []) rfl (hb hbytes d31)
      have c8 : Steps p.tables e below (s₁.setTop (entryFrame m #[.ref b, .int (Int32.ofNat o), .ref d, .int (Int32.ofNat q), .int (Int32.ofNat len)] 7)) (T7.setTop (mkF m 32 #[.val (.ref b), .val (.int (Int32.ofNat (o + i))), .val (.ref d), .val (.int (Int32.ofNat (q + i))), .val (.int (Int32.ofNat len)), .val (.int (Int32.ofNat i)), .val (.int (cv A (o + i)))] [])) := c6.trans (st7 _ (Steps.refl _))
      have c9 : Steps p.tables e below (s₁.setTop (entryFrame m #[.ref b, .int (Int32.ofNat o), .ref d, .int (Int32.ofNat q), .int (Int32.ofNat len)] 7)) (T7.setTop (mkF m 3 #[.val (.ref b), .val (.int (Int32.ofNat (o + i) + 1)), .val (.ref d), .val (.int (Int32.ofNat (q + i) + 1)), .val (.int (Int32.ofNat len)), .val (.int (Int32.ofNat i + 1)), .val (.int (cv A (o + i)))] [])) := c8.trans (by
        refine iincV X7.here hexec rfl 1 (hb hbytes d32) (by decide) rfl rfl ?_
        refine iincV X7.here hexec rfl 1 (hb hbytes d35) (by decide) rfl rfl ?_
        refine iincV X7.here hexec rfl 1 (hb hbytes d38) (by decide) rfl rfl ?_
        refine XS.goto X7.here hexec rfl (pc0 := 41) rfl (hb hbytes d41) (by decide) rfl ?_
        exact Steps.refl _)
      have c10 : Steps p.tables e below (s₁.setTop (entryFrame m #[.ref b, .int (Int32.ofNat o), .ref d, .int (Int32.ofNat q), .int (Int32.ofNat len)] 7)) (T7.setTop (mkF m 3 #[.val (.ref b), .val (.int (Int32.ofNat (o + (i + 1)))), .val (.ref d), .val (.int (Int32.ofNat (q + (i + 1)))), .val (.int (Int32.ofNat len)), .val (.int (Int32.ofNat (i + 1))), .val (.int (cv A (o + i)))] [])) := by
        have := c9
        rw [succ32, succ32, succ32] at this
        exact this
      exact ih (i + 1) (by omega) _ (Or.inr ⟨_, rfl, rfl⟩) T7 _ (by rw [copyLocs_step, ← List.append_assoc]; exact X7) (pl.trans p7) (fl.step (by omega) hlt (by simp)) c10
  obtain ⟨T9, B9, z9, X9, p9, f9, g9⟩ := loop len 0 (by omega) .unset (Or.inl rfl) s₁ B (by simpa [copyLocs] using X0) ⟨hB0.1, fun _ _ => rfl, rfl⟩ (Laid.zero _ _ _) c2
  have c11 : Steps p.tables e below (s₁.setTop (entryFrame m #[.ref b, .int (Int32.ofNat o), .ref d, .int (Int32.ofNat q), .int (Int32.ofNat len)] 7)) (T9.setTop (mkF m 46 #[.val (.ref b), .val (.int (Int32.ofNat (o + len))), .val (.ref d), .val (.int (Int32.ofNat (q + len))), .val (.int (Int32.ofNat len)), .val (.int (Int32.ofNat len)), z9] [.int (Int32.ofNat len)])) := g9.trans (by
    refine XS.iload X9.here hexec rfl (hb hbytes d3) rfl ?_
    refine XS.iload X9.here hexec rfl (hb hbytes d5) rfl ?_
    refine XS.icmpYes X9.here hexec rfl (pc0 := 7) rfl (hb hbytes d7) rfl (ii_ge_t (nlt32 (by omega) (Nat.le_refl _))) (by decide) rfl ?_
    refine XS.iload X9.here hexec rfl (hb hbytes d44) rfl ?_
    exact Steps.refl _)
  exact ⟨T9, some (.int (Int32.ofNat len)), _, _, _, X9, by simp, rfl, rfl, (fun h => by cases h), ⟨rfl, B9, p9.from hh0, f9⟩, fun fs hl => c11.trans (X9.ireturnOut hexec hret rfl (Or.inl rfl) (hb hbytes d46) hl)⟩
end Cmp5
namespace Cmp3
def yN : MethodName := ⟨"java/lang/StringUTF16", "compress", "([CII)[B"⟩
abbrev yB : ByteArray := jdk_52_method_16_code
theorem d0 : decode yB 0 = .ok (.iload_n 2, 1) := by decide +kernel
theorem d1 : decode yB 1 = .ok (.newarray .byte, 2) := by decide +kernel
theorem d3 : decode yB 3 = .ok (.astore_n 3, 1) := by decide +kernel
theorem d4 : decode yB 4 = .ok (.aload_n 0, 1) := by decide +kernel
theorem d5 : decode yB 5 = .ok (.iload_n 1, 1) := by decide +kernel
theorem d6 : decode yB 6 = .ok (.aload_n 3, 1) := by decide +kernel
theorem d7 : decode yB 7 = .ok (.iconst 0, 1) := by decide +kernel
theorem d8 : decode yB 8 = .ok (.iload_n 2, 1) := by decide +kernel
theorem d9 : decode yB 9 = .ok (.invokestatic 115, 3) := by decide +kernel
theorem d12 : decode yB 12 = .ok (.istore 4, 2) := by decide +kernel
theorem d14 : decode yB 14 = .ok (.iload 4, 2) := by decide +kernel
theorem d16 : decode yB 16 = .ok (.iload_n 2, 1) := by decide +kernel
theorem d17 : decode yB 17 = .ok (.if_icmp (.eq) 40, 3) := by decide +kernel
theorem d57 : decode yB 57 = .ok (.aload_n 3, 1) := by decide +kernel
theorem d58 : decode yB 58 = .ok (.areturn, 1) := by decide +kernel
def site : List Cond := [.arrayClass .byte, Cmp5.tab] ++ staticW U16 115 Cmp5.yN
def tab : Cond := tabOf yN yB 6 (some (.array .byte)) site
def P (b : Addr) (A : Cell) (o len : Nat) (args : Array Value) (s : State) : Prop := args = #[.ref b, .int (Int32.ofNat o), .int (Int32.ofNat len)] ∧ Ch b A s ∧ o + len ≤ A.slots.size ∧ len ≤ 536870912 ∧ ∀ i, i < len → ¬ 255 < cv A (o + i)
def E (b : Addr) (A : Cell) (o len : Nat) (r : Option Value) (s u : State) : Prop := NewArr .byte "[B" len (fun j => .int (lo8 (cv A (o + j)))) r s u ∧ u.heap.size = s.heap.size + 1
/-- no char of the range above 255: a new byte[] of their low bytes -/
theorem law (l : Launch) (b : Addr) (A : Cell) (o len : Nat) : Law l yN 3 3 1 18 yB 6 (some (.array .byte)) site (P b A o len) (E b A o len) [] 1 len := by
  refine Law.of_walk (plainFor_of_name (by decide +kernel)) (by decide +kernel) (by decide +kernel) (by decide) (fun _ _ h => by rw [h.1]; rfl) (fun _ U U' hal hh h => ⟨h.1, h.2.1.mv hal hh, h.2.2⟩) (fun r U U' V V' h1 hal h2 h => ⟨NewArr.mv r U U' V V' h1 hal h2 h.1, by rw [h1, h2]; exact h.2⟩) ?_
  intro p e s m args below meth c s₁ X0 hexec hbytes hml hret hlk hnm hown hh0 W hP
  obtain ⟨rfl, hA, l1, l2, hp⟩ := hP
  have a31 := hA.1.2.2.2
  have c1 : Steps p.tables e below (s₁.setTop (entryFrame m #[.ref b, .int (Int32.ofNat o), .int (Int32.ofNat len)] 6)) (s₁.setTop (mkF m 0 #[.val (.ref b), .val (.int (Int32.ofNat o)), .val (.int (Int32.ofNat len)), .unset, .unset, .unset] [])) := entry rfl
  have c2 : Steps p.tables e below (s₁.setTop (entryFrame m #[.ref b, .int (Int32.ofNat o), .int (Int32.ofNat len)] 6)) (s₁.setTop (mkF m 1 #[.val (.ref b), .val (.int (Int32.ofNat o)), .val (.int (Int32.ofNat len)), .unset, .unset, .unset] [.int (Int32.ofNat len)])) := c1.trans (by
    refine XS.iloadN X0.here hexec rfl (hb hbytes d0) rfl ?_
    exact Steps.refl _)
  obtain ⟨T3, B3, X3, ba3, bs3, bv3, bh3, bf3, st3⟩ := X0.anew hexec (atype := .byte) (wk W (.arrayClass .byte)) rfl (by show len * 1 ≤ _; omega) (by omega) (g := (mkF m 1 #[.val (.ref b), .val (.int (Int32.ofNat o)), .val (.int (Int32.ofNat len)), .unset, .unset, .unset] [.int (Int32.ofNat len)])) rfl (hb hbytes d1) (rest := []) rfl (Nat.le_refl _) (by show 0 + len ≤ len; omega)
  rw [hh0] at ba3 st3
  have kp3 : XT.Kept s T3 := (XT.Kept.of_eq hh0).push bh3
  have hA3 := hA.keep X3.warmed.alike (kp3 _ _ hA.1.1)
  have hne : b ≠ s.heap.size := hA.1.ne
  have c4 : Steps p.tables e below (s₁.setTop (entryFrame m #[.ref b, .int (Int32.ofNat o), .int (Int32.ofNat len)] 6)) (T3.setTop (mkF m 3 #[.val (.ref b), .val (.int (Int32.ofNat o)), .val (.int (Int32.ofNat len)), .unset, .unset, .unset] [.ref s.heap.size])) := c2.trans (st3 _ (Steps.refl _))
  have c5 : Steps p.tables e below (s₁.setTop (entryFrame m #[.ref b, .int (Int32.ofNat o), .int (Int32.ofNat len)] 6)) (T3.setTop (mkF m 9 #[.val (.ref b), .val (.int (Int32.ofNat o)), .val (.int (Int32.ofNat len)), .val (.ref s.heap.size), .unset, .unset] [.int (Int32.ofNat len), .int 0, .ref s.heap.size, .int (Int32.ofNat o), .ref b])) := c4.trans (by
    refine XS.astoreN X3.here hexec rfl (hb hbytes d3) rfl rfl rfl ?_
    refine XS.aloadN X3.here hexec rfl (hb hbytes d4) rfl rfl ?_
    refine XS.iloadN X3.here hexec rfl (hb hbytes d5) rfl ?_
    refine XS.aloadN X3.here hexec rfl (hb hbytes d6) rfl rfl ?_
    refine iconstV X3.here hexec rfl 0 (hb hbytes d7) (by decide) ?_
    refine XS.iloadN X3.here hexec rfl (hb hbytes d8) rfl ?_
    exact Steps.refl _)
  obtain ⟨v6, T6, X6, E6, g6⟩ := X3.callS hexec (Cmp5.law l b A s.heap.size B3 o 0 len) hown (wks W (staticW U16 115 Cmp5.yN)) (wk W Cmp5.tab) (W := 0) (Nat.le_of_ble_eq_true rfl) (Nat.le_of_ble_eq_true rfl) (Nat.le_refl _) (by show 0 + len + 0 ≤ len; omega) (g := (mkF m 9 #[.val (.ref b), .val (.int (Int32.ofNat o)), .val (.int (Int32.ofNat len)), .val (.ref s.heap.size), .unset, .unset] [.int (Int32.ofNat len), .int (Int32.ofNat 0), .ref s.heap.size, .int (Int32.ofNat o), .ref b])) rfl (by rw [hml]; rfl) c5 (argsL := [.ref b, .int (Int32.ofNat o), .ref s.heap.size, .int (Int32.ofNat 0), .int (Int32.ofNat len)]) (rest := []) rfl rfl (by show 2 * 0 + 0 ≤ _; decide) (hb hbytes d9) (⟨rfl, hA3, ba3, hne, l1, by rw [bs3]; simp, hp⟩)
  obtain ⟨rfl, B6, p6, f6⟩ := E6
  have c7 : Steps p.tables e below (s₁.setTop (entryFrame m #[.ref b, .int (Int32.ofNat o), .int (Int32.ofNat len)] 6)) (T6.setTop (mkF m 12 #[.val (.ref b), .val (.int (Int32.ofNat o)), .val (.int (Int32.ofNat len)), .val (.ref s.heap.size), .unset, .unset] [.int (Int32.ofNat len)])) := g6
  have c8 : Steps p.tables e below (s₁.setTop (entryFrame m #[.ref b, .int (Int32.ofNat o), .int (Int32.ofNat len)] 6)) (T6.setTop (mkF m 58 #[.val (.ref b), .val (.int (Int32.ofNat o)), .val (.int (Int32.ofNat len)), .val (.ref s.heap.size), .val (.int (Int32.ofNat len)), .unset] [.ref s.heap.size])) := c7.trans (by
    refine XS.istore X6.here hexec rfl (hb hbytes d12) rfl rfl ?_
    refine XS.iload X6.here hexec rfl (hb hbytes d14) rfl ?_
    refine XS.iloadN X6.here hexec rfl (hb hbytes d16) rfl ?_
    refine XS.icmpYes X6.here hexec rfl (pc0 := 17) rfl (hb hbytes d17) rfl (ii_eq_t rfl) (by decide) rfl ?_
    refine XS.aloadN X6.here hexec rfl (hb hbytes d57) rfl rfl ?_
    exact Steps.refl _)
  have X8 := X6.wide (L' := []) (cells' := 1) (slots' := len) (fun x hx hlt => by
    simp only [List.nil_append, copyLocs, List.mem_map, List.mem_range] at hx
    obtain ⟨i, -, rfl⟩ := hx
    exact absurd hlt (Nat.lt_irrefl _)) (Nat.le_refl _) (by omega)
  exact ⟨T6, some (.ref s.heap.size), _, _, _, X8, rfl, rfl, rfl, (fun h => by cases h), ⟨⟨rfl, B6, ba3.like (X3.warmed.alike.symm.trans X6.warmed.alike) p6.1 f6.1 f6.2.1 f6.2.2.1, f6.2.1.trans bv3, by rw [X6.warmed.alike.findClass, f6.1]; exact bf3, by rw [f6.2.2.1, bs3]; simp, fun j hj => by rw [f6.2.2.2 j, if_pos (by omega)]; rfl, kp3.put p6 (Nat.le_refl _)⟩, by rw [p6.2.2, bh3, hh0]; simp⟩, fun fs hl => c8.trans (X8.areturnOut hexec rfl hret rfl (hb hbytes d58) hl)⟩
end Cmp3
namespace CodL
def yN : MethodName := ⟨"java/lang/StringUTF16", "coderFromArrayLen", "([BI)B"⟩
abbrev yB : ByteArray := jdk_52_method_15_code
theorem d0 : decode yB 0 = .ok (.iload_n 1, 1) := by decide +kernel
theorem d1 : decode yB 1 = .ok (.aload_n 0, 1) := by decide +kernel
theorem d2 : decode yB 2 = .ok (.arraylength, 1) := by decide +kernel
theorem d3 : decode yB 3 = .ok (.isub, 1) := by decide +kernel
theorem d4 : decode yB 4 = .ok (.bipush 31, 2) := by decide +kernel
theorem d6 : decode yB 6 = .ok (.iushr, 1) := by decide +kernel
theorem d7 : decode yB 7 = .ok (.i2b, 1) := by decide +kernel
theorem d8 : decode yB 8 = .ok (.ireturn, 1) := by decide +kernel
def site : List Cond := []
def tab : Cond := tabOf yN yB 2 (some .byte) site
def P (d : Addr) (B : Cell) (args : Array Value) (s : State) : Prop := args = #[.ref d, .int (Int32.ofNat B.slots.size)] ∧ Arr .byte d B s
def E (r : Option Value) (s u : State) : Prop := XT.PureE (some (.int 0)) r s u
/-- an array as long as the number of chars: LATIN1 -/
theorem law (l : Launch) (d : Addr) (B : Cell) : Law l yN 2 2 0 0 yB 2 (some .byte) site (P d B) E [] 0 0 := by
  refine Law.of_walk (plainFor_of_name (by decide +kernel)) (by decide +kernel) (by decide +kernel) (by decide) (fun _ _ h => by rw [h.1]; rfl) (fun _ U U' hal hh h => ⟨h.1, h.2.mv hal hh⟩) (fun r U U' V V' h1 hal h2 h => XT.PureE.mv r U U' V V' h1 hal h2 h) ?_
  intro p e s m args below meth c s₁ X0 hexec hbytes hml hret hlk hnm hown hh0 W hP
  obtain ⟨rfl, hB⟩ := hP
  have hB0 := hB.mv X0.warmed.alike hh0
  have c1 : Steps p.tables e below (s₁.setTop (entryFrame m #[.ref d, .int (Int32.ofNat B.slots.size)] 2)) (s₁.setTop (mkF m 0 #[.val (.ref d), .val (.int (Int32.ofNat B.slots.size))] [])) := entry rfl
  have c2 : Steps p.tables e below (s₁.setTop (entryFrame m #[.ref d, .int (Int32.ofNat B.slots.size)] 2)) (s₁.setTop (mkF m 2 #[.val (.ref d), .val (.int (Int32.ofNat B.slots.size))] [.ref d, .int (Int32.ofNat B.slots.size)])) := c1.trans (by
    refine XS.iloadN X0.here hexec rfl (hb hbytes d0) rfl ?_
    refine XS.aloadN X0.here hexec rfl (hb hbytes d1) rfl rfl ?_
    exact Steps.refl _)
  have c3 : Steps p.tables e below (s₁.setTop (entryFrame m #[.ref d, .int (Int32.ofNat B.slots.size)] 2)) (s₁.setTop (mkF m 8 #[.val (.ref d), .val (.int (Int32.ofNat B.slots.size))] [.int (lo8 (ushr (Int32.ofNat B.slots.size - Int32.ofNat B.slots.size) 31))])) := c2.trans (by
    refine X0.alen hexec hB0 rfl rfl (hb hbytes d2) ?_
    refine XS.isub X0.here hexec rfl (hb hbytes d3) rfl ?_
    refine bipushV X0.here hexec rfl 31 (hb hbytes d4) (by decide) ?_
    refine iushr X0.here hexec rfl (hb hbytes d6) rfl ?_
    refine i2b X0.here hexec rfl (hb hbytes d7) rfl ?_
    exact Steps.refl _)
  have e0 : lo8 (ushr (Int32.ofNat B.slots.size - Int32.ofNat B.slots.size) 31) = 0 := by rw [Int32.sub_self]; decide
  rw [e0] at c3
  exact ⟨s₁, some (.int 0), _, _, _, X0, rfl, rfl, rfl, (fun h => by cases h), ⟨rfl, hh0⟩, fun fs hl => c3.trans (X0.ireturnOut hexec hret rfl (Or.inr (Or.inr (Or.inl rfl))) (hb hbytes d8) hl)⟩
end CodL
/-- the String at a is Latin-1 over a new byte[] (the heap's one new cell): the low bytes of the len chars of A from o on; every cell but a is kept -/
def Got (a : Addr) (D : Cell) (fV fC : Field) (A : Cell) (o len : Nat) (r : Option Value) (s u : State) : Prop := r = none ∧ ∃ D' V : Cell, Blank "java/lang/String" a D' u ∧ Same D D' [fV.slot, fC.slot] ∧ D'.slots[fV.slot]? = some (.ref s.heap.size) ∧ D'.slots[fC.slot]? = some (.int 0) ∧ Arr .byte s.heap.size V u ∧ V.vm = .none ∧ u.vm.findClass "[B" = some V.cls ∧ V.slots.size = len ∧ (∀ j, j < len → V.slots[j]? = some (.int (lo8 (cv A (o + j))))) ∧ (∀ (y : Addr) (c : Cell), y ≠ a → s.heap[y]? = some c → u.heap[y]? = some c) ∧ u.heap.size = s.heap.size + 1
theorem Got.mv {a : Addr} {D A : Cell} {fV fC : Field} {o len : Nat} : ∀ r (U U' V V' : State), U'.heap = U.heap → V.vm.Alike V'.vm → V'.heap = V.heap → Got a D fV fC A o len r U V → Got a D fV fC A o len r U' V' :=
  fun r U U' V V' h1 hal h2 ⟨e0, D', X, a1, a2, a3, a4, a5, a6, a7, a8, a9, a10, a11⟩ => ⟨e0, D', X, a1.mv hal h2, a2, by rw [h1]; exact a3, a4, by rw [h1]; exact a5.mv hal h2, a6, by rw [hal.findClass]; exact a7, a8, a9, by rw [h1, h2]; exact a10, by rw [h1, h2]; exact a11⟩
namespace New4
def yN : MethodName := ⟨"java/lang/String", "<init>", "([CIILjava/lang/Void;)V"⟩
abbrev yB : ByteArray := jdk_42_method_149_code
theorem d0 : decode yB 0 = .ok (.aload_n 0, 1) := by decide +kernel
theorem d1 : decode yB 1 = .ok (.invokespecial 1, 3) := by decide +kernel
theorem d4 : decode yB 4 = .ok (.iload_n 3, 1) := by decide +kernel
theorem d5 : decode yB 5 = .ok (.ifCond (.ne) 22, 3) := by decide +kernel
theorem d27 : decode yB 27 = .ok (.getstatic 38, 3) := by decide +kernel
theorem d30 : decode yB 30 = .ok (.ifCond (.eq) 28, 3) := by decide +kernel
theorem d33 : decode yB 33 = .ok (.aload_n 1, 1) := by decide +kernel
theorem d34 : decode yB 34 = .ok (.iload_n 2, 1) := by decide +kernel
theorem d35 : decode yB 35 = .ok (.iload_n 3, 1) := by decide +kernel
theorem d36 : decode yB 36 = .ok (.invokestatic 177, 3) := by decide +kernel
theorem d39 : decode yB 39 = .ok (.astore 5, 2) := by decide +kernel
theorem d41 : decode yB 41 = .ok (.aload_n 0, 1) := by decide +kernel
theorem d42 : decode yB 42 = .ok (.aload 5, 2) := by decide +kernel
theorem d44 : decode yB 44 = .ok (.iload_n 3, 1) := by decide +kernel
theorem d45 : decode yB 45 = .ok (.invokestatic 47, 3) := by decide +kernel
theorem d48 : decode yB 48 = .ok (.putfield 15, 3) := by decide +kernel
theorem d51 : decode yB 51 = .ok (.aload_n 0, 1) := by decide +kernel
theorem d52 : decode yB 52 = .ok (.aload 5, 2) := by decide +kernel
theorem d54 : decode yB 54 = .ok (.putfield 9, 3) := by decide +kernel
theorem d57 : decode yB 57 = .ok (.return_, 1) := by decide +kernel
def site : List Cond := [.fieldLink "java/lang/String" 38 "java/lang/String" "COMPACT_STRINGS" "Z", Cmp3.tab, CodL.tab, .laysFinal "java/lang/String" "java/lang/String" "value" "[B", .fieldLink "java/lang/String" 9 "java/lang/String" "value" "[B", .laysFinal "java/lang/String" "java/lang/String" "coder" "B", .fieldLink "java/lang/String" 15 "java/lang/String" "coder" "B"] ++ objW "java/lang/String" 1 ++ staticW "java/lang/String" 177 Cmp3.yN ++ staticW "java/lang/String" 47 CodL.yN
def tab : Cond := tabOf yN yB 6 none site
def P (a : Addr) (D : Cell) (fV fC : Field) (b : Addr) (A : Cell) (z : Int32) (o len : Nat) (args : Array Value) (s : State) : Prop := args = #[.ref a, .ref b, .int (Int32.ofNat o), .int (Int32.ofNat len), .null] ∧ Blank "java/lang/String" a D s ∧ Found "java/lang/String" "value" "[B" fV s ∧ Found "java/lang/String" "coder" "B" fC s ∧ Ch b A s ∧ StaticIs s "java/lang/String" "COMPACT_STRINGS" "Z" (.int z) ∧ ¬ z = 0 ∧ 0 < len ∧ o + len ≤ A.slots.size ∧ len ≤ 536870912 ∧ ∀ i, i < len → ¬ 255 < cv A (o + i)
def E (a : Addr) (D : Cell) (fV fC : Field) (A : Cell) (o len : Nat) (r : Option Value) (s u : State) : Prop := Got a D fV fC A o len r s u
/-- len > 0, no char of the range above 255: a Latin-1 String of their low bytes -/
theorem law (l : Launch) (a : Addr) (D : Cell) (fV fC : Field) (b : Addr) (A : Cell) (z : Int32) (o len : Nat) : Law l yN 5 4 2 35 yB 6 none site (P a D fV fC b A z o len) (E a D fV fC A o len) [⟨a, fC.slot⟩, ⟨a, fV.slot⟩] 1 len := by
  refine Law.of_walk (plainFor_of_name (by decide +kernel)) (by decide +kernel) (by decide +kernel) (by decide) (fun _ _ h => by rw [h.1]; rfl) (fun _ U U' hal hh h => ⟨h.1, h.2.1.mv hal hh, h.2.2.1.al hal, h.2.2.2.1.al hal, h.2.2.2.2.1.mv hal hh, h.2.2.2.2.2.1.there hal hh, h.2.2.2.2.2.2⟩) (fun r U U' V V' h1 hal h2 h => Got.mv r U U' V V' h1 hal h2 h) ?_
  intro p e s m args below meth c s₁ X0 hexec hbytes hml hret hlk hnm hown hh0 W hP
  obtain ⟨rfl, hB, f1, f2, hA, s1, hz, l0, l1, l2, hp⟩ := hP
  have a31 := hA.1.2.2.2
  have c1 : Steps p.tables e below (s₁.setTop (entryFrame m #[.ref a, .ref b, .int (Int32.ofNat o), .int (Int32.ofNat len), .null] 6)) (s₁.setTop (mkF m 0 #[.val (.ref a), .val (.ref b), .val (.int (Int32.ofNat o)), .val (.int (Int32.ofNat len)), .val .null, .unset] [])) := entry rfl
  have c2 : Steps p.tables e below (s₁.setTop (entryFrame m #[.ref a, .ref b, .int (Int32.ofNat o), .int (Int32.ofNat len), .null] 6)) (s₁.setTop (mkF m 1 #[.val (.ref a), .val (.ref b), .val (.int (Int32.ofNat o)), .val (.int (Int32.ofNat len)), .val .null, .unset] [.ref a])) := c1.trans (by
    refine XS.aloadN X0.here hexec rfl (hb hbytes d0) rfl rfl ?_
    exact Steps.refl _)
  obtain ⟨T3, X3, q3, st3⟩ := X0.oinit hexec hown (wks W (objW "java/lang/String" 1)) (g := (mkF m 1 #[.val (.ref a), .val (.ref b), .val (.int (Int32.ofNat o)), .val (.int (Int32.ofNat len)), .val .null, .unset] [.ref a])) rfl (by rw [hml]; rfl) (rest := []) rfl (hb hbytes d1) (W := 0) (by show 2 * 0 + 0 ≤ _; decide) (Nat.le_of_ble_eq_true rfl) (Nat.le_of_ble_eq_true rfl)
  have hh3 := q3.trans hh0
  have c4 : Steps p.tables e below (s₁.setTop (entryFrame m #[.ref a, .ref b, .int (Int32.ofNat o), .int (Int32.ofNat len), .null] 6)) (T3.setTop (mkF m 27 #[.val (.ref a), .val (.ref b), .val (.int (Int32.ofNat o)), .val (.int (Int32.ofNat len)), .val .null, .unset] [])) := (c2.trans (st3 _ (Steps.refl _))).trans (by
    refine XS.iloadN X3.here hexec rfl (hb hbytes d4) rfl ?_
    refine XS.ifYes X3.here hexec rfl (pc0 := 5) rfl (hb hbytes d5) rfl (i0_ne_t (nz32 (by omega) l0)) (by decide) rfl ?_
    exact Steps.refl _)
  obtain ⟨T5, X5, q5, st5⟩ := X3.sget hexec hown (wk W (.fieldLink "java/lang/String" 38 "java/lang/String" "COMPACT_STRINGS" "Z")) s1 (fun _ _ h => by rw [hh3]; exact h) (g := (mkF m 27 #[.val (.ref a), .val (.ref b), .val (.int (Int32.ofNat o)), .val (.int (Int32.ofNat len)), .val .null, .unset] [])) rfl (hb hbytes d27)
  have hh5 := q5.trans hh3
  have c6 : Steps p.tables e below (s₁.setTop (entryFrame m #[.ref a, .ref b, .int (Int32.ofNat o), .int (Int32.ofNat len), .null] 6)) (T5.setTop (mkF m 30 #[.val (.ref a), .val (.ref b), .val (.int (Int32.ofNat o)), .val (.int (Int32.ofNat len)), .val .null, .unset] [.int z])) := c4.trans (st5 _ (Steps.refl _))
  have c7 : Steps p.tables e below (s₁.setTop (entryFrame m #[.ref a, .ref b, .int (Int32.ofNat o), .int (Int32.ofNat len), .null] 6)) (T5.setTop (mkF m 36 #[.val (.ref a), .val (.ref b), .val (.int (Int32.ofNat o)), .val (.int (Int32.ofNat len)), .val .null, .unset] [.int (Int32.ofNat len), .int (Int32.ofNat o), .ref b])) := c6.trans (by
    refine XS.ifNo X5.here hexec rfl (hb hbytes d30) rfl (i0_eq_f hz) ?_
    refine XS.aloadN X5.here hexec rfl (hb hbytes d33) rfl rfl ?_
    refine XS.iloadN X5.here hexec rfl (hb hbytes d34) rfl ?_
    refine XS.iloadN X5.here hexec rfl (hb hbytes d35) rfl ?_
    exact Steps.refl _)
  obtain ⟨v8, T8, X8, E8, g8⟩ := X5.callS hexec (Cmp3.law l b A o len) hown (wks W (staticW "java/lang/String" 177 Cmp3.yN)) (wk W Cmp3.tab) (W := 0) (Nat.le_of_ble_eq_true rfl) (Nat.le_of_ble_eq_true rfl) (Nat.le_refl _) (by show 0 + len ≤ len; omega) (g := (mkF m 36 #[.val (.ref a), .val (.ref b), .val (.int (Int32.ofNat o)), .val (.int (Int32.ofNat len)), .val .null, .unset] [.int (Int32.ofNat len), .int (Int32.ofNat o), .ref b])) rfl (by rw [hml]; rfl) c7 (argsL := [.ref b, .int (Int32.ofNat o), .int (Int32.ofNat len)]) (rest := []) rfl rfl (by show 2 * 0 + 0 ≤ _; decide) (hb hbytes d36) (⟨rfl, hA.mv X5.warmed.alike hh5, l1, l2, hp⟩)
  obtain ⟨e8, z8⟩ := E8
  obtain ⟨rfl, N, n1, n2, n3, n4, n5, n6⟩ := NewArr.mv _ T5 s _ _ hh5.symm (Vm.Alike.refl _) rfl e8
  rw [hh5] at z8
  have hB1 := hB.keep X8.warmed.alike (n6 _ _ hB.1)
  have hne : s.heap.size ≠ a := (Nat.ne_of_lt (Array.getElem?_eq_some_iff.mp hB.1).1).symm
  have c9 : Steps p.tables e below (s₁.setTop (entryFrame m #[.ref a, .ref b, .int (Int32.ofNat o), .int (Int32.ofNat len), .null] 6)) (T8.setTop (mkF m 39 #[.val (.ref a), .val (.ref b), .val (.int (Int32.ofNat o)), .val (.int (Int32.ofNat len)), .val .null, .unset] [.ref s.heap.size])) := g8
  have c10 : Steps p.tables e below (s₁.setTop (entryFrame m #[.ref a, .ref b, .int (Int32.ofNat o), .int (Int32.ofNat len), .null] 6)) (T8.setTop (mkF m 45 #[.val (.ref a), .val (.ref b), .val (.int (Int32.ofNat o)), .val (.int (Int32.ofNat len)), .val .null, .val (.ref s.heap.size)] [.int (Int32.ofNat N.slots.size), .ref s.heap.size, .ref a])) := by
    have hc : Steps p.tables e below (s₁.setTop (entryFrame m #[.ref a, .ref b, .int (Int32.ofNat o), .int (Int32.ofNat len), .null] 6)) (T8.setTop (mkF m 45 #[.val (.ref a), .val (.ref b), .val (.int (Int32.ofNat o)), .val (.int (Int32.ofNat len)), .val .null, .val (.ref s.heap.size)] [.int (Int32.ofNat len), .ref s.heap.size, .ref a])) := c9.trans (by
      refine XS.astore X8.here hexec rfl (hb hbytes d39) rfl rfl rfl ?_
      refine XS.aloadN X8.here hexec rfl (hb hbytes d41) rfl rfl ?_
      refine XS.aload X8.here hexec rfl (hb hbytes d42) rfl rfl ?_
      refine XS.iloadN X8.here hexec rfl (hb hbytes d44) rfl ?_
      exact Steps.refl _)
    rw [n4]; exact hc
  obtain ⟨v11, T11, X11, E11, g11⟩ := X8.callS hexec (CodL.law l s.heap.size N) hown (wks W (staticW "java/lang/String" 47 CodL.yN)) (wk W CodL.tab) (W := 1) (Nat.le_of_ble_eq_true rfl) (Nat.le_of_ble_eq_true rfl) (Nat.le_refl _) (by show 0 + len + 0 ≤ len; omega) (g := (mkF m 45 #[.val (.ref a), .val (.ref b), .val (.int (Int32.ofNat o)), .val (.int (Int32.ofNat len)), .val .null, .val (.ref s.heap.size)] [.int (Int32.ofNat N.slots.size), .ref s.heap.size, .ref a])) rfl (by rw [hml]; rfl) c10 (argsL := [.ref s.heap.size, .int (Int32.ofNat N.slots.size)]) (rest := [.ref a]) rfl rfl (by show 2 * 0 + (1 + 0) ≤ _; decide) (hb hbytes d45) (⟨rfl, n1⟩)
  obtain ⟨rfl, q11⟩ := E11
  have hB11 := hB1.mv (X8.warmed.alike.symm.trans X11.warmed.alike) q11
  have c12 : Steps p.tables e below (s₁.setTop (entryFrame m #[.ref a, .ref b, .int (Int32.ofNat o), .int (Int32.ofNat len), .null] 6)) (T11.setTop (mkF m 48 #[.val (.ref a), .val (.ref b), .val (.int (Int32.ofNat o)), .val (.int (Int32.ofNat len)), .val .null, .val (.ref s.heap.size)] [.int 0, .ref a])) := g11
  obtain ⟨T13, X13, p13, bl13, sl13, st13⟩ := X11.finit hexec hown (wk W (.fieldLink "java/lang/String" 15 "java/lang/String" "coder" "B")) (Or.inr ⟨_, (wk W (.laysFinal "java/lang/String" "java/lang/String" "coder" "B"))⟩) (Or.inl ⟨rfl, hnm⟩) f2 (Or.inl rfl) hB11 (t := .byte) (by decide +kernel) rfl (g := (mkF m 48 #[.val (.ref a), .val (.ref b), .val (.int (Int32.ofNat o)), .val (.int (Int32.ofNat len)), .val .null, .val (.ref s.heap.size)] [.int 0, .ref a])) rfl (rest := []) rfl (hb hbytes d48)
  have c14 : Steps p.tables e below (s₁.setTop (entryFrame m #[.ref a, .ref b, .int (Int32.ofNat o), .int (Int32.ofNat len), .null] 6)) (T13.setTop (mkF m 54 #[.val (.ref a), .val (.ref b), .val (.int (Int32.ofNat o)), .val (.int (Int32.ofNat len)), .val .null, .val (.ref s.heap.size)] [.ref s.heap.size, .ref a])) := (c12.trans (st13 _ (Steps.refl _))).trans (by
    refine XS.aloadN X13.here hexec rfl (hb hbytes d51) rfl rfl ?_
    refine XS.aload X13.here hexec rfl (hb hbytes d52) rfl rfl ?_
    exact Steps.refl _)
  obtain ⟨T15, X15, p15, bl15, sl15, st15⟩ := X13.finit hexec hown (wk W (.fieldLink "java/lang/String" 9 "java/lang/String" "value" "[B")) (Or.inr ⟨_, (wk W (.laysFinal "java/lang/String" "java/lang/String" "value" "[B"))⟩) (Or.inl ⟨rfl, hnm⟩) f1 (Or.inl rfl) bl13 (t := (.array .byte)) (by decide +kernel) rfl (g := (mkF m 54 #[.val (.ref a), .val (.ref b), .val (.int (Int32.ofNat o)), .val (.int (Int32.ofNat len)), .val .null, .val (.ref s.heap.size)] [.ref s.heap.size, .ref a])) rfl (rest := []) rfl (hb hbytes d54)
  have c16 : Steps p.tables e below (s₁.setTop (entryFrame m #[.ref a, .ref b, .int (Int32.ofNat o), .int (Int32.ofNat len), .null] 6)) (T15.setTop (mkF m 57 #[.val (.ref a), .val (.ref b), .val (.int (Int32.ofNat o)), .val (.int (Int32.ofNat len)), .val .null, .val (.ref s.heap.size)] [])) := c14.trans (st15 _ (Steps.refl _))
  have ap := apart (Or.inr ⟨_, (wk W (.laysFinal "java/lang/String" "java/lang/String" "value" "[B"))⟩) (Or.inr ⟨_, (wk W (.laysFinal "java/lang/String" "java/lang/String" "coder" "B"))⟩) f1 f2 (t₁ := .array .byte) (t₂ := .byte) (by decide +kernel) (by decide +kernel) (by decide)
  have al := X8.warmed.alike.symm.trans X15.warmed.alike
  have n7 : T11.heap[s.heap.size]? = some N := by rw [q11]; exact n1.1
  exact ⟨T15, none, _, _, _, X15, by simp, rfl, by omega, (fun _ => rfl), ⟨rfl, _, N, bl15, ((Same.refl D _).set _ (by simp)).set _ (by simp), sl15, (Cell.slots_setSlot_ne _ ap).trans sl13, n1.keep al (p15.other hne (p13.other hne n7)), n2, by rw [al.findClass]; exact n3, n4, n5, fun y c h1 h2 => p15.other h1 (p13.other h1 (by rw [q11]; exact n6 y c h2)), by rw [p15.2.2, p13.2.2, q11]; exact z8⟩, fun fs hl => c16.trans (X15.returnOut hexec hret (hb hbytes d57) hl)⟩
end New4
namespace New1
def yN : MethodName := ⟨"java/lang/String", "<init>", "([C)V"⟩
abbrev yB : ByteArray := jdk_42_method_3_code
theorem d0 : decode yB 0 = .ok (.aload_n 0, 1) := by decide +kernel
theorem d1 : decode yB 1 = .ok (.aload_n 1, 1) := by decide +kernel
theorem d2 : decode yB 2 = .ok (.iconst 0, 1) := by decide +kernel
theorem d3 : decode yB 3 = .ok (.aload_n 1, 1) := by decide +kernel
theorem d4 : decode yB 4 = .ok (.arraylength, 1) := by decide +kernel
theorem d5 : decode yB 5 = .ok (.aconst_null, 1) := by decide +kernel
theorem d6 : decode yB 6 = .ok (.invokespecial 27, 3) := by decide +kernel
theorem d9 : decode yB 9 = .ok (.return_, 1) := by decide +kernel
def site : List Cond := [New4.tab] ++ initW "java/lang/String" 27 New4.yN
def tab : Cond := tabOf yN yB 2 none site
def P (a : Addr) (D : Cell) (fV fC : Field) (b : Addr) (A : Cell) (z : Int32) (args : Array Value) (s : State) : Prop := args = #[.ref a, .ref b] ∧ Blank "java/lang/String" a D s ∧ Found "java/lang/String" "value" "[B" fV s ∧ Found "java/lang/String" "coder" "B" fC s ∧ Ch b A s ∧ StaticIs s "java/lang/String" "COMPACT_STRINGS" "Z" (.int z) ∧ ¬ z = 0 ∧ 0 < A.slots.size ∧ A.slots.size ≤ 536870912 ∧ ∀ i, i < A.slots.size → ¬ 255 < cv A i
def E (a : Addr) (D : Cell) (fV fC : Field) (A : Cell) (r : Option Value) (s u : State) : Prop := Got a D fV fC A 0 A.slots.size r s u
/-- new String(chars), not empty, no char above 255: a Latin-1 String of their low bytes -/
theorem law (l : Launch) (a : Addr) (D : Cell) (fV fC : Field) (b : Addr) (A : Cell) (z : Int32) : Law l yN 2 1 3 52 yB 2 none site (P a D fV fC b A z) (E a D fV fC A) [⟨a, fC.slot⟩, ⟨a, fV.slot⟩] 1 A.slots.size := by
  refine Law.of_walk (plainFor_of_name (by decide +kernel)) (by decide +kernel) (by decide +kernel) (by decide) (fun _ _ h => by rw [h.1]; rfl) (fun _ U U' hal hh h => ⟨h.1, h.2.1.mv hal hh, h.2.2.1.al hal, h.2.2.2.1.al hal, h.2.2.2.2.1.mv hal hh, h.2.2.2.2.2.1.there hal hh, h.2.2.2.2.2.2⟩) (fun r U U' V V' h1 hal h2 h => Got.mv r U U' V V' h1 hal h2 h) ?_
  intro p e s m args below meth c s₁ X0 hexec hbytes hml hret hlk hnm hown hh0 W hP
  obtain ⟨rfl, hB, f1, f2, hA, s1, hz, l0, l2, hp⟩ := hP
  have c1 : Steps p.tables e below (s₁.setTop (entryFrame m #[.ref a, .ref b] 2)) (s₁.setTop (mkF m 0 #[.val (.ref a), .val (.ref b)] [])) := entry rfl
  have c2 : Steps p.tables e below (s₁.setTop (entryFrame m #[.ref a, .ref b] 2)) (s₁.setTop (mkF m 6 #[.val (.ref a), .val (.ref b)] [.null, .int (Int32.ofNat A.slots.size), .int 0, .ref b, .ref a])) := c1.trans (by
    refine XS.aloadN X0.here hexec rfl (hb hbytes d0) rfl rfl ?_
    refine XS.aloadN X0.here hexec rfl (hb hbytes d1) rfl rfl ?_
    refine iconstV X0.here hexec rfl 0 (hb hbytes d2) (by decide) ?_
    refine XS.aloadN X0.here hexec rfl (hb hbytes d3) rfl rfl ?_
    refine X0.alen hexec (hA.1.mv X0.warmed.alike hh0) rfl rfl (hb hbytes d4) ?_
    refine XS.aconstNull X0.here hexec rfl (hb hbytes d5) ?_
    exact Steps.refl _)
  obtain ⟨v3, T3, X3, E3, g3⟩ := X0.callN hexec (New4.law l a D fV fC b A z 0 A.slots.size) rfl hown (wks W (initW "java/lang/String" 27 New4.yN)) (W New4.tab (by simp only [site, List.mem_cons, List.mem_append, true_or, or_true])) (W := 0) (Nat.le_of_ble_eq_true rfl) (Nat.le_of_ble_eq_true rfl) (Nat.le_refl _) (by show 0 + A.slots.size ≤ A.slots.size; omega) (g := (mkF m 6 #[.val (.ref a), .val (.ref b)] [.null, .int (Int32.ofNat A.slots.size), .int (Int32.ofNat 0), .ref b, .ref a])) rfl (by rw [hml]; rfl) c2 (argsL := [.ref b, .int (Int32.ofNat 0), .int (Int32.ofNat A.slots.size), .null]) (rest := []) rfl rfl (by show 2 * 0 + 0 ≤ _; decide) (hb hbytes d6) (⟨rfl, hB.mv X0.warmed.alike hh0, f1.al X0.warmed.alike, f2.al X0.warmed.alike, hA.mv X0.warmed.alike hh0, s1.there X0.warmed.alike hh0, hz, l0, by omega, l2, fun i hi => by rw [Nat.zero_add]; exact hp i hi⟩)
  have e0 := Got.mv _ s₁ s _ _ hh0.symm (Vm.Alike.refl _) rfl E3
  obtain rfl := e0.1
  have c4 : Steps p.tables e below (s₁.setTop (entryFrame m #[.ref a, .ref b] 2)) (T3.setTop (mkF m 9 #[.val (.ref a), .val (.ref b)] [])) := g3
  exact ⟨T3, none, _, _, _, X3, by simp, rfl, by omega, (fun _ => rfl), e0, fun fs hl => c4.trans (X3.returnOut hexec hret (hb hbytes d9) hl)⟩
theorem pays {l : Launch} {R : Room} {p : Program} {e : Env} {below : List Frame} {s : State} {sargs : Array Value} {len W : Nat} (a : Addr) (D : Cell) (fV fC : Field) (b : Addr) (A : Cell) (z : Int32) (htab : tab.before sargs s = true) (hfr : 4 ≤ R.frames) (hlo : W + 65 ≤ R.locals) :
    Back l R p e below s sargs yN len W (fun A₁ a₁ => A₁.cells + 1 ≤ R.cells ∧ A₁.slots + A.slots.size ≤ R.slots ∧ P a D fV fC b A z a₁ A₁.U) (fun A₁ _ v₁ B₁ => E a D fV fC A v₁ A₁.U B₁.U ∧ B₁.locs = A₁.locs ++ [⟨a, fC.slot⟩, ⟨a, fV.slot⟩] ∧ B₁.cells = A₁.cells + 1 ∧ B₁.slots = A₁.slots + A.slots.size) :=
  (law l a D fV fC b A z).pays htab hfr (by omega)
end New1
/-- the byte, read back as charAt reads it, is the char -/
theorem lo8_mask {x : Int32} (h0 : ¬ x < 0) (h1 : ¬ 255 < x) : lo8 x &&& 255 = x := by
  have t : ∀ k : Fin 256, lo8 (Int32.ofNat k.val) &&& 255 = Int32.ofNat k.val := by decide +kernel
  rw [Int32.lt_iff_toInt_lt] at h0 h1
  have e0 : (0 : Int32).toInt = 0 := rfl
  have e1 : (255 : Int32).toInt = 255 := rfl
  obtain ⟨k, hk⟩ : ∃ k : Nat, x.toInt = k := ⟨x.toInt.toNat, by omega⟩
  have hx : x = Int32.ofNat k := Int32.toInt_inj.mp (by rw [hk, Int32.toInt_ofNat_small (by omega)])
  rw [hx]
  exact t ⟨k, by omega⟩
end StrChars
namespace StrChars.Road
open Jvm Sem ClassFile Op Lib Jvm.Stand Jvm.Free Jvm.Free.XT
open Jvm.Lib.Cold (StaticIs)
abbrev ST : String := "java/lang/String"
/-- every table word that New1's law asks, flat -/
abbrev words : List Jvm.Cond := [.code New1.yN New1.yB 2 none, .initialized ST, .methodLink ST 27 New4.yN, .instanceMethod New4.yN,
  .code New4.yN New4.yB 6 none, .fieldLink ST 38 ST "COMPACT_STRINGS" "Z", .laysFinal ST ST "value" "[B", .fieldLink ST 9 ST "value" "[B", .laysFinal ST ST "coder" "B", .fieldLink ST 15 ST "coder" "B",
  .methodLink ST 1 Lib.objectInit, .instanceMethod Lib.objectInit, .code Lib.objectInit ⟨#[0xb1]⟩ 1 none, .methodLink ST 177 Cmp3.yN, .static Cmp3.yN, .methodLink ST 47 CodL.yN, .static CodL.yN,
  .code Cmp3.yN Cmp3.yB 6 (some (.array .byte)), .initialized U16, .arrayClass .byte, .methodLink U16 115 Cmp5.yN, .static Cmp5.yN, .code Cmp5.yN Cmp5.yB 7 (some .int), .code CodL.yN CodL.yB 2 (some .byte)]
theorem tab_of {a : Array Value} {s : State} (h : ∀ w ∈ words, w.before a s = true) : New1.tab.before a s = true := by
  have h5 : Cmp5.tab.before a s = true := unparts (wk h (.code Cmp5.yN Cmp5.yB 7 (some .int))) (wks h (.initialized Cmp5.yN.cls :: Cmp5.site))
  have hc : CodL.tab.before a s = true := unparts (wk h (.code CodL.yN CodL.yB 2 (some .byte))) (wks h (.initialized CodL.yN.cls :: CodL.site))
  have q5 : ∀ w ∈ Cmp5.tab :: words, w.before a s = true := fun w hw => (List.mem_cons.mp hw).elim (fun e => e ▸ h5) (h w)
  have h3 : Cmp3.tab.before a s = true := unparts (wk q5 (.code Cmp3.yN Cmp3.yB 6 (some (.array .byte)))) (wks q5 (.initialized Cmp3.yN.cls :: Cmp3.site))
  have q3 : ∀ w ∈ Cmp3.tab :: CodL.tab :: words, w.before a s = true := fun w hw => (List.mem_cons.mp hw).elim (fun e => e ▸ h3) fun hw => (List.mem_cons.mp hw).elim (fun e => e ▸ hc) (h w)
  have h4 : New4.tab.before a s = true := unparts (wk q3 (.code New4.yN New4.yB 6 none)) (wks q3 (.initialized New4.yN.cls :: New4.site))
  have q4 : ∀ w ∈ New4.tab :: words, w.before a s = true := fun w hw => (List.mem_cons.mp hw).elim (fun e => e ▸ h4) (h w)
  exact unparts (wk q4 (.code New1.yN New1.yB 2 none)) (wks q4 (.initialized New1.yN.cls :: New1.site))
/-- the words ride from the start Z to the walk's own state -/
theorem moved {Z s : State} {a0 args : Array Value} (hZ : Z.Warmed39 s.vm) (hw : ∀ d ∈ words, d.before a0 Z = true) : ∀ d ∈ words, d.before args s = true := fun d hd => by
  have q := hw d hd
  have t : ∀ d ∈ words, d = .arrayClass .byte ∨ (d.onTables && d.keepsFace) = true := by decide +kernel
  rcases t d hd with rfl | t
  · exact RoadKit.mvA hZ q
  · exact RoadKit.mv hZ q t
/-- WHAT COMES BACK, over the tables of the start Z: h the heap at the call, h' behind it -/
def Q (Z : State) (x : Addr) (A : Cell) (h : Heap) (v : Option Value) (h' : Heap) (L : List Loc) : Prop := v = none ∧ (∀ y ∈ L, y.base = x) ∧ RoadKit.Keep h h' [x] ∧ h'.size = h.size + 1 ∧ RoadKit.Exa Z h' x ST ∧ RoadKit.Fld Z h' x ST "value" "[B" (.ref h.size) ∧ RoadKit.Fld Z h' x ST "coder" "B" (.int 0) ∧
  (∃ V : Cell, RoadKit.Arr Z h' h.size V .byte ∧ V.vm = .none ∧ Z.vm.findClass "[B" = some V.cls ∧ V.slots.size = A.slots.size ∧ ∀ j, j < A.slots.size → V.slots[j]? = some (.int (lo8 (cv A j)))) ∧
  ∀ (O n d : String) (w : Value), RoadKit.Fld Z h x O n d w → RoadKit.slotOf Z O n d ≠ RoadKit.slotOf Z ST "value" "[B" → RoadKit.slotOf Z O n d ≠ RoadKit.slotOf Z ST "coder" "B" → RoadKit.Fld Z h' x O n d w
/-- **new String(chars) AT A CALL, IN THE ROAD'S FORM**: for specialBack behind newO: x the fresh String, b the char[] with the cell A -/
theorem back {p : Program} {l : Launch} {e : Env} {R : Room} {s : State} {args : Array Value} {below : List Frame} {len W : Nat} {Z : State} {a0 : Array Value} {h : Heap} (hZ : Z.Warmed39 s.vm) (hw : ∀ d ∈ words, d.before a0 Z = true) {kI : Nat} (wi : (Jvm.Cond.instantiable ST kI).before a0 Z = true)
    {x b : Addr} {A : Cell} {z : Int32} {v0 c0 : Value} (E : RoadKit.Exa Z h x ST) (V : RoadKit.Fld Z h x ST "value" "[B" v0) (C : RoadKit.Fld Z h x ST "coder" "B" c0) (K : RoadKit.Arr Z h b A .char) (hty : Typed .char A) (S : RoadKit.Sta Z h ST "COMPACT_STRINGS" "Z" (.int z)) (hz : ¬ z = 0)
    (l0 : 0 < A.slots.size) (l2 : A.slots.size ≤ 536870912) (hp : ∀ i, i < A.slots.size → ¬ 255 < cv A i) (hfr : 4 ≤ R.frames) (hlo : W + 65 ≤ R.locals) :
    Back l R p e below s args New1.yN len W (fun P a => a = #[.ref x, .ref b] ∧ P.U.heap = h ∧ P.cells + 1 ≤ R.cells ∧ P.slots + A.slots.size ≤ R.slots)
      (fun P _ v B => ∃ L, Q Z x A h v B.U.heap L ∧ B.locs = P.locs ++ L ∧ B.cells = P.cells + 1 ∧ B.slots = P.slots + A.slots.size) := by
  intro m meth c P g ig mk a X hg hsize hdg hW hn hp'
  obtain ⟨rfl, rfl, r1, r2⟩ := hp'
  have al : Z.vm.Alike P.U.vm := hZ.alike.trans X.warmed.alike
  obtain ⟨D, cfV, kV, iV, fV, hD, gV, stV, knV, obV, asV, slV⟩ := id V
  obtain ⟨D', cfC, kC, iC, fC, hD', gC, stC, -, -, asC, slC⟩ := id C
  cases hD.symm.trans hD'
  obtain ⟨D2, kD, e1, e2, e3, e4, e5⟩ := id E
  cases hD.symm.trans e1
  obtain ⟨c2, k2, i1, i2, i3, -⟩ := Cond.instantiable_spec wi
  cases e2.symm.trans i1
  cases e3.symm.trans i2
  obtain ⟨kU, u1, u2⟩ := al.2.2 _ _ e3
  have hB : Blank ST x D P.U := ⟨hD, ⟨knV, fun q hq => by rw [hq] at obV; cases obV⟩, by rw [al.findClass]; exact e2, kU, u1, by rw [u2]; exact i3, by rw [u2]; exact e5 i3⟩
  have F1 : Found ST "value" "[B" fV P.U := ⟨SBG.found_only al ⟨cfV, kV, iV, gV⟩, stV⟩
  have F2 : Found ST "coder" "B" fC P.U := ⟨SBG.found_only al ⟨cfC, kC, iC, gC⟩, stC⟩
  have hA : Ch b A P.U := ⟨⟨K.1, State.isArrayOf_alike al K.2.1, K.2.2, by omega⟩, hty⟩
  have hS : StaticIs P.U ST "COMPACT_STRINGS" "Z" (.int z) := by
    obtain ⟨cfS, iS, kS, fS, st, cS, t1, t2, t3, t4, t5, t6, t7⟩ := S
    exact StaticIs.there (s := { Z with heap := P.U.heap }) ⟨cfS, iS, kS, fS, st, cS, t1, t2, t3, t4, t5, (fun q => by rw [q] at t6; cases t6), t7⟩ al rfl
  obtain ⟨v, B, X', ⟨⟨hv, E', V', q1, q2, q3, q4, q5, q6, q7, q8, q9, q10, q11⟩, hl, hc, hs⟩, st⟩ := New1.pays x D fV fC b A z (tab_of (moved hZ hw)) hfr hlo m meth c P g ig mk _ X hg hsize hdg hW hn ⟨r1, r2, rfl, hB, F1, F2, hA, hS, hz, l0, l2, hp⟩
  have al' : Z.vm.Alike B.U.vm := hZ.alike.trans X'.warmed.alike
  have hsz : E'.slots.size = D.slots.size := by
    obtain ⟨-, -, -, kB, w1, w2, w3⟩ := q1
    obtain ⟨kB', y1, y2⟩ := al'.2.2 _ _ e3
    rw [q2.2.1] at w1
    cases w1.symm.trans y1
    rw [w3, e5 i3, y2]
  refine ⟨v, B, X', ⟨_, ⟨hv, ?_, ⟨by omega, fun y cy hy hn' => q10 y cy (by simpa using hn') hy, fun y cy hy => ?_⟩, q11, ⟨E', _, q1.1, by rw [q2.2.1]; exact e2, by rw [q2.2.1]; exact e3, by rw [q2.1]; exact obV, fun _ => by rw [hsz]; exact e5 i3⟩,
    ⟨E', cfV, kV, iV, fV, q1.1, gV, stV, by rw [q2.1]; exact knV, by rw [q2.1]; exact obV, by rw [q2.2.1]; exact asV, q3⟩, ⟨E', cfC, kC, iC, fC, q1.1, gC, stC, by rw [q2.1]; exact knV, by rw [q2.1]; exact obV, by rw [q2.2.1]; exact asC, q4⟩,
    ⟨V', ⟨q5.1, State.isArrayOf_alike al'.symm q5.2.1, q5.2.2.1⟩, q6, by rw [← al'.findClass]; exact q7, q8, fun j hj => by have := q9 j hj; rwa [Nat.zero_add] at this⟩, fun O n d w F n1 n2 => ?_⟩, hl, hc, hs⟩, st⟩
  · intro y hy
    simp only [List.mem_cons, List.not_mem_nil, or_false] at hy
    rcases hy with rfl | rfl <;> rfl
  · by_cases q : y = x
    · subst q
      cases hD.symm.trans hy
      exact ⟨E', q1.1, q2.2.1, q2.1, hsz⟩
    · exact ⟨cy, q10 y cy q hy, rfl, rfl, rfl⟩
  · obtain ⟨D3, cf, k, i, f, g1, g2, g3, g4, g5, g6, g7⟩ := F
    cases hD.symm.trans g1
    simp only [RoadKit.slotOf, g2, gV, gC, Option.map_some, Option.getD_some] at n1 n2
    exact ⟨E', cf, k, i, f, q1.1, g2, g3, by rw [q2.1]; exact g4, by rw [q2.1]; exact g5, by rw [q2.2.1]; exact g6, by rw [q2.2.2 f.slot (by simp [n1, n2])]; exact g7⟩
end StrChars.Road
namespace StrChars.Road
open Jvm Sem ClassFile Op Lib Jvm.Stand Jvm.Free Jvm.Free.XT
/-- WHAT COMES BACK, the byte[] as a list of values -/
def QA (Z : State) (x : Addr) (zn : Int32) (cs : List Int32) (h : Heap) (v : Option Value) (h' : Heap) (L : List Loc) : Prop := v = none ∧ (∀ y ∈ L, y.base = x) ∧ RoadKit.Keep h h' [x] ∧ h'.size = h.size + 1 ∧ RoadKit.Exa Z h' x ST ∧ RoadKit.Fld Z h' x ST "value" "[B" (.ref h.size) ∧ RoadKit.Fld Z h' x ST "coder" "B" (.int 0) ∧
  (∃ kb, Z.vm.findClass "[B" = some kb ∧ RoadKit.Arv Z h' h.size kb .byte zn (cs.map fun c => .int (lo8 c)) (.int 0)) ∧
  ∀ (O n d : String) (w : Value), RoadKit.Fld Z h x O n d w → RoadKit.slotOf Z O n d ≠ RoadKit.slotOf Z ST "value" "[B" → RoadKit.slotOf Z O n d ≠ RoadKit.slotOf Z ST "coder" "B" → RoadKit.Fld Z h' x O n d w
/-- **new String(chars) AT A CALL, THE ARRAYS AS LISTS**: the char[] at b holds cs, not empty, no char above 255 -/
theorem backArv {p : Program} {l : Launch} {e : Env} {R : Room} {s : State} {args : Array Value} {below : List Frame} {len W : Nat} {Z : State} {a0 : Array Value} {h : Heap} (hZ : Z.Warmed39 s.vm) (hw : ∀ d ∈ words, d.before a0 Z = true) {kI : Nat} (wi : (Jvm.Cond.instantiable ST kI).before a0 Z = true)
    {x b : Addr} {k : ClassId} {zn z : Int32} {cs : List Int32} {dv v0 c0 : Value} (E : RoadKit.Exa Z h x ST) (V : RoadKit.Fld Z h x ST "value" "[B" v0) (C : RoadKit.Fld Z h x ST "coder" "B" c0) (K : RoadKit.Arv Z h b k .char zn (cs.map Value.int) dv) (S : RoadKit.Sta Z h ST "COMPACT_STRINGS" "Z" (.int z)) (hz : ¬ z = 0)
    (hlen : zn.toNatClampNeg = cs.length) (h0 : 0 < cs.length) (hbig : cs.length ≤ 536870912) (hall : ∀ c ∈ cs, ¬ 255 < c) (hfr : 4 ≤ R.frames) (hlo : W + 65 ≤ R.locals) :
    Back l R p e below s args New1.yN len W (fun P a => a = #[.ref x, .ref b] ∧ P.U.heap = h ∧ P.cells + 1 ≤ R.cells ∧ P.slots + cs.length ≤ R.slots)
      (fun P _ v B => ∃ L, QA Z x zn cs h v B.U.heap L ∧ B.locs = P.locs ++ L ∧ B.cells = P.cells + 1 ∧ B.slots = P.slots + cs.length) := by
  obtain ⟨A, K1, K2, K3, K4, K5, K6⟩ := K
  have e : A.slots.size = cs.length := K3.trans hlen
  have hat : ∀ (i : Nat) (hi : i < cs.length), A.slots[i]? = some (.int cs[i]) := fun i hi => by rw [K5 i (by omega)]; simp [List.getD_eq_getElem?_getD, hi]
  have hcv : ∀ (i : Nat) (hi : i < cs.length), cv A i = cs[i] := fun i hi => by unfold cv; rw [hat i hi]
  have hty : Typed .char A := fun i v hv => by
    have hi : i < A.slots.size := (Array.getElem?_eq_some_iff.mp hv).1
    have q := K5 i hi
    rw [hv] at q
    rw [Option.some.inj q]
    exact K6 i hi
  refine Back.mono (back hZ hw wi E V C K1 hty S hz (by omega) (by omega) (fun i hi => by rw [hcv i (by omega)]; exact hall _ (List.getElem_mem _)) hfr hlo) (fun P a hp => ⟨hp.1, hp.2.1, hp.2.2.1, by rw [e]; exact hp.2.2.2⟩) (fun P a v B hp hq => ?_)
  obtain ⟨L, ⟨q1, q2, q3, q4, q5, q6, q7, ⟨V', v1, v2, v3, v4, v5⟩, q9⟩, hl, hc, hs⟩ := hq
  refine ⟨L, ⟨q1, q2, q3, q4, q5, q6, q7, ⟨V'.cls, v3, V', v1, rfl, by rw [v4, e, hlen], K4, fun i hi => ?_, fun i hi => ?_⟩, q9⟩, hl, hc, by rw [hs, e]⟩
  · have hi' : i < cs.length := by omega
    rw [v5 i (by omega), hcv i hi']; simp [List.getD_eq_getElem?_getD, hi']
  · have hi' : i < cs.length := by omega
    simp only [List.getD_eq_getElem?_getD, List.getElem?_map, List.getElem?_eq_getElem hi', Option.map_some, Option.getD_some]
    exact fits_lo8 _
end StrChars.Road
namespace StrChars.Road
open Jvm Sem ClassFile Op Lib Jvm.Stand Jvm.Free Jvm.Free.XT
/-- WHAT COMES BACK, in the writer's own shape -/
def QV (Z : State) (x : Addr) (N : Int32) (bs : List Int32) (h : Heap) (n0 : Nat) (v : Option Value) (h' : Heap) (L : List Loc) : Prop := v = none ∧ RoadKit.Fr n0 L ∧ RoadKit.Keep h h' [x] ∧ RoadKit.Exa Z h' x ST ∧ RoadKit.Fld Z h' x ST "coder" "B" (.int 0) ∧
  ∃ (t : Addr) (kb : ClassId), n0 ≤ t ∧ h.size ≤ t ∧ ¬ t = x ∧ RoadKit.Fld Z h' x ST "value" "[B" (.ref t) ∧ RoadKit.Arv Z h' t kb .byte N (bs.map Value.int) (.int 0)
/-- **new String(chars) AT A CALL, FOR THE WRITER**: a char[] of n known ints, each 0 to 255 -/
theorem backV {p : Program} {l : Launch} {e : Env} {R : Room} {s : State} {args : Array Value} {below : List Frame} {len W : Nat} {Z : State} {a0 : Array Value} {h : Heap} (hZ : Z.Warmed39 s.vm) (hw : ∀ d ∈ words, d.before a0 Z = true) {kI : Nat} (wi : (Jvm.Cond.instantiable ST kI).before a0 Z = true)
    {x b : Addr} {kC : ClassId} {cs bs : List Int32} {d v0 c0 : Value} {z N : Int32} {n n0 : Nat} (hx0 : n0 ≤ x) (hh0 : n0 ≤ h.size) (E : RoadKit.Exa Z h x ST) (V : RoadKit.Fld Z h x ST "value" "[B" v0) (C : RoadKit.Fld Z h x ST "coder" "B" c0) (K : RoadKit.Arv Z h b kC .char N (cs.map Value.int) d) (S : RoadKit.Sta Z h ST "COMPACT_STRINGS" "Z" (.int z)) (hz : ¬ z = 0)
    (hn : cs.length = n) (hN : N = Int32.ofNat n) (l0 : 0 < n) (l2 : n ≤ 4000) (hp : ∀ c ∈ cs, ¬ c < 0 ∧ ¬ (255 : Int32) < c) (hb : bs = cs.map (fun c => c.toInt8.toInt32)) (hfr : 4 ≤ R.frames) (hlo : W + 65 ≤ R.locals) :
    Back l R p e below s args (⟨"java/lang/String", "<init>", "([C)V"⟩ : MethodName) len W (fun P a => a = #[.ref x, .ref b] ∧ P.U.heap = h ∧ P.cells + 1 ≤ R.cells ∧ P.slots + n ≤ R.slots)
      (fun P _ v B => ∃ L, QV Z x N bs h n0 v B.U.heap L ∧ B.locs = P.locs ++ L ∧ B.cells = P.cells + 1 ∧ B.slots = P.slots + n) := by
  subst hn hN hb
  refine Back.mono (backArv hZ hw wi E V C K S hz (n32 (by omega)) l0 (by omega) (fun c hc => (hp c hc).2) hfr hlo) (fun P a hp => hp) (fun P a v B hp hq => ?_)
  obtain ⟨L, ⟨q1, q2, q3, q4, q5, q6, q7, ⟨kb, v1, v2⟩, q9⟩, hl, hc, hs⟩ := hq
  exact ⟨L, ⟨q1, fun y hy => by rw [q2 y hy]; exact hx0, q3, q5, q7, h.size, kb, hh0, Nat.le_refl _, Nat.ne_of_gt E.lt, q6, by rw [List.map_map]; exact v2⟩, hl, hc, hs⟩
end StrChars.Road
namespace StrChars
open Jvm Sem ClassFile Op Lib Jvm.Stand Jvm.Free.XT Jvm.Free.ALB Jvm.Free.JM Jvm.Free
open Jvm.Lib.Cold (StaticIs)
def hi8 (x : Int32) : Int32 := lo8 (x >>> ((8 : Int32) &&& 31))
/-- what StringUTF16.getChar makes of two bytes -/
def pairCh (u v : Int32) : Int32 := (((u &&& 255) <<< ((0 : Int32) &&& 31)) ||| ((v &&& 255) <<< ((8 : Int32) &&& 31))).toUInt32.toUInt16.toUInt32.toInt32
theorem lo8_and (x : Int32) : (lo8 x &&& 255).toBitVec.toNat = x.toBitVec.toNat % 256 := by
  have h : (lo8 x).toBitVec = (x.toBitVec.signExtend 8).signExtend 32 := by rw [lo8, Int8.toBitVec_toInt32, Int32.toBitVec_toInt8]
  rw [Int32.toBitVec_and, BitVec.toNat_and, h]
  have e : ((x.toBitVec.signExtend 8).signExtend 32).toNat % 256 = x.toBitVec.toNat % 256 := by
    rw [BitVec.toNat_signExtend]
    have hlt := x.toBitVec.isLt
    simp only [BitVec.toNat_setWidth, BitVec.toNat_signExtend]
    split <;> split <;> omega
  rw [← e]
  exact Nat.and_two_pow_sub_one_eq_mod _ 8
theorem pair_says {c : Int32} (h0 : ¬ c < 0) (h1 : ¬ 65535 < c) : pairCh (lo8 c) (hi8 c) = c := by
  rw [Int32.lt_iff_toInt_lt] at h0 h1
  have e0 : (0 : Int32).toInt = 0 := rfl
  have e1 : (65535 : Int32).toInt = 65535 := rfl
  have hc : c.toInt = c.toBitVec.toNat := by
    have := c.toBitVec.isLt
    have e : c.toInt = c.toBitVec.toInt := rfl
    rw [e] at h0 h1
    rw [e]
    rw [BitVec.toInt_eq_toNat_cond] at h0 h1 ⊢
    split at h0 <;> split <;> omega
  have hn : c.toBitVec.toNat < 65536 := by omega
  have a1 := lo8_and c
  have a2 : (hi8 c &&& 255).toBitVec.toNat = c.toBitVec.toNat / 256 := by
    rw [hi8, lo8_and]
    have e : ((8 : Int32) &&& 31) = 8 := by decide
    rw [e, Int32.toBitVec_shiftRight]
    have e2 : ((8 : Int32).toBitVec.smod 32) = 8#32 := by decide
    rw [e2, BitVec.sshiftRight_eq', BitVec.toNat_sshiftRight_of_msb_false (by rw [BitVec.msb_eq_false_iff_two_mul_lt]; omega)]
    show c.toBitVec.toNat >>> 8 % 256 = _
    rw [Nat.shiftRight_eq_div_pow]
    omega
  unfold pairCh
  apply Int32.toBitVec_inj.mp
  apply BitVec.eq_of_toNat_eq
  have f0 : ((0 : Int32) &&& 31) = 0 := by decide
  have f8 : ((8 : Int32) &&& 31) = 8 := by decide
  rw [f0, f8]
  have g : (((lo8 c &&& 255) <<< (0 : Int32)) ||| ((hi8 c &&& 255) <<< (8 : Int32))).toBitVec.toNat = c.toBitVec.toNat := by
    rw [Int32.toBitVec_or, Int32.toBitVec_shiftLeft, Int32.toBitVec_shiftLeft]
    have s0 : ((0 : Int32).toBitVec.smod 32) = 0#32 := by decide
    have s8 : ((8 : Int32).toBitVec.smod 32) = 8#32 := by decide
    rw [s0, s8, BitVec.toNat_or]
    simp only [BitVec.shiftLeft_eq', BitVec.toNat_shiftLeft, a1, a2]
    show (c.toBitVec.toNat % 256) <<< 0 % 2 ^ 32 ||| (c.toBitVec.toNat / 256) <<< 8 % 2 ^ 32 = _
    rw [Nat.shiftLeft_zero, Nat.mod_eq_of_lt (show c.toBitVec.toNat % 256 < 2 ^ 32 by omega), Nat.mod_eq_of_lt (show (c.toBitVec.toNat / 256) <<< 8 < 2 ^ 32 by rw [Nat.shiftLeft_eq]; omega), Nat.or_comm, ← Nat.shiftLeft_add_eq_or_of_lt (by omega), Nat.shiftLeft_eq]
    omega
  show BitVec.toNat (((((lo8 c &&& 255) <<< (0 : Int32)) ||| ((hi8 c &&& 255) <<< (8 : Int32))).toBitVec.setWidth 16).setWidth 32) = _
  rw [BitVec.toNat_setWidth, BitVec.toNat_setWidth, g]
  omega
end StrChars
namespace StrChars
open Jvm Sem ClassFile Op Lib Jvm.Stand Jvm.Free.XT Jvm.Free.ALB Jvm.Free.JM Jvm.Free
open Jvm.Lib.Cold (StaticIs)
/-- charAt's cast of a byte read back -/
def chr8 (u : Int32) : Int32 := (u &&& 255).toUInt32.toUInt16.toUInt32.toInt32
theorem chr8_lo8 {c : Int32} (h0 : ¬ c < 0) (h1 : ¬ 255 < c) : chr8 (lo8 c) = c := by
  have t : ∀ k : Fin 256, (Int32.ofNat k.val).toUInt32.toUInt16.toUInt32.toInt32 = Int32.ofNat k.val := by decide +kernel
  unfold chr8
  rw [lo8_mask h0 h1]
  rw [Int32.lt_iff_toInt_lt] at h0 h1
  have e0 : (0 : Int32).toInt = 0 := rfl
  have e1 : (255 : Int32).toInt = 255 := rfl
  obtain ⟨k, hk⟩ : ∃ k : Nat, c.toInt = k := ⟨c.toInt.toNat, by omega⟩
  have hx : c = Int32.ofNat k := Int32.toInt_inj.mp (by rw [hk, Int32.toInt_ofNat_small (by omega)])
  rw [hx]
  exact t ⟨k, by omega⟩
theorem narrow_ch {c : Int32} (h0 : ¬ c < 0) (h1 : ¬ 65535 < c) : narrow .char (.int c) = .int c := by
  have q : narrow .char (.int (pairCh (lo8 c) (hi8 c))) = .int (pairCh (lo8 c) (hi8 c)) := narrow_c _
  rwa [pair_says h0 h1] at q
/-- the array's cell V codes the n chars f 0 .. f (n - 1) by the coder cd, as the JDK does: coder 1 just where some char is above 255 -/
def Cod (cd : Int32) (n : Nat) (f : Nat → Int32) (V : Cell) : Prop := (cd = 0 ∧ V.slots.size = n ∧ ∀ j, j < n → V.slots[j]? = some (.int (lo8 (f j))) ∧ ¬ 255 < f j) ∨ (cd = 1 ∧ V.slots.size = 2 * n ∧ (∀ j, j < n → V.slots[2 * j]? = some (.int (lo8 (f j))) ∧ V.slots[2 * j + 1]? = some (.int (hi8 (f j)))) ∧ ∃ j, j < n ∧ 255 < f j)
theorem Cod.cd {cd : Int32} {n : Nat} {f : Nat → Int32} {V : Cell} (h : Cod cd n f V) : cd = 0 ∨ cd = 1 := h.imp (fun q => q.1) fun q => q.1
/-- **x is a String of the n chars f 0 .. f (n - 1)**, Latin-1 or UTF-16; its array at t has the cell V -/
def Txt (x t : Addr) (V : Cell) (cd : Int32) (n : Nat) (f : Nat → Int32) (U : State) : Prop := Exact "java/lang/String" x U ∧ Has x "java/lang/String" "value" "[B" (.ref t) U ∧ Has x "java/lang/String" "coder" "B" (.int cd) U ∧ XT.Arr .byte t V U ∧ Cod cd n f V ∧ ∀ j, j < n → ¬ f j < 0 ∧ ¬ 65535 < f j
theorem Txt.mv {x t : Addr} {V : Cell} {cd : Int32} {n : Nat} {f : Nat → Int32} {U U' : State} (h : Txt x t V cd n f U) (hal : U.vm.Alike U'.vm) (hh : U'.heap = U.heap) : Txt x t V cd n f U' := ⟨h.1.mv hal hh, h.2.1.mv hal hh, h.2.2.1.mv hal hh, h.2.2.2.1.mv hal hh, h.2.2.2.2⟩
namespace IsL
def yN : MethodName := ⟨"java/lang/String", "isLatin1", "()Z"⟩
abbrev yB : ByteArray := jdk_42_method_154_code
theorem d0 : decode yB 0 = .ok (.getstatic 38, 3) := by decide +kernel
theorem d3 : decode yB 3 = .ok (.ifCond (.eq) 14, 3) := by decide +kernel
theorem d6 : decode yB 6 = .ok (.aload_n 0, 1) := by decide +kernel
theorem d7 : decode yB 7 = .ok (.getfield 15, 3) := by decide +kernel
theorem d10 : decode yB 10 = .ok (.ifCond (.ne) 7, 3) := by decide +kernel
theorem d13 : decode yB 13 = .ok (.iconst 1, 1) := by decide +kernel
theorem d14 : decode yB 14 = .ok (.goto 4, 3) := by decide +kernel
theorem d17 : decode yB 17 = .ok (.iconst 0, 1) := by decide +kernel
theorem d18 : decode yB 18 = .ok (.ireturn, 1) := by decide +kernel
def site : List Cond := [.fieldLink "java/lang/String" 38 "java/lang/String" "COMPACT_STRINGS" "Z", .fieldLink "java/lang/String" 15 "java/lang/String" "coder" "B"]
def tab : Cond := tabOf yN yB 1 (some .boolean) site
def P (x : Addr) (cd z : Int32) (args : Array Value) (s : State) : Prop := args = #[.ref x] ∧ Has x "java/lang/String" "coder" "B" (.int cd) s ∧ (cd = 0 ∨ cd = 1) ∧ StaticIs s "java/lang/String" "COMPACT_STRINGS" "Z" (.int z) ∧ ¬ z = 0
def E (cd : Int32) (r : Option Value) (s u : State) : Prop := XT.PureE (some (.int (1 - cd))) r s u
theorem law (l : Launch) (x : Addr) (cd z : Int32) : Law l yN 1 0 0 0 yB 1 (some .boolean) site (P x cd z) (E cd) [] 0 0 := by
  refine Law.of_walk (plainFor_of_name (by decide +kernel)) (by decide +kernel) (by decide +kernel) (by decide) (fun _ _ h => by rw [h.1]; rfl) (fun _ U U' hal hh h => ⟨h.1, h.2.1.mv hal hh, h.2.2.1, h.2.2.2.1.there hal hh, h.2.2.2.2⟩) (fun r U U' V V' h1 hal h2 h => XT.PureE.mv r U U' V V' h1 hal h2 h) ?_
  intro p e s m args below meth c s₁ X0 hexec hbytes hml hret hlk hnm hown hh0 W hP
  obtain ⟨rfl, hx, hc, s1, hz⟩ := hP
  have c1 : Steps p.tables e below (s₁.setTop (entryFrame m #[.ref x] 1)) (s₁.setTop (mkF m 0 #[.val (.ref x)] [])) := entry rfl
  obtain ⟨T2, X2, q2, st2⟩ := X0.sget hexec hown (wk W (.fieldLink "java/lang/String" 38 "java/lang/String" "COMPACT_STRINGS" "Z")) s1 (fun _ _ h => by rw [hh0]; exact h) (g := (mkF m 0 #[.val (.ref x)] [])) rfl (hb hbytes d0)
  have hh2 := q2.trans hh0
  have c3 : Steps p.tables e below (s₁.setTop (entryFrame m #[.ref x] 1)) (T2.setTop (mkF m 7 #[.val (.ref x)] [.ref x])) := (c1.trans (st2 _ (Steps.refl _))).trans (by
    refine XS.ifNo X2.here hexec rfl (hb hbytes d3) rfl (i0_eq_f hz) ?_
    refine XS.aloadN X2.here hexec rfl (hb hbytes d6) rfl rfl ?_
    exact Steps.refl _)
  obtain ⟨T4, X4, q4, st4⟩ := X2.hget hexec hown (wk W (.fieldLink "java/lang/String" 15 "java/lang/String" "coder" "B")) (hx.mv X2.warmed.alike hh2) (g := (mkF m 7 #[.val (.ref x)] [.ref x])) rfl (rest := []) rfl (hb hbytes d7)
  have c5 : Steps p.tables e below (s₁.setTop (entryFrame m #[.ref x] 1)) (T4.setTop (mkF m 10 #[.val (.ref x)] [.int cd])) := c3.trans (st4 _ (Steps.refl _))
  have c6 : Steps p.tables e below (s₁.setTop (entryFrame m #[.ref x] 1)) (T4.setTop (mkF m 18 #[.val (.ref x)] [.int (1 - cd)])) := by
    rcases hc with rfl | rfl
    · exact c5.trans (by
        refine XS.ifNo X4.here hexec rfl (hb hbytes d10) rfl (i0_ne_f rfl) ?_
        refine iconstV X4.here hexec rfl 1 (hb hbytes d13) (by decide) ?_
        refine XS.goto X4.here hexec rfl (pc0 := 14) rfl (hb hbytes d14) (by decide) rfl ?_
        exact Steps.refl _)
    · exact c5.trans (by
        refine XS.ifYes X4.here hexec rfl (pc0 := 10) rfl (hb hbytes d10) rfl (i0_ne_t (by decide)) (by decide) rfl ?_
        refine iconstV X4.here hexec rfl 0 (hb hbytes d17) (by decide) ?_
        exact Steps.refl _)
  exact ⟨T4, some (.int (1 - cd)), _, _, _, X4, rfl, rfl, rfl, (fun h => by cases h), ⟨rfl, q4.trans hh2⟩, fun fs hl => c6.trans (X4.ireturnOut hexec hret (by rcases hc with rfl | rfl <;> rfl) (Or.inr (Or.inl rfl)) (hb hbytes d18) hl)⟩
end IsL
namespace LChA
def yN : MethodName := ⟨"java/lang/StringLatin1", "charAt", "([BI)C"⟩
abbrev yB : ByteArray := jdk_43_method_2_code
theorem d0 : decode yB 0 = .ok (.iload_n 1, 1) := by decide +kernel
theorem d1 : decode yB 1 = .ok (.aload_n 0, 1) := by decide +kernel
theorem d2 : decode yB 2 = .ok (.arraylength, 1) := by decide +kernel
theorem d3 : decode yB 3 = .ok (.invokestatic 9, 3) := by decide +kernel
theorem d6 : decode yB 6 = .ok (.aload_n 0, 1) := by decide +kernel
theorem d7 : decode yB 7 = .ok (.iload_n 1, 1) := by decide +kernel
theorem d8 : decode yB 8 = .ok (.baload, 1) := by decide +kernel
theorem d9 : decode yB 9 = .ok (.sipush 255, 3) := by decide +kernel
theorem d12 : decode yB 12 = .ok (.iand, 1) := by decide +kernel
theorem d13 : decode yB 13 = .ok (.i2c, 1) := by decide +kernel
theorem d14 : decode yB 14 = .ok (.ireturn, 1) := by decide +kernel
def site : List Cond := [JO.Str_checkIndex.tab] ++ staticW "java/lang/StringLatin1" 9 JO.Str_checkIndex.yN
def tab : Cond := tabOf yN yB 2 (some .char) site
def P (t : Addr) (V : Cell) (i : Nat) (u : Int32) (fm : Value) (args : Array Value) (s : State) : Prop := args = #[.ref t, .int (Int32.ofNat i)] ∧ XT.Arr .byte t V s ∧ V.slots[i]? = some (.int u) ∧ (StaticIs s "jdk/internal/util/Preconditions" "SIOOBE_FORMATTER" "Ljava/util/function/BiFunction;" fm ∧ fm.isRef = true)
def E (u : Int32) (r : Option Value) (s w : State) : Prop := XT.PureE (some (.int (chr8 u))) r s w
theorem law (l : Launch) (t : Addr) (V : Cell) (i : Nat) (u : Int32) (fm : Value) : Law l yN 2 2 2 27 yB 2 (some .char) site (P t V i u fm) (E u) [] 0 0 := by
  refine Law.of_walk (plainFor_of_name (by decide +kernel)) (by decide +kernel) (by decide +kernel) (by decide) (fun _ _ h => by rw [h.1]; rfl) (fun _ U U' hal hh h => ⟨h.1, h.2.1.mv hal hh, h.2.2.1, h.2.2.2.1.there hal hh, h.2.2.2.2⟩) (fun r U U' V V' h1 hal h2 h => XT.PureE.mv r U U' V V' h1 hal h2 h) ?_
  intro p e s m args below meth c s₁ X0 hexec hbytes hml hret hlk hnm hown hh0 W hP
  obtain ⟨rfl, hV, hu, s1, rf⟩ := hP
  have v31 := hV.2.2.2
  have hi : i < V.slots.size := (Array.getElem?_eq_some_iff.mp hu).1
  have c1 : Steps p.tables e below (s₁.setTop (entryFrame m #[.ref t, .int (Int32.ofNat i)] 2)) (s₁.setTop (mkF m 0 #[.val (.ref t), .val (.int (Int32.ofNat i))] [])) := entry rfl
  have c2 : Steps p.tables e below (s₁.setTop (entryFrame m #[.ref t, .int (Int32.ofNat i)] 2)) (s₁.setTop (mkF m 3 #[.val (.ref t), .val (.int (Int32.ofNat i))] [.int (Int32.ofNat V.slots.size), .int (Int32.ofNat i)])) := c1.trans (by
    refine XS.iloadN X0.here hexec rfl (hb hbytes d0) rfl ?_
    refine XS.aloadN X0.here hexec rfl (hb hbytes d1) rfl rfl ?_
    refine X0.alen hexec (hV.mv X0.warmed.alike hh0) rfl rfl (hb hbytes d2) ?_
    exact Steps.refl _)
  obtain ⟨v3, T3, X3, E3, g3⟩ := X0.callS hexec (JO.Str_checkIndex.law l (Int32.ofNat i) (Int32.ofNat V.slots.size) fm) hown (wks W (staticW "java/lang/StringLatin1" 9 JO.Str_checkIndex.yN)) (wk W JO.Str_checkIndex.tab) (W := 0) (Nat.le_of_ble_eq_true rfl) (Nat.le_of_ble_eq_true rfl) (Nat.le_refl _) (Nat.le_refl _) (g := (mkF m 3 #[.val (.ref t), .val (.int (Int32.ofNat i))] [.int (Int32.ofNat V.slots.size), .int (Int32.ofNat i)])) rfl (by rw [hml]; rfl) c2 (argsL := [.int (Int32.ofNat i), .int (Int32.ofNat V.slots.size)]) (rest := []) rfl rfl (by show 2 * 0 + 0 ≤ _; decide) (hb hbytes d3) (⟨rfl, rf, s1.there X0.warmed.alike hh0, Int32.ofNat_not_neg (by omega), lt32 v31 hi⟩)
  obtain ⟨rfl, q3⟩ := E3
  have hh3 := q3.trans hh0
  have c4 : Steps p.tables e below (s₁.setTop (entryFrame m #[.ref t, .int (Int32.ofNat i)] 2)) (T3.setTop (mkF m 14 #[.val (.ref t), .val (.int (Int32.ofNat i))] [.int (chr8 u)])) := Steps.trans g3 (by
    refine XS.aloadN X3.here hexec rfl (hb hbytes d6) rfl rfl ?_
    refine XS.iloadN X3.here hexec rfl (hb hbytes d7) rfl ?_
    refine X3.aget hexec (hV.mv X3.warmed.alike hh3) rfl hu rfl rfl (hb hbytes d8) ?_
    refine sipushV X3.here hexec rfl 255 (hb hbytes d9) (by decide) ?_
    refine XS.iand X3.here hexec rfl (hb hbytes d12) rfl ?_
    refine i2c X3.here hexec rfl (hb hbytes d13) rfl ?_
    exact Steps.refl _)
  exact ⟨T3, some (.int (chr8 u)), _, _, _, X3, rfl, rfl, rfl, (fun h => by cases h), ⟨rfl, hh3⟩, fun fs hl => c4.trans (X3.ireturnOut hexec hret (narrow_c _) (Or.inr (Or.inr (Or.inr (Or.inl rfl)))) (hb hbytes d14) hl)⟩
end LChA
end StrChars
namespace StrChars.Road
open Jvm Sem ClassFile Op Lib Jvm.Stand Jvm.Free Jvm.Free.XT
open Jvm.Lib.Cold (StaticIs)
theorem consq {a : Array Value} {s : State} {c : Jvm.Cond} {L : List Jvm.Cond} (h0 : c.before a s = true) (h : ∀ w ∈ L, w.before a s = true) : ∀ w ∈ c :: L, w.before a s = true := fun w hw => (List.mem_cons.mp hw).elim (fun e => e ▸ h0) (h w)
/-- the bytes of the chars cs, low before high -/
def wideBytes : List Int32 → List Value
  | [] => []
  | c :: cs => .int (lo8 c) :: .int (hi8 c) :: wideBytes cs
theorem wide_lo (d : Value) : ∀ (cs : List Int32) (j : Nat), j < cs.length → (wideBytes cs).getD (2 * j) d = .int (lo8 (cs.getD j 0))
  | [], j, h => absurd h (Nat.not_lt_zero j)
  | c :: cs, 0, _ => rfl
  | c :: cs, j + 1, h => by
    have q := wide_lo d cs j (by simpa using h)
    rw [show 2 * (j + 1) = 2 * j + 1 + 1 from by omega]
    simpa [wideBytes] using q
theorem wide_hi (d : Value) : ∀ (cs : List Int32) (j : Nat), j < cs.length → (wideBytes cs).getD (2 * j + 1) d = .int (hi8 (cs.getD j 0))
  | [], j, h => absurd h (Nat.not_lt_zero j)
  | c :: cs, 0, _ => rfl
  | c :: cs, j + 1, h => by
    have q := wide_hi d cs j (by simpa using h)
    rw [show 2 * (j + 1) + 1 = 2 * j + 1 + 1 + 1 from by omega]
    simpa [wideBytes] using q
theorem low_at (d : Value) (cs : List Int32) (j : Nat) (h : j < cs.length) : (cs.map fun c => Value.int (lo8 c)).getD j d = .int (lo8 (cs.getD j 0)) := by
  simp [List.getD_eq_getElem?_getD, h]
/-- an array of N2 bytes vs codes the chars cs by the coder cd -/
def CodA (cs : List Int32) (cd N2 : Int32) (vs : List Value) : Prop := (cd = 0 ∧ N2 = Int32.ofNat cs.length ∧ vs = (cs.map fun c => Value.int (lo8 c)) ∧ ∀ c ∈ cs, ¬ 255 < c) ∨ (cd = 1 ∧ N2 = Int32.ofNat (2 * cs.length) ∧ vs = wideBytes cs ∧ ∃ c ∈ cs, 255 < c)
theorem CodA.cod {cs : List Int32} {cd N2 : Int32} {vs : List Value} {V : Cell} (h : CodA cs cd N2 vs) (hn : 2 * cs.length < 2 ^ 31) (hs : V.slots.size = N2.toNatClampNeg) (hv : RoadKit.Has V vs (.int 0)) : Cod cd cs.length (fun j => cs.getD j 0) V := by
  rcases h with ⟨rfl, rfl, rfl, h⟩ | ⟨rfl, rfl, rfl, c, hc, hw⟩
  · rw [n32 (by omega)] at hs
    exact Or.inl ⟨rfl, hs, fun j hj => ⟨by rw [hv j (by omega), low_at _ _ _ hj], by
      have e : cs.getD j 0 = cs[j] := by simp [List.getD_eq_getElem?_getD, hj]
      show ¬ 255 < cs.getD j 0
      rw [e]; exact h _ (List.getElem_mem _)⟩⟩
  · rw [n32 (by omega)] at hs
    obtain ⟨j, hj, rfl⟩ := List.getElem_of_mem hc
    exact Or.inr ⟨rfl, hs, fun j hj => ⟨by rw [hv _ (by omega), wide_lo _ _ _ hj], by rw [hv _ (by omega), wide_hi _ _ _ hj]⟩, j, hj, by
      have e : cs.getD j 0 = cs[j] := by simp [List.getD_eq_getElem?_getD, hj]
      show 255 < cs.getD j 0
      rw [e]; exact hw⟩
/-- an object of exactly java/lang/String, its two fields found: as the laws ask it -/
theorem strObj {Z U : State} {a0 : Array Value} {kI : Nat} (wi : (Jvm.Cond.instantiable ST kI).before a0 Z = true) (al : Z.vm.Alike U.vm) {x : Addr} {v0 c0 : Value} (E : RoadKit.Exa Z U.heap x ST) (V : RoadKit.Fld Z U.heap x ST "value" "[B" v0) (C : RoadKit.Fld Z U.heap x ST "coder" "B" c0) :
    ∃ (D : Cell) (fV fC : Field), Blank ST x D U ∧ Found ST "value" "[B" fV U ∧ Found ST "coder" "B" fC U ∧ D.slots[fV.slot]? = some v0 ∧ D.slots[fC.slot]? = some c0 ∧ RoadKit.slotOf Z ST "value" "[B" = fV.slot ∧ RoadKit.slotOf Z ST "coder" "B" = fC.slot := by
  obtain ⟨D, cfV, kV, iV, fV, hD, gV, stV, knV, obV, asV, slV⟩ := V
  obtain ⟨D', cfC, kC, iC, fC, hD', gC, stC, -, -, asC, slC⟩ := C
  cases hD.symm.trans hD'
  obtain ⟨D2, kD, e1, e2, e3, e4, e5⟩ := E
  cases hD.symm.trans e1
  obtain ⟨c2, k2, i1, i2, i3, -⟩ := Cond.instantiable_spec wi
  cases e2.symm.trans i1
  cases e3.symm.trans i2
  obtain ⟨kU, u1, u2⟩ := al.2.2 _ _ e3
  exact ⟨D, fV, fC, ⟨hD, ⟨knV, fun q hq => by rw [hq] at obV; cases obV⟩, by rw [al.findClass]; exact e2, kU, u1, by rw [u2]; exact i3, by rw [u2]; exact e5 i3⟩, ⟨SBG.found_only al ⟨cfV, kV, iV, gV⟩, stV⟩, ⟨SBG.found_only al ⟨cfC, kC, iC, gC⟩, stC⟩, slV, slC, by simp [RoadKit.slotOf, gV], by simp [RoadKit.slotOf, gC]⟩
theorem sta_is {Z U : State} (al : Z.vm.Alike U.vm) {C n d : String} {v : Value} (S : RoadKit.Sta Z U.heap C n d v) : StaticIs U C n d v := by
  obtain ⟨cfS, iS, kS, fS, st, cS, t1, t2, t3, t4, t5, t6, t7⟩ := S
  exact StaticIs.there (s := { Z with heap := U.heap }) ⟨cfS, iS, kS, fS, st, cS, t1, t2, t3, t4, t5, (fun q => by rw [q] at t6; cases t6), t7⟩ al rfl
end StrChars.Road
namespace StrChars.Road
open Jvm Sem ClassFile Op Lib Jvm.Stand Jvm.Free Jvm.Free.XT
open Jvm.Lib.Cold (StaticIs)
/-- the road's facts of a String, as the laws ask it -/
theorem txt_of {Z U : State} {a0 : Array Value} {kI : Nat} (wi : (Jvm.Cond.instantiable ST kI).before a0 Z = true) (al : Z.vm.Alike U.vm) {x t : Addr} {kb : ClassId} {cs : List Int32} {cd N2 : Int32} {vs : List Value} (E : RoadKit.Exa Z U.heap x ST) (V : RoadKit.Fld Z U.heap x ST "value" "[B" (.ref t)) (C : RoadKit.Fld Z U.heap x ST "coder" "B" (.int cd)) (K : RoadKit.Arv Z U.heap t kb .byte N2 vs (.int 0)) (hc : CodA cs cd N2 vs) (hb : ∀ c ∈ cs, ¬ c < 0 ∧ ¬ (65535 : Int32) < c) (l2 : cs.length ≤ 4000) :
    ∃ A, Txt x t A cd cs.length (fun j => cs.getD j 0) U := by
  obtain ⟨A, K1, K2, K3, K4, K5, K6⟩ := K
  have hcod := hc.cod (by omega) K3 K5
  obtain ⟨D, fV, fC, hB, F1, F2, g1, g2, -, -⟩ := strObj wi al E V C
  exact ⟨A, ⟨_, hB.2.2.1, D, hB.1, rfl, by cases q : D.vm <;> first | rfl | exact absurd q (hB.2.1.2 _)⟩, Has.of hB F1 g1, Has.of hB F2 g2, ⟨K1.1, State.isArrayOf_alike al K1.2.1, K1.2.2, by rcases hcod with ⟨-, q, -⟩ | ⟨-, q, -⟩ <;> omega⟩, hcod, fun j hj => by
    have e : cs.getD j 0 = cs[j] := by simp [List.getD_eq_getElem?_getD, hj]
    show ¬ cs.getD j 0 < 0 ∧ ¬ 65535 < cs.getD j 0
    rw [e]; exact hb _ (List.getElem_mem _)⟩
end StrChars.Road
namespace StrChars
open Jvm Sem ClassFile Op Lib Jvm.Stand Jvm.Free.XT Jvm.Free.ALB Jvm.Free.JM Jvm.Free
open Jvm.Lib.Cold (StaticIs)
namespace ChN
def yN : MethodName := ⟨"java/lang/String", "charAt", "(I)C"⟩
abbrev yB : ByteArray := jdk_42_method_56_code
theorem d0 : decode yB 0 = .ok (.aload_n 0, 1) := by decide +kernel
theorem d1 : decode yB 1 = .ok (.invokevirtual 492, 3) := by decide +kernel
theorem d4 : decode yB 4 = .ok (.ifCond (.eq) 12, 3) := by decide +kernel
theorem d7 : decode yB 7 = .ok (.aload_n 0, 1) := by decide +kernel
theorem d8 : decode yB 8 = .ok (.getfield 9, 3) := by decide +kernel
theorem d11 : decode yB 11 = .ok (.iload_n 1, 1) := by decide +kernel
theorem d12 : decode yB 12 = .ok (.invokestatic 495, 3) := by decide +kernel
theorem d15 : decode yB 15 = .ok (.ireturn, 1) := by decide +kernel
def site : List Cond := [.fieldLink "java/lang/String" 9 "java/lang/String" "value" "[B", IsL.tab, LChA.tab] ++ virtW "java/lang/String" 492 "java/lang/String" IsL.yN IsL.yN ++ staticW "java/lang/String" 495 LChA.yN
def tab : Cond := tabOf yN yB 2 (some .char) site
def P (x t : Addr) (V : Cell) (n : Nat) (f : Nat → Int32) (z : Int32) (fm : Value) (i : Nat) (args : Array Value) (s : State) : Prop := args = #[.ref x, .int (Int32.ofNat i)] ∧ Txt x t V 0 n f s ∧ i < n ∧ StaticIs s "java/lang/String" "COMPACT_STRINGS" "Z" (.int z) ∧ ¬ z = 0 ∧ StaticIs s "jdk/internal/util/Preconditions" "SIOOBE_FORMATTER" "Ljava/util/function/BiFunction;" fm ∧ fm.isRef = true
def E (f : Nat → Int32) (i : Nat) (r : Option Value) (s u : State) : Prop := XT.PureE (some (.int (f i))) r s u
/-- charAt(i) of a Latin-1 String of n chars, i < n: f i -/
theorem law (l : Launch) (x t : Addr) (V : Cell) (n : Nat) (f : Nat → Int32) (z : Int32) (fm : Value) (i : Nat) : Law l yN 2 1 3 40 yB 2 (some .char) site (P x t V n f z fm i) (E f i) [] 0 0 := by
  refine Law.of_walk (plainFor_of_name (by decide +kernel)) (by decide +kernel) (by decide +kernel) (by decide) (fun _ _ h => by rw [h.1]; rfl) (fun _ U U' hal hh h => ⟨h.1, h.2.1.mv hal hh, h.2.2.1, h.2.2.2.1.there hal hh, h.2.2.2.2.1, h.2.2.2.2.2.1.there hal hh, h.2.2.2.2.2.2⟩) (fun r U U' V V' h1 hal h2 h => XT.PureE.mv r U U' V V' h1 hal h2 h) ?_
  intro p e s m args below meth c s₁ X0 hexec hbytes hml hret hlk hnm hown hh0 W hP
  obtain ⟨rfl, hx, hi, s1, hz, s3, rf⟩ := hP
  have v31 := hx.2.2.2.1.2.2.2
  have hr := hx.2.2.2.2.2 i hi
  have hx0 := hx.mv X0.warmed.alike hh0
  have c1 : Steps p.tables e below (s₁.setTop (entryFrame m #[.ref x, .int (Int32.ofNat i)] 2)) (s₁.setTop (mkF m 1 #[.val (.ref x), .val (.int (Int32.ofNat i))] [.ref x])) := Steps.trans (entry rfl) (by
    show Steps p.tables e below (s₁.setTop (mkF m 0 #[.val (.ref x), .val (.int (Int32.ofNat i))] [])) _
    refine XS.aloadN X0.here hexec rfl (hb hbytes d0) rfl rfl ?_
    exact Steps.refl _)
  obtain ⟨v2, T2, X2, E2, g2⟩ := X0.callV hexec (IsL.law l x 0 z) hown (wks W (virtW "java/lang/String" 492 "java/lang/String" IsL.yN IsL.yN)) rfl (by decide) (wk W IsL.tab) (W := 0) (Nat.le_of_ble_eq_true rfl) (Nat.le_of_ble_eq_true rfl) (Nat.le_refl _) (Nat.le_refl _) (hx0.1.fc X0.warmed.alike) hx0.1.is (g := (mkF m 1 #[.val (.ref x), .val (.int (Int32.ofNat i))] [.ref x])) rfl (by rw [hml]; rfl) c1 (argsL := []) (rest := []) rfl rfl (by show 2 * 0 + 0 ≤ _; decide) (hb hbytes d1) (⟨rfl, hx0.2.2.1, hx.2.2.2.2.1.cd, s1.there X0.warmed.alike hh0, hz⟩)
  obtain ⟨rfl, q2⟩ := E2
  have hh2 := q2.trans hh0
  have hx2 := hx.mv X2.warmed.alike hh2
  obtain ⟨-, k1, k2⟩ | ⟨k0, -⟩ := hx.2.2.2.2.1
  · have c3 : Steps p.tables e below (s₁.setTop (entryFrame m #[.ref x, .int (Int32.ofNat i)] 2)) (T2.setTop (mkF m 8 #[.val (.ref x), .val (.int (Int32.ofNat i))] [.ref x])) := Steps.trans g2 (by
      refine XS.ifNo X2.here hexec rfl (hb hbytes d4) rfl (i0_eq_f (by decide)) ?_
      refine XS.aloadN X2.here hexec rfl (hb hbytes d7) rfl rfl ?_
      exact Steps.refl _)
    obtain ⟨T4, X4, q4, st4⟩ := X2.hget hexec hown (wk W (.fieldLink "java/lang/String" 9 "java/lang/String" "value" "[B")) hx2.2.1 (g := (mkF m 8 #[.val (.ref x), .val (.int (Int32.ofNat i))] [.ref x])) rfl (rest := []) rfl (hb hbytes d8)
    have hh4 := q4.trans hh2
    have c5 : Steps p.tables e below (s₁.setTop (entryFrame m #[.ref x, .int (Int32.ofNat i)] 2)) (T4.setTop (mkF m 12 #[.val (.ref x), .val (.int (Int32.ofNat i))] [.int (Int32.ofNat i), .ref t])) := (c3.trans (st4 _ (Steps.refl _))).trans (by
      refine XS.iloadN X4.here hexec rfl (hb hbytes d11) rfl ?_
      exact Steps.refl _)
    obtain ⟨v6, T6, X6, E6, g6⟩ := X4.callS hexec (LChA.law l t V i (lo8 (f i)) fm) hown (wks W (staticW "java/lang/String" 495 LChA.yN)) (wk W LChA.tab) (W := 0) (Nat.le_of_ble_eq_true rfl) (Nat.le_of_ble_eq_true rfl) (Nat.le_refl _) (Nat.le_refl _) (g := (mkF m 12 #[.val (.ref x), .val (.int (Int32.ofNat i))] [.int (Int32.ofNat i), .ref t])) rfl (by rw [hml]; rfl) c5 (argsL := [.ref t, .int (Int32.ofNat i)]) (rest := []) rfl rfl (by show 2 * 0 + 0 ≤ _; decide) (hb hbytes d12) (⟨rfl, hx.2.2.2.1.mv X4.warmed.alike hh4, (k2 i hi).1, s3.there X4.warmed.alike hh4, rf⟩)
    obtain ⟨rfl, q6⟩ := E6
    rw [chr8_lo8 hr.1 (k2 i hi).2] at g6
    exact ⟨T6, some (.int (f i)), _, _, _, X6, rfl, rfl, rfl, (fun h => by cases h), ⟨rfl, q6.trans hh4⟩, fun fs hl => Steps.trans g6 (X6.ireturnOut hexec hret (narrow_ch hr.1 hr.2) (Or.inr (Or.inr (Or.inr (Or.inl rfl)))) (hb hbytes d15) hl)⟩
  · exact absurd k0 (by decide)
theorem pays {l : Launch} {R : Room} {p : Program} {e : Env} {below : List Frame} {s : State} {sargs : Array Value} {len W : Nat} (x t : Addr) (V : Cell) (n : Nat) (f : Nat → Int32) (z : Int32) (fm : Value) (i : Nat) (htab : tab.before sargs s = true) (hfr : 4 ≤ R.frames) (hlo : W + 53 ≤ R.locals) :
    Back l R p e below s sargs yN len W (fun A₁ a₁ => A₁.cells + 0 ≤ R.cells ∧ A₁.slots + 0 ≤ R.slots ∧ P x t V n f z fm i a₁ A₁.U) (fun A₁ _ v₁ B₁ => E f i v₁ A₁.U B₁.U ∧ B₁.locs = A₁.locs ++ [] ∧ B₁.cells = A₁.cells + 0 ∧ B₁.slots = A₁.slots + 0) :=
  (law l x t V n f z fm i).pays htab hfr (by omega)
end ChN
end StrChars
namespace StrChars.Road
open Jvm Sem ClassFile Op Lib Jvm.Stand Jvm.Free Jvm.Free.XT
open Jvm.Lib.Cold (StaticIs)
/-- the words of String.charAt(int), the Latin-1 road alone -/
abbrev wordsChN : List Jvm.Cond := [.code ChN.yN ChN.yB 2 (some .char), .initialized ST, .fieldLink ST 9 ST "value" "[B", .fieldLink ST 38 ST "COMPACT_STRINGS" "Z", .fieldLink ST 15 ST "coder" "B", .code IsL.yN IsL.yB 1 (some .boolean), .methodLink ST 492 IsL.yN, .declares IsL.yN, .selects ST IsL.yN IsL.yN, .instanceMethod IsL.yN,
  .methodLink ST 495 LChA.yN, .static LChA.yN, .code LChA.yN LChA.yB 2 (some .char), .initialized "java/lang/StringLatin1", .methodLink "java/lang/StringLatin1" 9 JO.Str_checkIndex.yN, .static JO.Str_checkIndex.yN, .code JO.Str_checkIndex.yN JO.Str_checkIndex.yB 2 none,
  .fieldLink ST 1053 "jdk/internal/util/Preconditions" "SIOOBE_FORMATTER" "Ljava/util/function/BiFunction;", .methodLink ST 1059 JC.PreCheck.yN, .static JC.PreCheck.yN, .code JC.PreCheck.yN JC.PreCheck.yB 3 (some .int), .initialized "jdk/internal/util/Preconditions"]
theorem tabChN_of {a : Array Value} {s : State} (h : ∀ w ∈ wordsChN, w.before a s = true) : ChN.tab.before a s = true := by
  have hp : JC.PreCheck.tab.before a s = true := unparts (wk h (.code JC.PreCheck.yN JC.PreCheck.yB 3 (some .int))) (wks h (.initialized JC.PreCheck.yN.cls :: JC.PreCheck.site))
  have qk := consq hp h
  have hk : JO.Str_checkIndex.tab.before a s = true := unparts (wk qk (.code JO.Str_checkIndex.yN JO.Str_checkIndex.yB 2 none)) (wks qk (.initialized JO.Str_checkIndex.yN.cls :: JO.Str_checkIndex.site))
  have ql := consq hk h
  have hl : LChA.tab.before a s = true := unparts (wk ql (.code LChA.yN LChA.yB 2 (some .char))) (wks ql (.initialized LChA.yN.cls :: LChA.site))
  have hi : IsL.tab.before a s = true := unparts (wk h (.code IsL.yN IsL.yB 1 (some .boolean))) (wks h (.initialized IsL.yN.cls :: IsL.site))
  have q := consq hi (consq hl h)
  exact unparts (wk q (.code ChN.yN ChN.yB 2 (some .char))) (wks q (.initialized ChN.yN.cls :: ChN.site))
theorem movedChN {Z s : State} {a0 args : Array Value} (hZ : Z.Warmed39 s.vm) (hw : ∀ d ∈ wordsChN, d.before a0 Z = true) : ∀ d ∈ wordsChN, d.before args s = true := fun d hd => by
  have t : ∀ d ∈ wordsChN, (d.onTables && d.keepsFace) = true := by decide +kernel
  exact RoadKit.mv hZ (hw d hd) (t d hd)
/-- **charAt(i) OF A LATIN-1 STRING**, i < n: the char -/
theorem chN {p : Program} {l : Launch} {e : Env} {R : Room} {s : State} {args : Array Value} {below : List Frame} {len W : Nat} {Z : State} {a0 : Array Value} {h : Heap} (hZ : Z.Warmed39 s.vm) (hw : ∀ d ∈ wordsChN, d.before a0 Z = true) {kI : Nat} (wi : (Jvm.Cond.instantiable ST kI).before a0 Z = true)
    {x t : Addr} {kb : ClassId} {cs : List Int32} {N2 z : Int32} {vs : List Value} {fm : Value} {i : Nat} {j : Int32} (E : RoadKit.Exa Z h x ST) (V : RoadKit.Fld Z h x ST "value" "[B" (.ref t)) (C : RoadKit.Fld Z h x ST "coder" "B" (.int 0)) (K : RoadKit.Arv Z h t kb .byte N2 vs (.int 0)) (hc : CodA cs 0 N2 vs) (hb : ∀ c ∈ cs, ¬ c < 0 ∧ ¬ (65535 : Int32) < c)
    (S : RoadKit.Sta Z h ST "COMPACT_STRINGS" "Z" (.int z)) (hz : ¬ z = 0) (F : RoadKit.Sta Z h "jdk/internal/util/Preconditions" "SIOOBE_FORMATTER" "Ljava/util/function/BiFunction;" fm) (rf : fm.isRef = true) (l2 : cs.length ≤ 4000) (hi : i < cs.length) (hj : j = Int32.ofNat i) (hfr : 4 ≤ R.frames) (hlo : W + 53 ≤ R.locals) :
    Back l R p e below s args (⟨"java/lang/String", "charAt", "(I)C"⟩ : MethodName) len W (fun P a => a = #[.ref x, .int j] ∧ P.U.heap = h ∧ P.cells + 0 ≤ R.cells ∧ P.slots + 0 ≤ R.slots)
      (fun P _ v B => ∃ L, (v = some (.int (cs.getD i 0)) ∧ L = [] ∧ B.U.heap = h) ∧ B.locs = P.locs ++ L ∧ B.cells = P.cells + 0 ∧ B.slots = P.slots + 0) := by
  subst hj
  intro m meth c P g ig mk a X hg hsize hdg hW hn hp'
  obtain ⟨rfl, rfl, r1, r2⟩ := hp'
  have al : Z.vm.Alike P.U.vm := hZ.alike.trans X.warmed.alike
  obtain ⟨A, hx⟩ := txt_of wi al E V C K hc hb l2
  obtain ⟨v, B, X', ⟨⟨hv, hh⟩, hl, hk, hs⟩, st⟩ := ChN.pays x t A cs.length (fun j => cs.getD j 0) z fm i (tabChN_of (movedChN hZ hw)) hfr hlo m meth c P g ig mk _ X hg hsize hdg hW hn ⟨r1, r2, rfl, hx, hi, sta_is al S, hz, sta_is al F, rf⟩
  exact ⟨v, B, X', ⟨[], ⟨hv, rfl, hh⟩, hl, hk, hs⟩, st⟩
/-- what backV says of its String, as the contracts of this text ask it: cs's low bytes, coder 0 -/
theorem codOf {cs : List Int32} {n : Nat} (hn : cs.length = n) (hb : ∀ c ∈ cs, ¬ 255 < c) : CodA cs 0 (Int32.ofNat n) ((cs.map lo8).map Value.int) := Or.inl ⟨rfl, by rw [hn], by simp [List.map_map, Function.comp_def], hb⟩
end StrChars.Road
end Jvm.Pilot.@@N@@
namespace Jvm.Pilot.@@N@@
open Jvm Jvm.ClassFile Sem Op Lib Jvm.Free Jvm.Stand Jvm.LawKit Jvm.RoadKit Bundle Jvm.Pilot.@@N@@.Jvm.D
theorem dCo_0 : decode jdk_42_method_152_code 0 = .ok (.getstatic 38, 3) := by decide +kernel
theorem dCo_3 : decode jdk_42_method_152_code 3 = .ok (.ifCond .eq 10, 3) := by decide +kernel
theorem dCo_6 : decode jdk_42_method_152_code 6 = .ok (.aload_n 0, 1) := by decide +kernel
theorem dCo_7 : decode jdk_42_method_152_code 7 = .ok (.getfield 15, 3) := by decide +kernel
theorem dCo_10 : decode jdk_42_method_152_code 10 = .ok (.goto 4, 3) := by decide +kernel
theorem dCo_14 : decode jdk_42_method_152_code 14 = .ok (.ireturn, 1) := by decide +kernel
theorem dLe_0 : decode jdk_42_method_54_code 0 = .ok (.aload_n 0, 1) := by decide +kernel
theorem dLe_1 : decode jdk_42_method_54_code 1 = .ok (.getfield 9, 3) := by decide +kernel
theorem dLe_4 : decode jdk_42_method_54_code 4 = .ok (.arraylength, 1) := by decide +kernel
theorem dLe_5 : decode jdk_42_method_54_code 5 = .ok (.aload_n 0, 1) := by decide +kernel
theorem dLe_6 : decode jdk_42_method_54_code 6 = .ok (.invokevirtual 335, 3) := by decide +kernel
theorem dLe_9 : decode jdk_42_method_54_code 9 = .ok (.ishr, 1) := by decide +kernel
theorem dLe_10 : decode jdk_42_method_54_code 10 = .ok (.ireturn, 1) := by decide +kernel
theorem dMi_0 : decode jdk_29_method_69_code 0 = .ok (.iload_n 0, 1) := by decide +kernel
theorem dMi_1 : decode jdk_29_method_69_code 1 = .ok (.iload_n 1, 1) := by decide +kernel
theorem dMi_2 : decode jdk_29_method_69_code 2 = .ok (.if_icmp .gt 7, 3) := by decide +kernel
theorem dMi_5 : decode jdk_29_method_69_code 5 = .ok (.iload_n 0, 1) := by decide +kernel
theorem dMi_6 : decode jdk_29_method_69_code 6 = .ok (.goto 4, 3) := by decide +kernel
theorem dMi_9 : decode jdk_29_method_69_code 9 = .ok (.iload_n 1, 1) := by decide +kernel
theorem dMi_10 : decode jdk_29_method_69_code 10 = .ok (.ireturn, 1) := by decide +kernel
theorem dMx_0 : decode jdk_29_method_65_code 0 = .ok (.iload_n 0, 1) := by decide +kernel
theorem dMx_1 : decode jdk_29_method_65_code 1 = .ok (.iload_n 1, 1) := by decide +kernel
theorem dMx_2 : decode jdk_29_method_65_code 2 = .ok (.if_icmp .lt 7, 3) := by decide +kernel
theorem dMx_5 : decode jdk_29_method_65_code 5 = .ok (.iload_n 0, 1) := by decide +kernel
theorem dMx_6 : decode jdk_29_method_65_code 6 = .ok (.goto 4, 3) := by decide +kernel
theorem dMx_9 : decode jdk_29_method_65_code 9 = .ok (.iload_n 1, 1) := by decide +kernel
theorem dMx_10 : decode jdk_29_method_65_code 10 = .ok (.ireturn, 1) := by decide +kernel
theorem dGb_0 : decode jdk_42_method_147_code 0 = .ok (.aload_n 0, 1) := by decide +kernel
theorem dGb_1 : decode jdk_42_method_147_code 1 = .ok (.invokevirtual 335, 3) := by decide +kernel
theorem dGb_4 : decode jdk_42_method_147_code 4 = .ok (.iload_n 3, 1) := by decide +kernel
theorem dGb_5 : decode jdk_42_method_147_code 5 = .ok (.if_icmp .ne 23, 3) := by decide +kernel
theorem dGb_8 : decode jdk_42_method_147_code 8 = .ok (.aload_n 0, 1) := by decide +kernel
theorem dGb_9 : decode jdk_42_method_147_code 9 = .ok (.getfield 9, 3) := by decide +kernel
theorem dGb_12 : decode jdk_42_method_147_code 12 = .ok (.iconst 0, 1) := by decide +kernel
theorem dGb_13 : decode jdk_42_method_147_code 13 = .ok (.aload_n 1, 1) := by decide +kernel
theorem dGb_14 : decode jdk_42_method_147_code 14 = .ok (.iload_n 2, 1) := by decide +kernel
theorem dGb_15 : decode jdk_42_method_147_code 15 = .ok (.iload_n 3, 1) := by decide +kernel
theorem dGb_16 : decode jdk_42_method_147_code 16 = .ok (.ishl, 1) := by decide +kernel
theorem dGb_17 : decode jdk_42_method_147_code 17 = .ok (.aload_n 0, 1) := by decide +kernel
theorem dGb_18 : decode jdk_42_method_147_code 18 = .ok (.getfield 9, 3) := by decide +kernel
theorem dGb_21 : decode jdk_42_method_147_code 21 = .ok (.arraylength, 1) := by decide +kernel
theorem dGb_22 : decode jdk_42_method_147_code 22 = .ok (.invokestatic 212, 3) := by decide +kernel
theorem dGb_25 : decode jdk_42_method_147_code 25 = .ok (.goto 18, 3) := by decide +kernel
theorem dGb_43 : decode jdk_42_method_147_code 43 = .ok (.return_, 1) := by decide +kernel
theorem dIf_0 : decode jdk_68_method_71_code 0 = .ok (.getstatic 18, 3) := by decide +kernel
theorem dIf_3 : decode jdk_68_method_71_code 3 = .ok (.ifCond .eq 18, 3) := by decide +kernel
theorem dIf_6 : decode jdk_68_method_71_code 6 = .ok (.aload_n 0, 1) := by decide +kernel
theorem dIf_7 : decode jdk_68_method_71_code 7 = .ok (.getfield 22, 3) := by decide +kernel
theorem dIf_10 : decode jdk_68_method_71_code 10 = .ok (.aload_n 1, 1) := by decide +kernel
theorem dIf_11 : decode jdk_68_method_71_code 11 = .ok (.invokevirtual 40, 3) := by decide +kernel
theorem dIf_14 : decode jdk_68_method_71_code 14 = .ok (.if_icmp .eq 7, 3) := by decide +kernel
theorem dIf_21 : decode jdk_68_method_71_code 21 = .ok (.return_, 1) := by decide +kernel
theorem dPs_0 : decode jdk_68_method_73_code 0 = .ok (.aload_n 0, 1) := by decide +kernel
theorem dPs_1 : decode jdk_68_method_73_code 1 = .ok (.aload_n 2, 1) := by decide +kernel
theorem dPs_2 : decode jdk_68_method_73_code 2 = .ok (.invokevirtual 397, 3) := by decide +kernel
theorem dPs_5 : decode jdk_68_method_73_code 5 = .ok (.aload_n 2, 1) := by decide +kernel
theorem dPs_6 : decode jdk_68_method_73_code 6 = .ok (.aload_n 0, 1) := by decide +kernel
theorem dPs_7 : decode jdk_68_method_73_code 7 = .ok (.getfield 15, 3) := by decide +kernel
theorem dPs_10 : decode jdk_68_method_73_code 10 = .ok (.iload_n 1, 1) := by decide +kernel
theorem dPs_11 : decode jdk_68_method_73_code 11 = .ok (.aload_n 0, 1) := by decide +kernel
theorem dPs_12 : decode jdk_68_method_73_code 12 = .ok (.getfield 22, 3) := by decide +kernel
theorem dPs_15 : decode jdk_68_method_73_code 15 = .ok (.invokevirtual 399, 3) := by decide +kernel
theorem dPs_18 : decode jdk_68_method_73_code 18 = .ok (.return_, 1) := by decide +kernel
theorem dNl_0 : decode jdk_48_method_27_code 0 = .ok (.iload_n 0, 1) := by decide +kernel
theorem dNl_1 : decode jdk_48_method_27_code 1 = .ok (.iload_n 1, 1) := by decide +kernel
theorem dNl_2 : decode jdk_48_method_27_code 2 = .ok (.iload_n 2, 1) := by decide +kernel
theorem dNl_3 : decode jdk_48_method_27_code 3 = .ok (.invokestatic 194, 3) := by decide +kernel
theorem dNl_6 : decode jdk_48_method_27_code 6 = .ok (.iadd, 1) := by decide +kernel
theorem dNl_7 : decode jdk_48_method_27_code 7 = .ok (.istore_n 3, 1) := by decide +kernel
theorem dNl_8 : decode jdk_48_method_27_code 8 = .ok (.iconst 0, 1) := by decide +kernel
theorem dNl_9 : decode jdk_48_method_27_code 9 = .ok (.iload_n 3, 1) := by decide +kernel
theorem dNl_10 : decode jdk_48_method_27_code 10 = .ok (.if_icmp .ge 11, 3) := by decide +kernel
theorem dNl_13 : decode jdk_48_method_27_code 13 = .ok (.iload_n 3, 1) := by decide +kernel
theorem dNl_14 : decode jdk_48_method_27_code 14 = .ok (.ldc 200, 2) := by decide +kernel
theorem dNl_16 : decode jdk_48_method_27_code 16 = .ok (.if_icmp .gt 5, 3) := by decide +kernel
theorem dNl_19 : decode jdk_48_method_27_code 19 = .ok (.iload_n 3, 1) := by decide +kernel
theorem dNl_20 : decode jdk_48_method_27_code 20 = .ok (.ireturn, 1) := by decide +kernel
theorem dNc_0 : decode jdk_68_method_10_code 0 = .ok (.aload_n 0, 1) := by decide +kernel
theorem dNc_1 : decode jdk_68_method_10_code 1 = .ok (.getfield 15, 3) := by decide +kernel
theorem dNc_4 : decode jdk_68_method_10_code 4 = .ok (.arraylength, 1) := by decide +kernel
theorem dNc_5 : decode jdk_68_method_10_code 5 = .ok (.istore_n 2, 1) := by decide +kernel
theorem dNc_6 : decode jdk_68_method_10_code 6 = .ok (.iload_n 1, 1) := by decide +kernel
theorem dNc_7 : decode jdk_68_method_10_code 7 = .ok (.aload_n 0, 1) := by decide +kernel
theorem dNc_8 : decode jdk_68_method_10_code 8 = .ok (.getfield 22, 3) := by decide +kernel
theorem dNc_11 : decode jdk_68_method_10_code 11 = .ok (.ishl, 1) := by decide +kernel
theorem dNc_12 : decode jdk_68_method_10_code 12 = .ok (.istore_n 3, 1) := by decide +kernel
theorem dNc_13 : decode jdk_68_method_10_code 13 = .ok (.iload_n 3, 1) := by decide +kernel
theorem dNc_14 : decode jdk_68_method_10_code 14 = .ok (.iload_n 2, 1) := by decide +kernel
theorem dNc_15 : decode jdk_68_method_10_code 15 = .ok (.isub, 1) := by decide +kernel
theorem dNc_16 : decode jdk_68_method_10_code 16 = .ok (.istore 4, 2) := by decide +kernel
theorem dNc_18 : decode jdk_68_method_10_code 18 = .ok (.iload_n 2, 1) := by decide +kernel
theorem dNc_19 : decode jdk_68_method_10_code 19 = .ok (.iload 4, 2) := by decide +kernel
theorem dNc_21 : decode jdk_68_method_10_code 21 = .ok (.iload_n 2, 1) := by decide +kernel
theorem dNc_22 : decode jdk_68_method_10_code 22 = .ok (.iconst 2, 1) := by decide +kernel
theorem dNc_23 : decode jdk_68_method_10_code 23 = .ok (.aload_n 0, 1) := by decide +kernel
theorem dNc_24 : decode jdk_68_method_10_code 24 = .ok (.getfield 22, 3) := by decide +kernel
theorem dNc_27 : decode jdk_68_method_10_code 27 = .ok (.ishl, 1) := by decide +kernel
theorem dNc_28 : decode jdk_68_method_10_code 28 = .ok (.iadd, 1) := by decide +kernel
theorem dNc_29 : decode jdk_68_method_10_code 29 = .ok (.invokestatic 114, 3) := by decide +kernel
theorem dNc_32 : decode jdk_68_method_10_code 32 = .ok (.istore 5, 2) := by decide +kernel
theorem dNc_34 : decode jdk_68_method_10_code 34 = .ok (.iload 5, 2) := by decide +kernel
theorem dNc_36 : decode jdk_68_method_10_code 36 = .ok (.ldc 39, 2) := by decide +kernel
theorem dNc_38 : decode jdk_68_method_10_code 38 = .ok (.if_icmp .ne 13, 3) := by decide +kernel
theorem dNc_51 : decode jdk_68_method_10_code 51 = .ok (.iload 5, 2) := by decide +kernel
theorem dNc_53 : decode jdk_68_method_10_code 53 = .ok (.aload_n 0, 1) := by decide +kernel
theorem dNc_54 : decode jdk_68_method_10_code 54 = .ok (.getfield 22, 3) := by decide +kernel
theorem dNc_57 : decode jdk_68_method_10_code 57 = .ok (.ishr, 1) := by decide +kernel
theorem dNc_58 : decode jdk_68_method_10_code 58 = .ok (.ireturn, 1) := by decide +kernel
theorem dCp_0 : decode jdk_65_method_121_code 0 = .ok (.iload_n 1, 1) := by decide +kernel
theorem dCp_1 : decode jdk_65_method_121_code 1 = .ok (.aload_n 0, 1) := by decide +kernel
theorem dCp_2 : decode jdk_65_method_121_code 2 = .ok (.arraylength, 1) := by decide +kernel
theorem dCp_3 : decode jdk_65_method_121_code 3 = .ok (.if_icmp .ne 11, 3) := by decide +kernel
theorem dCp_14 : decode jdk_65_method_121_code 14 = .ok (.iload_n 1, 1) := by decide +kernel
theorem dCp_15 : decode jdk_65_method_121_code 15 = .ok (.newarray .byte, 2) := by decide +kernel
theorem dCp_17 : decode jdk_65_method_121_code 17 = .ok (.astore_n 2, 1) := by decide +kernel
theorem dCp_18 : decode jdk_65_method_121_code 18 = .ok (.aload_n 0, 1) := by decide +kernel
theorem dCp_19 : decode jdk_65_method_121_code 19 = .ok (.iconst 0, 1) := by decide +kernel
theorem dCp_20 : decode jdk_65_method_121_code 20 = .ok (.aload_n 2, 1) := by decide +kernel
theorem dCp_21 : decode jdk_65_method_121_code 21 = .ok (.iconst 0, 1) := by decide +kernel
theorem dCp_22 : decode jdk_65_method_121_code 22 = .ok (.aload_n 0, 1) := by decide +kernel
theorem dCp_23 : decode jdk_65_method_121_code 23 = .ok (.arraylength, 1) := by decide +kernel
theorem dCp_24 : decode jdk_65_method_121_code 24 = .ok (.iload_n 1, 1) := by decide +kernel
theorem dCp_25 : decode jdk_65_method_121_code 25 = .ok (.invokestatic 304, 3) := by decide +kernel
theorem dCp_28 : decode jdk_65_method_121_code 28 = .ok (.invokestatic 150, 3) := by decide +kernel
theorem dCp_31 : decode jdk_65_method_121_code 31 = .ok (.aload_n 2, 1) := by decide +kernel
theorem dCp_32 : decode jdk_65_method_121_code 32 = .ok (.areturn, 1) := by decide +kernel
theorem dEc_0 : decode jdk_68_method_9_code 0 = .ok (.aload_n 0, 1) := by decide +kernel
theorem dEc_1 : decode jdk_68_method_9_code 1 = .ok (.getfield 15, 3) := by decide +kernel
theorem dEc_4 : decode jdk_68_method_9_code 4 = .ok (.arraylength, 1) := by decide +kernel
theorem dEc_5 : decode jdk_68_method_9_code 5 = .ok (.aload_n 0, 1) := by decide +kernel
theorem dEc_6 : decode jdk_68_method_9_code 6 = .ok (.getfield 22, 3) := by decide +kernel
theorem dEc_9 : decode jdk_68_method_9_code 9 = .ok (.ishr, 1) := by decide +kernel
theorem dEc_10 : decode jdk_68_method_9_code 10 = .ok (.istore_n 2, 1) := by decide +kernel
theorem dEc_11 : decode jdk_68_method_9_code 11 = .ok (.iload_n 1, 1) := by decide +kernel
theorem dEc_12 : decode jdk_68_method_9_code 12 = .ok (.iload_n 2, 1) := by decide +kernel
theorem dEc_13 : decode jdk_68_method_9_code 13 = .ok (.isub, 1) := by decide +kernel
theorem dEc_14 : decode jdk_68_method_9_code 14 = .ok (.ifCond .le 24, 3) := by decide +kernel
theorem dEc_17 : decode jdk_68_method_9_code 17 = .ok (.aload_n 0, 1) := by decide +kernel
theorem dEc_18 : decode jdk_68_method_9_code 18 = .ok (.aload_n 0, 1) := by decide +kernel
theorem dEc_19 : decode jdk_68_method_9_code 19 = .ok (.getfield 15, 3) := by decide +kernel
theorem dEc_22 : decode jdk_68_method_9_code 22 = .ok (.aload_n 0, 1) := by decide +kernel
theorem dEc_23 : decode jdk_68_method_9_code 23 = .ok (.iload_n 1, 1) := by decide +kernel
theorem dEc_24 : decode jdk_68_method_9_code 24 = .ok (.invokevirtual 104, 3) := by decide +kernel
theorem dEc_27 : decode jdk_68_method_9_code 27 = .ok (.aload_n 0, 1) := by decide +kernel
theorem dEc_28 : decode jdk_68_method_9_code 28 = .ok (.getfield 22, 3) := by decide +kernel
theorem dEc_31 : decode jdk_68_method_9_code 31 = .ok (.ishl, 1) := by decide +kernel
theorem dEc_32 : decode jdk_68_method_9_code 32 = .ok (.invokestatic 108, 3) := by decide +kernel
theorem dEc_35 : decode jdk_68_method_9_code 35 = .ok (.putfield 15, 3) := by decide +kernel
theorem dEc_38 : decode jdk_68_method_9_code 38 = .ok (.return_, 1) := by decide +kernel
theorem dAa_0 : decode jdk_68_method_22_code 0 = .ok (.aload_n 1, 1) := by decide +kernel
theorem dAa_1 : decode jdk_68_method_22_code 1 = .ok (.ifnonnull 8, 3) := by decide +kernel
theorem dAa_9 : decode jdk_68_method_22_code 9 = .ok (.aload_n 1, 1) := by decide +kernel
theorem dAa_10 : decode jdk_68_method_22_code 10 = .ok (.invokevirtual 32, 3) := by decide +kernel
theorem dAa_13 : decode jdk_68_method_22_code 13 = .ok (.istore_n 2, 1) := by decide +kernel
theorem dAa_14 : decode jdk_68_method_22_code 14 = .ok (.aload_n 0, 1) := by decide +kernel
theorem dAa_15 : decode jdk_68_method_22_code 15 = .ok (.aload_n 0, 1) := by decide +kernel
theorem dAa_16 : decode jdk_68_method_22_code 16 = .ok (.getfield 79, 3) := by decide +kernel
theorem dAa_19 : decode jdk_68_method_22_code 19 = .ok (.iload_n 2, 1) := by decide +kernel
theorem dAa_20 : decode jdk_68_method_22_code 20 = .ok (.iadd, 1) := by decide +kernel
theorem dAa_21 : decode jdk_68_method_22_code 21 = .ok (.invokevirtual 100, 3) := by decide +kernel
theorem dAa_24 : decode jdk_68_method_22_code 24 = .ok (.aload_n 0, 1) := by decide +kernel
theorem dAa_25 : decode jdk_68_method_22_code 25 = .ok (.aload_n 0, 1) := by decide +kernel
theorem dAa_26 : decode jdk_68_method_22_code 26 = .ok (.getfield 79, 3) := by decide +kernel
theorem dAa_29 : decode jdk_68_method_22_code 29 = .ok (.aload_n 1, 1) := by decide +kernel
theorem dAa_30 : decode jdk_68_method_22_code 30 = .ok (.invokevirtual 208, 3) := by decide +kernel
theorem dAa_33 : decode jdk_68_method_22_code 33 = .ok (.aload_n 0, 1) := by decide +kernel
theorem dAa_34 : decode jdk_68_method_22_code 34 = .ok (.dup, 1) := by decide +kernel
theorem dAa_35 : decode jdk_68_method_22_code 35 = .ok (.getfield 79, 3) := by decide +kernel
theorem dAa_38 : decode jdk_68_method_22_code 38 = .ok (.iload_n 2, 1) := by decide +kernel
theorem dAa_39 : decode jdk_68_method_22_code 39 = .ok (.iadd, 1) := by decide +kernel
theorem dAa_40 : decode jdk_68_method_22_code 40 = .ok (.putfield 79, 3) := by decide +kernel
theorem dAa_43 : decode jdk_68_method_22_code 43 = .ok (.aload_n 0, 1) := by decide +kernel
theorem dAa_44 : decode jdk_68_method_22_code 44 = .ok (.areturn, 1) := by decide +kernel
theorem dSa_0 : decode jdk_67_method_7_code 0 = .ok (.aload_n 0, 1) := by decide +kernel
theorem dSa_1 : decode jdk_67_method_7_code 1 = .ok (.aload_n 1, 1) := by decide +kernel
theorem dSa_2 : decode jdk_67_method_7_code 2 = .ok (.invokespecial 29, 3) := by decide +kernel
theorem dSa_5 : decode jdk_67_method_7_code 5 = .ok (.pop, 1) := by decide +kernel
theorem dSa_6 : decode jdk_67_method_7_code 6 = .ok (.aload_n 0, 1) := by decide +kernel
theorem dSa_7 : decode jdk_67_method_7_code 7 = .ok (.areturn, 1) := by decide +kernel
theorem dAi_0 : decode jdk_68_method_2_code 0 = .ok (.aload_n 0, 1) := by decide +kernel
theorem dAi_1 : decode jdk_68_method_2_code 1 = .ok (.invokespecial 3, 3) := by decide +kernel
theorem dAi_4 : decode jdk_68_method_2_code 4 = .ok (.getstatic 18, 3) := by decide +kernel
theorem dAi_7 : decode jdk_68_method_2_code 7 = .ok (.ifCond .eq 18, 3) := by decide +kernel
theorem dAi_10 : decode jdk_68_method_2_code 10 = .ok (.aload_n 0, 1) := by decide +kernel
theorem dAi_11 : decode jdk_68_method_2_code 11 = .ok (.iload_n 1, 1) := by decide +kernel
theorem dAi_12 : decode jdk_68_method_2_code 12 = .ok (.newarray .byte, 2) := by decide +kernel
theorem dAi_14 : decode jdk_68_method_2_code 14 = .ok (.putfield 15, 3) := by decide +kernel
theorem dAi_17 : decode jdk_68_method_2_code 17 = .ok (.aload_n 0, 1) := by decide +kernel
theorem dAi_18 : decode jdk_68_method_2_code 18 = .ok (.iconst 0, 1) := by decide +kernel
theorem dAi_19 : decode jdk_68_method_2_code 19 = .ok (.putfield 22, 3) := by decide +kernel
theorem dAi_22 : decode jdk_68_method_2_code 22 = .ok (.goto 16, 3) := by decide +kernel
theorem dAi_38 : decode jdk_68_method_2_code 38 = .ok (.return_, 1) := by decide +kernel
theorem dSi_0 : decode jdk_67_method_1_code 0 = .ok (.aload_n 0, 1) := by decide +kernel
theorem dSi_1 : decode jdk_67_method_1_code 1 = .ok (.bipush 16, 2) := by decide +kernel
theorem dSi_3 : decode jdk_67_method_1_code 3 = .ok (.invokespecial 1, 3) := by decide +kernel
theorem dSi_6 : decode jdk_67_method_1_code 6 = .ok (.return_, 1) := by decide +kernel
theorem dGv_0 : decode jdk_68_method_64_code 0 = .ok (.aload_n 0, 1) := by decide +kernel
theorem dGv_1 : decode jdk_68_method_64_code 1 = .ok (.getfield 15, 3) := by decide +kernel
theorem dGv_4 : decode jdk_68_method_64_code 4 = .ok (.areturn, 1) := by decide +kernel
theorem dAl_0 : decode jdk_68_method_6_code 0 = .ok (.aload_n 0, 1) := by decide +kernel
theorem dAl_1 : decode jdk_68_method_6_code 1 = .ok (.getfield 79, 3) := by decide +kernel
theorem dAl_4 : decode jdk_68_method_6_code 4 = .ok (.ireturn, 1) := by decide +kernel
theorem dSl_0 : decode jdk_67_method_93_code 0 = .ok (.aload_n 0, 1) := by decide +kernel
theorem dSl_1 : decode jdk_67_method_93_code 1 = .ok (.invokespecial 343, 3) := by decide +kernel
theorem dSl_4 : decode jdk_67_method_93_code 4 = .ok (.ireturn, 1) := by decide +kernel
theorem dIl_0 : decode jdk_68_method_68_code 0 = .ok (.getstatic 18, 3) := by decide +kernel
theorem dIl_3 : decode jdk_68_method_68_code 3 = .ok (.ifCond .eq 14, 3) := by decide +kernel
theorem dIl_6 : decode jdk_68_method_68_code 6 = .ok (.aload_n 0, 1) := by decide +kernel
theorem dIl_7 : decode jdk_68_method_68_code 7 = .ok (.getfield 22, 3) := by decide +kernel
theorem dIl_10 : decode jdk_68_method_68_code 10 = .ok (.ifCond .ne 7, 3) := by decide +kernel
theorem dIl_13 : decode jdk_68_method_68_code 13 = .ok (.iconst 1, 1) := by decide +kernel
theorem dIl_14 : decode jdk_68_method_68_code 14 = .ok (.goto 4, 3) := by decide +kernel
theorem dIl_18 : decode jdk_68_method_68_code 18 = .ok (.ireturn, 1) := by decide +kernel
theorem dCl_0 : decode jdk_65_method_131_code 0 = .ok (.iload_n 1, 1) := by decide +kernel
theorem dCl_1 : decode jdk_65_method_131_code 1 = .ok (.iload_n 0, 1) := by decide +kernel
theorem dCl_2 : decode jdk_65_method_131_code 2 = .ok (.if_icmp .ge 35, 3) := by decide +kernel
theorem dCl_37 : decode jdk_65_method_131_code 37 = .ok (.return_, 1) := by decide +kernel
theorem dCb_0 : decode jdk_65_method_133_code 0 = .ok (.iload_n 1, 1) := by decide +kernel
theorem dCb_1 : decode jdk_65_method_133_code 1 = .ok (.iload_n 2, 1) := by decide +kernel
theorem dCb_2 : decode jdk_65_method_133_code 2 = .ok (.invokestatic 343, 3) := by decide +kernel
theorem dCb_5 : decode jdk_65_method_133_code 5 = .ok (.iload_n 2, 1) := by decide +kernel
theorem dCb_6 : decode jdk_65_method_133_code 6 = .ok (.iload_n 1, 1) := by decide +kernel
theorem dCb_7 : decode jdk_65_method_133_code 7 = .ok (.isub, 1) := by decide +kernel
theorem dCb_8 : decode jdk_65_method_133_code 8 = .ok (.istore_n 3, 1) := by decide +kernel
theorem dCb_9 : decode jdk_65_method_133_code 9 = .ok (.iload_n 3, 1) := by decide +kernel
theorem dCb_10 : decode jdk_65_method_133_code 10 = .ok (.newarray .byte, 2) := by decide +kernel
theorem dCb_12 : decode jdk_65_method_133_code 12 = .ok (.astore 4, 2) := by decide +kernel
theorem dCb_14 : decode jdk_65_method_133_code 14 = .ok (.aload_n 0, 1) := by decide +kernel
theorem dCb_15 : decode jdk_65_method_133_code 15 = .ok (.iload_n 1, 1) := by decide +kernel
theorem dCb_16 : decode jdk_65_method_133_code 16 = .ok (.aload 4, 2) := by decide +kernel
theorem dCb_18 : decode jdk_65_method_133_code 18 = .ok (.iconst 0, 1) := by decide +kernel
theorem dCb_19 : decode jdk_65_method_133_code 19 = .ok (.aload_n 0, 1) := by decide +kernel
theorem dCb_20 : decode jdk_65_method_133_code 20 = .ok (.arraylength, 1) := by decide +kernel
theorem dCb_21 : decode jdk_65_method_133_code 21 = .ok (.iload_n 1, 1) := by decide +kernel
theorem dCb_22 : decode jdk_65_method_133_code 22 = .ok (.isub, 1) := by decide +kernel
theorem dCb_23 : decode jdk_65_method_133_code 23 = .ok (.iload_n 3, 1) := by decide +kernel
theorem dCb_24 : decode jdk_65_method_133_code 24 = .ok (.invokestatic 304, 3) := by decide +kernel
theorem dCb_27 : decode jdk_65_method_133_code 27 = .ok (.invokestatic 150, 3) := by decide +kernel
theorem dCb_30 : decode jdk_65_method_133_code 30 = .ok (.aload 4, 2) := by decide +kernel
theorem dCb_32 : decode jdk_65_method_133_code 32 = .ok (.areturn, 1) := by decide +kernel
theorem dCr_0 : decode jdk_65_method_132_code 0 = .ok (.iload_n 1, 1) := by decide +kernel
theorem dCr_1 : decode jdk_65_method_132_code 1 = .ok (.ifCond .ne 9, 3) := by decide +kernel
theorem dCr_4 : decode jdk_65_method_132_code 4 = .ok (.iload_n 2, 1) := by decide +kernel
theorem dCr_5 : decode jdk_65_method_132_code 5 = .ok (.aload_n 0, 1) := by decide +kernel
theorem dCr_6 : decode jdk_65_method_132_code 6 = .ok (.arraylength, 1) := by decide +kernel
theorem dCr_7 : decode jdk_65_method_132_code 7 = .ok (.if_icmp .eq 10, 3) := by decide +kernel
theorem dCr_10 : decode jdk_65_method_132_code 10 = .ok (.aload_n 0, 1) := by decide +kernel
theorem dCr_11 : decode jdk_65_method_132_code 11 = .ok (.iload_n 1, 1) := by decide +kernel
theorem dCr_12 : decode jdk_65_method_132_code 12 = .ok (.iload_n 2, 1) := by decide +kernel
theorem dCr_13 : decode jdk_65_method_132_code 13 = .ok (.invokestatic 339, 3) := by decide +kernel
theorem dCr_16 : decode jdk_65_method_132_code 16 = .ok (.areturn, 1) := by decide +kernel
theorem dCr_17 : decode jdk_65_method_132_code 17 = .ok (.aload_n 0, 1) := by decide +kernel
theorem dCr_18 : decode jdk_65_method_132_code 18 = .ok (.invokevirtual 310, 3) := by decide +kernel
theorem dCr_21 : decode jdk_65_method_132_code 21 = .ok (.checkcast 311, 3) := by decide +kernel
theorem dCr_24 : decode jdk_65_method_132_code 24 = .ok (.areturn, 1) := by decide +kernel
theorem dSb_0 : decode jdk_42_method_150_code 0 = .ok (.aload_n 0, 1) := by decide +kernel
theorem dSb_1 : decode jdk_42_method_150_code 1 = .ok (.invokespecial 1, 3) := by decide +kernel
theorem dSb_4 : decode jdk_42_method_150_code 4 = .ok (.aload_n 1, 1) := by decide +kernel
theorem dSb_5 : decode jdk_42_method_150_code 5 = .ok (.invokevirtual 552, 3) := by decide +kernel
theorem dSb_8 : decode jdk_42_method_150_code 8 = .ok (.astore_n 3, 1) := by decide +kernel
theorem dSb_9 : decode jdk_42_method_150_code 9 = .ok (.aload_n 1, 1) := by decide +kernel
theorem dSb_10 : decode jdk_42_method_150_code 10 = .ok (.invokevirtual 549, 3) := by decide +kernel
theorem dSb_13 : decode jdk_42_method_150_code 13 = .ok (.istore 4, 2) := by decide +kernel
theorem dSb_15 : decode jdk_42_method_150_code 15 = .ok (.aload_n 1, 1) := by decide +kernel
theorem dSb_16 : decode jdk_42_method_150_code 16 = .ok (.invokevirtual 1047, 3) := by decide +kernel
theorem dSb_19 : decode jdk_42_method_150_code 19 = .ok (.ifCond .eq 22, 3) := by decide +kernel
theorem dSb_22 : decode jdk_42_method_150_code 22 = .ok (.aload_n 0, 1) := by decide +kernel
theorem dSb_23 : decode jdk_42_method_150_code 23 = .ok (.iconst 0, 1) := by decide +kernel
theorem dSb_24 : decode jdk_42_method_150_code 24 = .ok (.putfield 15, 3) := by decide +kernel
theorem dSb_27 : decode jdk_42_method_150_code 27 = .ok (.aload_n 0, 1) := by decide +kernel
theorem dSb_28 : decode jdk_42_method_150_code 28 = .ok (.aload_n 3, 1) := by decide +kernel
theorem dSb_29 : decode jdk_42_method_150_code 29 = .ok (.iconst 0, 1) := by decide +kernel
theorem dSb_30 : decode jdk_42_method_150_code 30 = .ok (.iload 4, 2) := by decide +kernel
theorem dSb_32 : decode jdk_42_method_150_code 32 = .ok (.invokestatic 54, 3) := by decide +kernel
theorem dSb_35 : decode jdk_42_method_150_code 35 = .ok (.putfield 9, 3) := by decide +kernel
theorem dSb_38 : decode jdk_42_method_150_code 38 = .ok (.goto 59, 3) := by decide +kernel
theorem dSb_97 : decode jdk_42_method_150_code 97 = .ok (.return_, 1) := by decide +kernel
theorem dSc_0 : decode jdk_42_method_53_code 0 = .ok (.aload_n 0, 1) := by decide +kernel
theorem dSc_1 : decode jdk_42_method_53_code 1 = .ok (.aload_n 1, 1) := by decide +kernel
theorem dSc_2 : decode jdk_42_method_53_code 2 = .ok (.aconst_null, 1) := by decide +kernel
theorem dSc_3 : decode jdk_42_method_53_code 3 = .ok (.invokespecial 489, 3) := by decide +kernel
theorem dSc_6 : decode jdk_42_method_53_code 6 = .ok (.return_, 1) := by decide +kernel
theorem dTs_0 : decode jdk_67_method_42_code 0 = .ok (.new 18, 3) := by decide +kernel
theorem dTs_3 : decode jdk_67_method_42_code 3 = .ok (.dup, 1) := by decide +kernel
theorem dTs_4 : decode jdk_67_method_42_code 4 = .ok (.aload_n 0, 1) := by decide +kernel
theorem dTs_5 : decode jdk_67_method_42_code 5 = .ok (.invokespecial 137, 3) := by decide +kernel
theorem dTs_8 : decode jdk_67_method_42_code 8 = .ok (.areturn, 1) := by decide +kernel
theorem d149_0 : decode jdk_42_method_149_code 0 = .ok (.aload_n 0, 1) := by decide +kernel
theorem d149_1 : decode jdk_42_method_149_code 1 = .ok (.invokespecial 1, 3) := by decide +kernel
theorem d149_4 : decode jdk_42_method_149_code 4 = .ok (.iload_n 3, 1) := by decide +kernel
theorem d149_5 : decode jdk_42_method_149_code 5 = .ok (.ifCond .ne 22, 3) := by decide +kernel
theorem d149_8 : decode jdk_42_method_149_code 8 = .ok (.aload_n 0, 1) := by decide +kernel
theorem d149_9 : decode jdk_42_method_149_code 9 = .ok (.ldc 7, 2) := by decide +kernel
theorem d149_11 : decode jdk_42_method_149_code 11 = .ok (.getfield 9, 3) := by decide +kernel
theorem d149_14 : decode jdk_42_method_149_code 14 = .ok (.putfield 9, 3) := by decide +kernel
theorem d149_17 : decode jdk_42_method_149_code 17 = .ok (.aload_n 0, 1) := by decide +kernel
theorem d149_18 : decode jdk_42_method_149_code 18 = .ok (.ldc 7, 2) := by decide +kernel
theorem d149_20 : decode jdk_42_method_149_code 20 = .ok (.getfield 15, 3) := by decide +kernel
theorem d149_23 : decode jdk_42_method_149_code 23 = .ok (.putfield 15, 3) := by decide +kernel
theorem d149_26 : decode jdk_42_method_149_code 26 = .ok (.return_, 1) := by decide +kernel
theorem d3_0 : decode jdk_42_method_3_code 0 = .ok (.aload_n 0, 1) := by decide +kernel
theorem d3_1 : decode jdk_42_method_3_code 1 = .ok (.aload_n 1, 1) := by decide +kernel
theorem d3_2 : decode jdk_42_method_3_code 2 = .ok (.iconst 0, 1) := by decide +kernel
theorem d3_3 : decode jdk_42_method_3_code 3 = .ok (.aload_n 1, 1) := by decide +kernel
theorem d3_4 : decode jdk_42_method_3_code 4 = .ok (.arraylength, 1) := by decide +kernel
theorem d3_5 : decode jdk_42_method_3_code 5 = .ok (.aconst_null, 1) := by decide +kernel
theorem d3_6 : decode jdk_42_method_3_code 6 = .ok (.invokespecial 27, 3) := by decide +kernel
theorem d3_9 : decode jdk_42_method_3_code 9 = .ok (.return_, 1) := by decide +kernel
theorem dM_0 : decode method_3_code 0 = .ok (.iload_n 1, 1) := by decide +kernel
theorem dM_1 : decode method_3_code 1 = .ok (.sipush 255, 3) := by decide +kernel
theorem dM_4 : decode method_3_code 4 = .ok (.iand, 1) := by decide +kernel
theorem dM_5 : decode method_3_code 5 = .ok (.i2c, 1) := by decide +kernel
theorem dM_6 : decode method_3_code 6 = .ok (.istore_n 2, 1) := by decide +kernel
theorem dM_7 : decode method_3_code 7 = .ok (.iload_n 1, 1) := by decide +kernel
theorem dM_8 : decode method_3_code 8 = .ok (.bipush 8, 2) := by decide +kernel
theorem dM_10 : decode method_3_code 10 = .ok (.iushr, 1) := by decide +kernel
theorem dM_11 : decode method_3_code 11 = .ok (.sipush 255, 3) := by decide +kernel
theorem dM_14 : decode method_3_code 14 = .ok (.iand, 1) := by decide +kernel
theorem dM_15 : decode method_3_code 15 = .ok (.i2c, 1) := by decide +kernel
theorem dM_16 : decode method_3_code 16 = .ok (.istore_n 3, 1) := by decide +kernel
theorem dM_17 : decode method_3_code 17 = .ok (.iload_n 1, 1) := by decide +kernel
theorem dM_18 : decode method_3_code 18 = .ok (.bipush 16, 2) := by decide +kernel
theorem dM_20 : decode method_3_code 20 = .ok (.iushr, 1) := by decide +kernel
theorem dM_21 : decode method_3_code 21 = .ok (.sipush 255, 3) := by decide +kernel
theorem dM_24 : decode method_3_code 24 = .ok (.iand, 1) := by decide +kernel
theorem dM_25 : decode method_3_code 25 = .ok (.i2c, 1) := by decide +kernel
theorem dM_26 : decode method_3_code 26 = .ok (.istore 4, 2) := by decide +kernel
theorem dM_28 : decode method_3_code 28 = .ok (.iload_n 0, 1) := by decide +kernel
theorem dM_29 : decode method_3_code 29 = .ok (.ifCond .ne 14, 3) := by decide +kernel
theorem dM_32 : decode method_3_code 32 = .ok (.new 23, 3) := by decide +kernel
theorem dM_35 : decode method_3_code 35 = .ok (.dup, 1) := by decide +kernel
theorem dM_36 : decode method_3_code 36 = .ok (.iconst 0, 1) := by decide +kernel
theorem dM_37 : decode method_3_code 37 = .ok (.newarray .char, 2) := by decide +kernel
theorem dM_39 : decode method_3_code 39 = .ok (.invokespecial 38, 3) := by decide +kernel
theorem dM_42 : decode method_3_code 42 = .ok (.areturn, 1) := by decide +kernel
theorem dM_43 : decode method_3_code 43 = .ok (.iload_n 0, 1) := by decide +kernel
theorem dM_44 : decode method_3_code 44 = .ok (.iconst 1, 1) := by decide +kernel
theorem dM_45 : decode method_3_code 45 = .ok (.if_icmp .ne 18, 3) := by decide +kernel
theorem dM_48 : decode method_3_code 48 = .ok (.new 23, 3) := by decide +kernel
theorem dM_51 : decode method_3_code 51 = .ok (.dup, 1) := by decide +kernel
theorem dM_52 : decode method_3_code 52 = .ok (.iconst 1, 1) := by decide +kernel
theorem dM_53 : decode method_3_code 53 = .ok (.newarray .char, 2) := by decide +kernel
theorem dM_55 : decode method_3_code 55 = .ok (.dup, 1) := by decide +kernel
theorem dM_56 : decode method_3_code 56 = .ok (.iconst 0, 1) := by decide +kernel
theorem dM_57 : decode method_3_code 57 = .ok (.iload_n 2, 1) := by decide +kernel
theorem dM_58 : decode method_3_code 58 = .ok (.castore, 1) := by decide +kernel
theorem dM_59 : decode method_3_code 59 = .ok (.invokespecial 38, 3) := by decide +kernel
theorem dM_62 : decode method_3_code 62 = .ok (.areturn, 1) := by decide +kernel
theorem dM_63 : decode method_3_code 63 = .ok (.iload_n 0, 1) := by decide +kernel
theorem dM_64 : decode method_3_code 64 = .ok (.iconst 2, 1) := by decide +kernel
theorem dM_65 : decode method_3_code 65 = .ok (.if_icmp .ne 22, 3) := by decide +kernel
theorem dM_68 : decode method_3_code 68 = .ok (.new 23, 3) := by decide +kernel
theorem dM_71 : decode method_3_code 71 = .ok (.dup, 1) := by decide +kernel
theorem dM_72 : decode method_3_code 72 = .ok (.iconst 2, 1) := by decide +kernel
theorem dM_73 : decode method_3_code 73 = .ok (.newarray .char, 2) := by decide +kernel
theorem dM_75 : decode method_3_code 75 = .ok (.dup, 1) := by decide +kernel
theorem dM_76 : decode method_3_code 76 = .ok (.iconst 0, 1) := by decide +kernel
theorem dM_77 : decode method_3_code 77 = .ok (.iload_n 2, 1) := by decide +kernel
theorem dM_78 : decode method_3_code 78 = .ok (.castore, 1) := by decide +kernel
theorem dM_79 : decode method_3_code 79 = .ok (.dup, 1) := by decide +kernel
theorem dM_80 : decode method_3_code 80 = .ok (.iconst 1, 1) := by decide +kernel
theorem dM_81 : decode method_3_code 81 = .ok (.iload_n 3, 1) := by decide +kernel
theorem dM_82 : decode method_3_code 82 = .ok (.castore, 1) := by decide +kernel
theorem dM_83 : decode method_3_code 83 = .ok (.invokespecial 38, 3) := by decide +kernel
theorem dM_86 : decode method_3_code 86 = .ok (.areturn, 1) := by decide +kernel
theorem dM_87 : decode method_3_code 87 = .ok (.new 23, 3) := by decide +kernel
theorem dM_90 : decode method_3_code 90 = .ok (.dup, 1) := by decide +kernel
theorem dM_91 : decode method_3_code 91 = .ok (.iconst 3, 1) := by decide +kernel
theorem dM_92 : decode method_3_code 92 = .ok (.newarray .char, 2) := by decide +kernel
theorem dM_94 : decode method_3_code 94 = .ok (.dup, 1) := by decide +kernel
theorem dM_95 : decode method_3_code 95 = .ok (.iconst 0, 1) := by decide +kernel
theorem dM_96 : decode method_3_code 96 = .ok (.iload_n 2, 1) := by decide +kernel
theorem dM_97 : decode method_3_code 97 = .ok (.castore, 1) := by decide +kernel
theorem dM_98 : decode method_3_code 98 = .ok (.dup, 1) := by decide +kernel
theorem dM_99 : decode method_3_code 99 = .ok (.iconst 1, 1) := by decide +kernel
theorem dM_100 : decode method_3_code 100 = .ok (.iload_n 3, 1) := by decide +kernel
theorem dM_101 : decode method_3_code 101 = .ok (.castore, 1) := by decide +kernel
theorem dM_102 : decode method_3_code 102 = .ok (.dup, 1) := by decide +kernel
theorem dM_103 : decode method_3_code 103 = .ok (.iconst 2, 1) := by decide +kernel
theorem dM_104 : decode method_3_code 104 = .ok (.iload 4, 2) := by decide +kernel
theorem dM_106 : decode method_3_code 106 = .ok (.castore, 1) := by decide +kernel
theorem dM_107 : decode method_3_code 107 = .ok (.invokespecial 38, 3) := by decide +kernel
theorem dM_110 : decode method_3_code 110 = .ok (.areturn, 1) := by decide +kernel
theorem dRi_0 : decode jdk_30_method_1_code 0 = .ok (.aload_n 0, 1) := by decide +kernel
theorem dRi_1 : decode jdk_30_method_1_code 1 = .ok (.invokespecial 1, 3) := by decide +kernel
theorem dRi_4 : decode jdk_30_method_1_code 4 = .ok (.return_, 1) := by decide +kernel
theorem dSt_0 : decode prog_31_method_1_code 0 = .ok (.aload_n 0, 1) := by decide +kernel
theorem dSt_1 : decode prog_31_method_1_code 1 = .ok (.invokespecial 1, 3) := by decide +kernel
theorem dSt_4 : decode prog_31_method_1_code 4 = .ok (.aload_n 0, 1) := by decide +kernel
theorem dSt_5 : decode prog_31_method_1_code 5 = .ok (.aload_n 1, 1) := by decide +kernel
theorem dSt_6 : decode prog_31_method_1_code 6 = .ok (.putfield 7, 3) := by decide +kernel
theorem dSt_9 : decode prog_31_method_1_code 9 = .ok (.aload_n 0, 1) := by decide +kernel
theorem dSt_10 : decode prog_31_method_1_code 10 = .ok (.aload_n 2, 1) := by decide +kernel
theorem dSt_11 : decode prog_31_method_1_code 11 = .ok (.putfield 13, 3) := by decide +kernel
theorem dSt_14 : decode prog_31_method_1_code 14 = .ok (.return_, 1) := by decide +kernel
theorem dDe_0 : decode prog_31_method_2_code 0 = .ok (.new 16, 3) := by decide +kernel
theorem dDe_3 : decode prog_31_method_2_code 3 = .ok (.dup, 1) := by decide +kernel
theorem dDe_4 : decode prog_31_method_2_code 4 = .ok (.invokespecial 18, 3) := by decide +kernel
theorem dDe_7 : decode prog_31_method_2_code 7 = .ok (.ldc 19, 2) := by decide +kernel
theorem dDe_9 : decode prog_31_method_2_code 9 = .ok (.invokevirtual 21, 3) := by decide +kernel
theorem dDe_12 : decode prog_31_method_2_code 12 = .ok (.aload_n 0, 1) := by decide +kernel
theorem dDe_13 : decode prog_31_method_2_code 13 = .ok (.getfield 7, 3) := by decide +kernel
theorem dDe_16 : decode prog_31_method_2_code 16 = .ok (.invokevirtual 21, 3) := by decide +kernel
theorem dDe_19 : decode prog_31_method_2_code 19 = .ok (.ldc 25, 2) := by decide +kernel
theorem dDe_21 : decode prog_31_method_2_code 21 = .ok (.invokevirtual 21, 3) := by decide +kernel
theorem dDe_24 : decode prog_31_method_2_code 24 = .ok (.aload_n 0, 1) := by decide +kernel
theorem dDe_25 : decode prog_31_method_2_code 25 = .ok (.getfield 13, 3) := by decide +kernel
theorem dDe_28 : decode prog_31_method_2_code 28 = .ok (.invokevirtual 21, 3) := by decide +kernel
theorem dDe_31 : decode prog_31_method_2_code 31 = .ok (.invokevirtual 27, 3) := by decide +kernel
theorem dDe_34 : decode prog_31_method_2_code 34 = .ok (.areturn, 1) := by decide +kernel
theorem dSm_0 : decode method_4_code 0 = .ok (.aload_n 2, 1) := by decide +kernel
theorem dSm_1 : decode method_4_code 1 = .ok (.invokevirtual 22, 3) := by decide +kernel
theorem dSm_4 : decode method_4_code 4 = .ok (.istore_n 3, 1) := by decide +kernel
theorem dSm_5 : decode method_4_code 5 = .ok (.iload_n 3, 1) := by decide +kernel
theorem dSm_6 : decode method_4_code 6 = .ok (.iconst 1, 1) := by decide +kernel
theorem dSm_7 : decode method_4_code 7 = .ok (.if_icmp .lt 16, 3) := by decide +kernel
theorem dSm_10 : decode method_4_code 10 = .ok (.aload_n 0, 1) := by decide +kernel
theorem dSm_11 : decode method_4_code 11 = .ok (.iload_n 1, 1) := by decide +kernel
theorem dSm_12 : decode method_4_code 12 = .ok (.invokevirtual 28, 3) := by decide +kernel
theorem dSm_15 : decode method_4_code 15 = .ok (.aload_n 2, 1) := by decide +kernel
theorem dSm_16 : decode method_4_code 16 = .ok (.iconst 0, 1) := by decide +kernel
theorem dSm_17 : decode method_4_code 17 = .ok (.invokevirtual 28, 3) := by decide +kernel
theorem dSm_20 : decode method_4_code 20 = .ok (.if_icmp .ne 246, 3) := by decide +kernel
theorem dSm_23 : decode method_4_code 23 = .ok (.iload_n 3, 1) := by decide +kernel
theorem dSm_24 : decode method_4_code 24 = .ok (.iconst 2, 1) := by decide +kernel
theorem dSm_25 : decode method_4_code 25 = .ok (.if_icmp .lt 18, 3) := by decide +kernel
theorem dSm_28 : decode method_4_code 28 = .ok (.aload_n 0, 1) := by decide +kernel
theorem dSm_29 : decode method_4_code 29 = .ok (.iload_n 1, 1) := by decide +kernel
theorem dSm_30 : decode method_4_code 30 = .ok (.iconst 1, 1) := by decide +kernel
theorem dSm_31 : decode method_4_code 31 = .ok (.iadd, 1) := by decide +kernel
theorem dSm_32 : decode method_4_code 32 = .ok (.invokevirtual 28, 3) := by decide +kernel
theorem dSm_35 : decode method_4_code 35 = .ok (.aload_n 2, 1) := by decide +kernel
theorem dSm_36 : decode method_4_code 36 = .ok (.iconst 1, 1) := by decide +kernel
theorem dSm_37 : decode method_4_code 37 = .ok (.invokevirtual 28, 3) := by decide +kernel
theorem dSm_40 : decode method_4_code 40 = .ok (.if_icmp .ne 226, 3) := by decide +kernel
theorem dSm_43 : decode method_4_code 43 = .ok (.iload_n 3, 1) := by decide +kernel
theorem dSm_44 : decode method_4_code 44 = .ok (.iconst 3, 1) := by decide +kernel
theorem dSm_45 : decode method_4_code 45 = .ok (.if_icmp .lt 18, 3) := by decide +kernel
theorem dSm_48 : decode method_4_code 48 = .ok (.aload_n 0, 1) := by decide +kernel
theorem dSm_49 : decode method_4_code 49 = .ok (.iload_n 1, 1) := by decide +kernel
theorem dSm_50 : decode method_4_code 50 = .ok (.iconst 2, 1) := by decide +kernel
theorem dSm_51 : decode method_4_code 51 = .ok (.iadd, 1) := by decide +kernel
theorem dSm_52 : decode method_4_code 52 = .ok (.invokevirtual 28, 3) := by decide +kernel
theorem dSm_55 : decode method_4_code 55 = .ok (.aload_n 2, 1) := by decide +kernel
theorem dSm_56 : decode method_4_code 56 = .ok (.iconst 2, 1) := by decide +kernel
theorem dSm_57 : decode method_4_code 57 = .ok (.invokevirtual 28, 3) := by decide +kernel
theorem dSm_60 : decode method_4_code 60 = .ok (.if_icmp .ne 206, 3) := by decide +kernel
theorem dSm_63 : decode method_4_code 63 = .ok (.iload_n 3, 1) := by decide +kernel
theorem dSm_64 : decode method_4_code 64 = .ok (.iconst 4, 1) := by decide +kernel
theorem dSm_65 : decode method_4_code 65 = .ok (.if_icmp .lt 18, 3) := by decide +kernel
theorem dSm_68 : decode method_4_code 68 = .ok (.aload_n 0, 1) := by decide +kernel
theorem dSm_69 : decode method_4_code 69 = .ok (.iload_n 1, 1) := by decide +kernel
theorem dSm_70 : decode method_4_code 70 = .ok (.iconst 3, 1) := by decide +kernel
theorem dSm_71 : decode method_4_code 71 = .ok (.iadd, 1) := by decide +kernel
theorem dSm_72 : decode method_4_code 72 = .ok (.invokevirtual 28, 3) := by decide +kernel
theorem dSm_75 : decode method_4_code 75 = .ok (.aload_n 2, 1) := by decide +kernel
theorem dSm_76 : decode method_4_code 76 = .ok (.iconst 3, 1) := by decide +kernel
theorem dSm_77 : decode method_4_code 77 = .ok (.invokevirtual 28, 3) := by decide +kernel
theorem dSm_80 : decode method_4_code 80 = .ok (.if_icmp .ne 186, 3) := by decide +kernel
theorem dSm_83 : decode method_4_code 83 = .ok (.iload_n 3, 1) := by decide +kernel
theorem dSm_84 : decode method_4_code 84 = .ok (.iconst 5, 1) := by decide +kernel
theorem dSm_85 : decode method_4_code 85 = .ok (.if_icmp .lt 18, 3) := by decide +kernel
theorem dSm_88 : decode method_4_code 88 = .ok (.aload_n 0, 1) := by decide +kernel
theorem dSm_89 : decode method_4_code 89 = .ok (.iload_n 1, 1) := by decide +kernel
theorem dSm_90 : decode method_4_code 90 = .ok (.iconst 4, 1) := by decide +kernel
theorem dSm_91 : decode method_4_code 91 = .ok (.iadd, 1) := by decide +kernel
theorem dSm_92 : decode method_4_code 92 = .ok (.invokevirtual 28, 3) := by decide +kernel
theorem dSm_95 : decode method_4_code 95 = .ok (.aload_n 2, 1) := by decide +kernel
theorem dSm_96 : decode method_4_code 96 = .ok (.iconst 4, 1) := by decide +kernel
theorem dSm_97 : decode method_4_code 97 = .ok (.invokevirtual 28, 3) := by decide +kernel
theorem dSm_100 : decode method_4_code 100 = .ok (.if_icmp .ne 166, 3) := by decide +kernel
theorem dSm_103 : decode method_4_code 103 = .ok (.iload_n 3, 1) := by decide +kernel
theorem dSm_104 : decode method_4_code 104 = .ok (.bipush 6, 2) := by decide +kernel
theorem dSm_106 : decode method_4_code 106 = .ok (.if_icmp .lt 18, 3) := by decide +kernel
theorem dSm_109 : decode method_4_code 109 = .ok (.aload_n 0, 1) := by decide +kernel
theorem dSm_110 : decode method_4_code 110 = .ok (.iload_n 1, 1) := by decide +kernel
theorem dSm_111 : decode method_4_code 111 = .ok (.iconst 5, 1) := by decide +kernel
theorem dSm_112 : decode method_4_code 112 = .ok (.iadd, 1) := by decide +kernel
theorem dSm_113 : decode method_4_code 113 = .ok (.invokevirtual 28, 3) := by decide +kernel
theorem dSm_116 : decode method_4_code 116 = .ok (.aload_n 2, 1) := by decide +kernel
theorem dSm_117 : decode method_4_code 117 = .ok (.iconst 5, 1) := by decide +kernel
theorem dSm_118 : decode method_4_code 118 = .ok (.invokevirtual 28, 3) := by decide +kernel
theorem dSm_121 : decode method_4_code 121 = .ok (.if_icmp .ne 145, 3) := by decide +kernel
theorem dSm_124 : decode method_4_code 124 = .ok (.iload_n 3, 1) := by decide +kernel
theorem dSm_125 : decode method_4_code 125 = .ok (.bipush 7, 2) := by decide +kernel
theorem dSm_127 : decode method_4_code 127 = .ok (.if_icmp .lt 20, 3) := by decide +kernel
theorem dSm_130 : decode method_4_code 130 = .ok (.aload_n 0, 1) := by decide +kernel
theorem dSm_131 : decode method_4_code 131 = .ok (.iload_n 1, 1) := by decide +kernel
theorem dSm_132 : decode method_4_code 132 = .ok (.bipush 6, 2) := by decide +kernel
theorem dSm_134 : decode method_4_code 134 = .ok (.iadd, 1) := by decide +kernel
theorem dSm_135 : decode method_4_code 135 = .ok (.invokevirtual 28, 3) := by decide +kernel
theorem dSm_138 : decode method_4_code 138 = .ok (.aload_n 2, 1) := by decide +kernel
theorem dSm_139 : decode method_4_code 139 = .ok (.bipush 6, 2) := by decide +kernel
theorem dSm_141 : decode method_4_code 141 = .ok (.invokevirtual 28, 3) := by decide +kernel
theorem dSm_144 : decode method_4_code 144 = .ok (.if_icmp .ne 122, 3) := by decide +kernel
theorem dSm_147 : decode method_4_code 147 = .ok (.iload_n 3, 1) := by decide +kernel
theorem dSm_148 : decode method_4_code 148 = .ok (.bipush 8, 2) := by decide +kernel
theorem dSm_150 : decode method_4_code 150 = .ok (.if_icmp .lt 20, 3) := by decide +kernel
theorem dSm_153 : decode method_4_code 153 = .ok (.aload_n 0, 1) := by decide +kernel
theorem dSm_154 : decode method_4_code 154 = .ok (.iload_n 1, 1) := by decide +kernel
theorem dSm_155 : decode method_4_code 155 = .ok (.bipush 7, 2) := by decide +kernel
theorem dSm_157 : decode method_4_code 157 = .ok (.iadd, 1) := by decide +kernel
theorem dSm_158 : decode method_4_code 158 = .ok (.invokevirtual 28, 3) := by decide +kernel
theorem dSm_161 : decode method_4_code 161 = .ok (.aload_n 2, 1) := by decide +kernel
theorem dSm_162 : decode method_4_code 162 = .ok (.bipush 7, 2) := by decide +kernel
theorem dSm_164 : decode method_4_code 164 = .ok (.invokevirtual 28, 3) := by decide +kernel
theorem dSm_167 : decode method_4_code 167 = .ok (.if_icmp .ne 99, 3) := by decide +kernel
theorem dSm_170 : decode method_4_code 170 = .ok (.iload_n 3, 1) := by decide +kernel
theorem dSm_171 : decode method_4_code 171 = .ok (.bipush 9, 2) := by decide +kernel
theorem dSm_173 : decode method_4_code 173 = .ok (.if_icmp .lt 20, 3) := by decide +kernel
theorem dSm_176 : decode method_4_code 176 = .ok (.aload_n 0, 1) := by decide +kernel
theorem dSm_177 : decode method_4_code 177 = .ok (.iload_n 1, 1) := by decide +kernel
theorem dSm_178 : decode method_4_code 178 = .ok (.bipush 8, 2) := by decide +kernel
theorem dSm_180 : decode method_4_code 180 = .ok (.iadd, 1) := by decide +kernel
theorem dSm_181 : decode method_4_code 181 = .ok (.invokevirtual 28, 3) := by decide +kernel
theorem dSm_184 : decode method_4_code 184 = .ok (.aload_n 2, 1) := by decide +kernel
theorem dSm_185 : decode method_4_code 185 = .ok (.bipush 8, 2) := by decide +kernel
theorem dSm_187 : decode method_4_code 187 = .ok (.invokevirtual 28, 3) := by decide +kernel
theorem dSm_190 : decode method_4_code 190 = .ok (.if_icmp .ne 76, 3) := by decide +kernel
theorem dSm_193 : decode method_4_code 193 = .ok (.iload_n 3, 1) := by decide +kernel
theorem dSm_194 : decode method_4_code 194 = .ok (.bipush 10, 2) := by decide +kernel
theorem dSm_196 : decode method_4_code 196 = .ok (.if_icmp .lt 20, 3) := by decide +kernel
theorem dSm_199 : decode method_4_code 199 = .ok (.aload_n 0, 1) := by decide +kernel
theorem dSm_200 : decode method_4_code 200 = .ok (.iload_n 1, 1) := by decide +kernel
theorem dSm_201 : decode method_4_code 201 = .ok (.bipush 9, 2) := by decide +kernel
theorem dSm_203 : decode method_4_code 203 = .ok (.iadd, 1) := by decide +kernel
theorem dSm_204 : decode method_4_code 204 = .ok (.invokevirtual 28, 3) := by decide +kernel
theorem dSm_207 : decode method_4_code 207 = .ok (.aload_n 2, 1) := by decide +kernel
theorem dSm_208 : decode method_4_code 208 = .ok (.bipush 9, 2) := by decide +kernel
theorem dSm_210 : decode method_4_code 210 = .ok (.invokevirtual 28, 3) := by decide +kernel
theorem dSm_213 : decode method_4_code 213 = .ok (.if_icmp .ne 53, 3) := by decide +kernel
theorem dSm_216 : decode method_4_code 216 = .ok (.iload_n 3, 1) := by decide +kernel
theorem dSm_217 : decode method_4_code 217 = .ok (.bipush 11, 2) := by decide +kernel
theorem dSm_219 : decode method_4_code 219 = .ok (.if_icmp .lt 20, 3) := by decide +kernel
theorem dSm_222 : decode method_4_code 222 = .ok (.aload_n 0, 1) := by decide +kernel
theorem dSm_223 : decode method_4_code 223 = .ok (.iload_n 1, 1) := by decide +kernel
theorem dSm_224 : decode method_4_code 224 = .ok (.bipush 10, 2) := by decide +kernel
theorem dSm_226 : decode method_4_code 226 = .ok (.iadd, 1) := by decide +kernel
theorem dSm_227 : decode method_4_code 227 = .ok (.invokevirtual 28, 3) := by decide +kernel
theorem dSm_230 : decode method_4_code 230 = .ok (.aload_n 2, 1) := by decide +kernel
theorem dSm_231 : decode method_4_code 231 = .ok (.bipush 10, 2) := by decide +kernel
theorem dSm_233 : decode method_4_code 233 = .ok (.invokevirtual 28, 3) := by decide +kernel
theorem dSm_236 : decode method_4_code 236 = .ok (.if_icmp .ne 30, 3) := by decide +kernel
theorem dSm_239 : decode method_4_code 239 = .ok (.iload_n 3, 1) := by decide +kernel
theorem dSm_240 : decode method_4_code 240 = .ok (.bipush 12, 2) := by decide +kernel
theorem dSm_242 : decode method_4_code 242 = .ok (.if_icmp .lt 20, 3) := by decide +kernel
theorem dSm_245 : decode method_4_code 245 = .ok (.aload_n 0, 1) := by decide +kernel
theorem dSm_246 : decode method_4_code 246 = .ok (.iload_n 1, 1) := by decide +kernel
theorem dSm_247 : decode method_4_code 247 = .ok (.bipush 11, 2) := by decide +kernel
theorem dSm_249 : decode method_4_code 249 = .ok (.iadd, 1) := by decide +kernel
theorem dSm_250 : decode method_4_code 250 = .ok (.invokevirtual 28, 3) := by decide +kernel
theorem dSm_253 : decode method_4_code 253 = .ok (.aload_n 2, 1) := by decide +kernel
theorem dSm_254 : decode method_4_code 254 = .ok (.bipush 11, 2) := by decide +kernel
theorem dSm_256 : decode method_4_code 256 = .ok (.invokevirtual 28, 3) := by decide +kernel
theorem dSm_259 : decode method_4_code 259 = .ok (.if_icmp .ne 7, 3) := by decide +kernel
theorem dSm_262 : decode method_4_code 262 = .ok (.iconst 1, 1) := by decide +kernel
theorem dSm_263 : decode method_4_code 263 = .ok (.goto 4, 3) := by decide +kernel
theorem dSm_267 : decode method_4_code 267 = .ok (.ireturn, 1) := by decide +kernel
theorem pn0 : plainName "implicitwiring/internal/SettingDescribedPinLaw" = true := by first | (simp [plainName, overriddenIn]; done) | decide +kernel
theorem pn1 : plainName "implicitwiring/internal/SettingSources$Setting" = true := by first | (simp [plainName, overriddenIn]; done) | decide +kernel
theorem pd0 : parseMethodDescriptor "()B" = some ⟨[], some .byte⟩ := by decide +kernel
theorem pd1 : parseMethodDescriptor "(Ljava/lang/String;)V" = some ⟨[(.object "java/lang/String")], none⟩ := by decide +kernel
theorem pd2 : parseMethodDescriptor "([BIB)V" = some ⟨[(.array .byte), .int, .byte], none⟩ := by decide +kernel
theorem pd3 : parseMethodDescriptor "(II)I" = some ⟨[.int, .int], some .int⟩ := by decide +kernel
theorem pd4 : parseMethodDescriptor "(III)I" = some ⟨[.int, .int, .int], some .int⟩ := by decide +kernel
theorem pd5 : parseMethodDescriptor "(I)I" = some ⟨[.int], some .int⟩ := by decide +kernel
theorem pd6 : parseMethodDescriptor "([BI)[B" = some ⟨[(.array .byte), .int], some (.array .byte)⟩ := by decide +kernel
theorem pd7 : parseMethodDescriptor "()I" = some ⟨[], some .int⟩ := by decide +kernel
theorem pd8 : parseMethodDescriptor "(I)V" = some ⟨[.int], none⟩ := by decide +kernel
theorem pd9 : parseMethodDescriptor "(ILjava/lang/String;)V" = some ⟨[.int, (.object "java/lang/String")], none⟩ := by decide +kernel
theorem pd10 : parseMethodDescriptor "(Ljava/lang/String;)Ljava/lang/AbstractStringBuilder;" = some ⟨[(.object "java/lang/String")], some (.object "java/lang/AbstractStringBuilder")⟩ := by decide +kernel
theorem pd11 : parseMethodDescriptor "(II)V" = some ⟨[.int, .int], none⟩ := by decide +kernel
theorem pd12 : parseMethodDescriptor "([BII)[B" = some ⟨[(.array .byte), .int, .int], some (.array .byte)⟩ := by decide +kernel
theorem pd13 : parseMethodDescriptor "()[B" = some ⟨[], some (.array .byte)⟩ := by decide +kernel
theorem pd14 : parseMethodDescriptor "()Z" = some ⟨[], some .boolean⟩ := by decide +kernel
theorem pd15 : parseMethodDescriptor "(Ljava/lang/AbstractStringBuilder;Ljava/lang/Void;)V" = some ⟨[(.object "java/lang/AbstractStringBuilder"), (.object "java/lang/Void")], none⟩ := by decide +kernel
theorem pd16 : parseMethodDescriptor "(Ljava/lang/StringBuilder;)V" = some ⟨[(.object "java/lang/StringBuilder")], none⟩ := by decide +kernel
theorem pd17 : parseMethodDescriptor "([CIILjava/lang/Void;)V" = some ⟨[(.array .char), .int, .int, (.object "java/lang/Void")], none⟩ := by decide +kernel
theorem pd18 : parseMethodDescriptor "([C)V" = some ⟨[(.array .char)], none⟩ := by decide +kernel
theorem pd19 : parseMethodDescriptor "()V" = some ⟨[], none⟩ := by decide +kernel
theorem pd20 : parseMethodDescriptor "(Ljava/lang/String;)Ljava/lang/StringBuilder;" = some ⟨[(.object "java/lang/String")], some (.object "java/lang/StringBuilder")⟩ := by decide +kernel
theorem pd21 : parseMethodDescriptor "()Ljava/lang/String;" = some ⟨[], some (.object "java/lang/String")⟩ := by decide +kernel
theorem pd22 : parseMethodDescriptor "(I)C" = some ⟨[.int], some .char⟩ := by decide +kernel
theorem pd23 : parseMethodDescriptor "(II)Ljava/lang/String;" = some ⟨[.int, .int], some (.object "java/lang/String")⟩ := by decide +kernel
theorem pd24 : parseMethodDescriptor "(Ljava/lang/String;Ljava/lang/String;)V" = some ⟨[(.object "java/lang/String"), (.object "java/lang/String")], none⟩ := by decide +kernel
theorem pd25 : parseMethodDescriptor "(Ljava/lang/String;ILjava/lang/String;)Z" = some ⟨[(.object "java/lang/String"), .int, (.object "java/lang/String")], some .boolean⟩ := by decide +kernel
theorem own_wS {a0 : Array Value} {Z : State} (hw : ∀ d ∈ tables_1, d.before a0 Z = true) : ∀ d ∈ Bundle.stringAtoms, d.before a0 Z = true := by
  intro d hd
  simp only [Bundle.stringAtoms, List.mem_cons, List.not_mem_nil, or_false] at hd
  rcases hd with rfl | rfl | rfl | rfl | rfl | rfl | rfl
  · exact hw _ (List.mem_of_getElem? (i := 6) rfl)
  · exact hw _ (List.mem_of_getElem? (i := 5) rfl)
  · exact hw _ (List.mem_of_getElem? (i := 23) rfl)
  · exact hw _ (List.mem_of_getElem? (i := 33) rfl)
  · exact hw _ (List.mem_of_getElem? (i := 31) rfl)
  · exact hw _ (List.mem_of_getElem? (i := 35) rfl)
  · exact hw _ (List.mem_of_getElem? (i := 36) rfl)
theorem own_EW {a0 : Array Value} {Z : State} (hw : ∀ d ∈ tables_1, d.before a0 Z = true) : EW Z a0 consts_1 := (EW.cons (hw _ (List.mem_of_getElem? (i := 196) rfl)) (by decide +kernel) (EW.cons (hw _ (List.mem_of_getElem? (i := 76) rfl)) (by decide +kernel) (EW.cons (hw _ (List.mem_of_getElem? (i := 124) rfl)) (by decide +kernel) (EW.cons (hw _ (List.mem_of_getElem? (i := 34) rfl)) (by decide +kernel) EW.nil))))
theorem own_nar (y : Int32) : nar .char ((y &&& (255 : Int32)).toUInt32.toUInt16.toUInt32.toInt32) = y &&& 255 := by
  rw [i2c_mask]; show (y &&& 255).toUInt32.toUInt16.toUInt32.toInt32 = _; exact i2c_mask y
theorem own_m255 (y : Int32) : ¬ (y &&& (255 : Int32)) < 0 ∧ ¬ (255 : Int32) < (y &&& (255 : Int32)) := by
  have e1 : (y &&& 255).toInt = y.toInt % 2 ^ 8 := Jvm.Kit.i32_mask y 255 (k := 8) (by decide) (by decide)
  rw [Int32.lt_iff_toInt_lt, Int32.lt_iff_toInt_lt, e1, show (0 : Int32).toInt = 0 from rfl, show (255 : Int32).toInt = 255 from rfl]; omega
theorem own_nar8 (c : Int32) : nar .byte (c.toInt8.toInt32) = c.toInt8.toInt32 := by
  show c.toInt8.toInt32.toInt8.toInt32 = _
  rw [Int8.toInt8_toInt32]
theorem own_m3 (y : Int32) : (y &&& (3 : Int32)) = 0 ∨ (y &&& (3 : Int32)) = 1 ∨ (y &&& (3 : Int32)) = 2 ∨ (y &&& (3 : Int32)) = 3 := by
  have e1 : (y &&& 3).toInt = y.toInt % 2 ^ 2 := Jvm.Kit.i32_mask y 3 (k := 2) (by decide) (by decide)
  simp only [← Int32.toInt_inj, e1, show (0 : Int32).toInt = 0 from rfl, show (1 : Int32).toInt = 1 from rfl, show (2 : Int32).toInt = 2 from rfl, show (3 : Int32).toInt = 3 from rfl]; omega
theorem own_at1 (u b w : List Int32) : ∀ j, j < u.length → ((((([] : List Int32) ++ ([34] : List Int32)) ++ u) ++ b) ++ w).getD (1 + j) 0 = u.getD j 0 := fun j hj => by
  simp only [List.nil_append, List.append_assoc, List.getD_eq_getElem?_getD]
  rw [List.getElem?_append_right (by simp), List.getElem?_append_left (by simp; omega)]
  simp
theorem own_at2 (u b w : List Int32) : ∀ j, j < b.length → ((((([] : List Int32) ++ ([34] : List Int32)) ++ u) ++ b) ++ w).getD ((1 + u.length) + j) 0 = b.getD j 0 := fun j hj => by
  simp only [List.nil_append, List.append_assoc, List.getD_eq_getElem?_getD]
  rw [List.getElem?_append_right (by simp; omega), List.getElem?_append_right (by simp; omega), List.getElem?_append_left (by simp; omega)]
  congr 2; simp; omega
theorem own_at3 (u b w : List Int32) (hb : b.length = 12) : ∀ j, j < w.length → ((((([] : List Int32) ++ ([34] : List Int32)) ++ u) ++ b) ++ w).getD ((13 + u.length) + j) 0 = w.getD j 0 := fun j hj => by
  simp only [List.nil_append, List.append_assoc, List.getD_eq_getElem?_getD]
  rw [List.getElem?_append_right (by simp; omega), List.getElem?_append_right (by simp; omega), List.getElem?_append_right (by simp; omega)]
  congr 2; simp; omega

abbrev own_ST : String := "java/lang/String"
/-- r is a String of the chars cs (each 0 to 255), its bytes at t -/
def own_Str (Z : State) (h : Heap) (r t : Addr) (cs : List Int32) : Prop := Exa Z h r own_ST ∧ Fld Z h r own_ST "coder" "B" (.int 0) ∧ Fld Z h r own_ST "value" "[B" (.ref t) ∧ (∃ k, Arv Z h t k .byte (Int32.ofNat cs.length) ((cs.map fun c => c.toInt8.toInt32).map Value.int) (.int 0)) ∧ (∀ c ∈ cs, ¬ c < 0 ∧ ¬ (255 : Int32) < c) ∧ cs.length ≤ 4000
theorem own_Str.ext {Z : State} {h h' : Heap} {r t : Addr} {cs : List Int32} (S : own_Str Z h r t cs) (E : Ext h h') : own_Str Z h' r t cs := by
  obtain ⟨a, b, c, ⟨k, d⟩, e⟩ := S
  exact ⟨a.ext E, b.ext E, c.ext E, ⟨k, d.ext E⟩, e⟩
theorem own_Str.keep {Z : State} {h h' : Heap} {r t : Addr} {cs : List Int32} {ws : List Addr} (S : own_Str Z h r t cs) (K : Keep h h' ws) (h1 : r ∉ ws) (h2 : t ∉ ws) : own_Str Z h' r t cs := by
  obtain ⟨a, b, c, ⟨k, d⟩, e⟩ := S
  exact ⟨a.keep K, b.keep K h1, c.keep K h1, ⟨k, d.keep K h2⟩, e⟩
theorem own_Str.keep0 {Z : State} {h h' : Heap} {r t : Addr} {cs : List Int32} (S : own_Str Z h r t cs) (K : Keep h h' []) : own_Str Z h' r t cs := S.keep K (fun q => by cases q) (fun q => by cases q)
theorem own_Str.keep1 {Z : State} {h h' : Heap} {r t o : Addr} {cs : List Int32} {C : String} {n : Nat} {a0 : Array Value} (S : own_Str Z h r t cs) (K : Keep h h' [o]) (E : Exa Z h o C) (hC : C ≠ own_ST) (w : (Cond.instantiable C n).before a0 Z = true) : own_Str Z h' r t cs := by
  obtain ⟨a, b, c, ⟨k, d⟩, e⟩ := S
  have h1 : o ≠ r := E.ne a hC
  have h2 : o ≠ t := E.neArv d w
  exact own_Str.keep ⟨a, b, c, ⟨k, d⟩, e⟩ K (fun q => h1 (List.mem_singleton.mp q).symm) (fun q => h2 (List.mem_singleton.mp q).symm)
theorem own_Str.cod {Z : State} {h : Heap} {r t : Addr} {cs : List Int32} (S : own_Str Z h r t cs) : StrChars.Road.CodA cs 0 (Int32.ofNat cs.length) ((cs.map fun c => c.toInt8.toInt32).map Value.int) := StrChars.Road.codOf rfl fun c hc => (S.2.2.2.2.1 c hc).2
theorem own_Str.wide {Z : State} {h : Heap} {r t : Addr} {cs : List Int32} (S : own_Str Z h r t cs) : ∀ c ∈ cs, ¬ c < 0 ∧ ¬ (65535 : Int32) < c := fun c hc => by
  have h1 := (S.2.2.2.2.1 c hc).1
  have h2 := (S.2.2.2.2.1 c hc).2
  refine ⟨h1, fun q => h2 ?_⟩
  rw [Int32.lt_iff_toInt_lt] at *
  have e1 : (65535 : Int32).toInt = 65535 := rfl
  have e2 : (255 : Int32).toInt = 255 := rfl
  omega

abbrev own_SBN : String := "java/lang/StringBuilder"
abbrev own_ASB : String := "java/lang/AbstractStringBuilder"
abbrev own_by (cs : List Int32) : List Value := (cs.map fun c => c.toInt8.toInt32).map Value.int
/-- b is a StringBuilder of the chars cs over the byte[] t of cap places -/
def own_SB (Z : State) (h : Heap) (b t : Addr) (cap : Nat) (cs : List Int32) : Prop := Exa Z h b own_SBN ∧ Fld Z h b own_ASB "coder" "B" (.int 0) ∧ Fld Z h b own_ASB "count" "I" (.int (Int32.ofNat cs.length)) ∧ Fld Z h b own_ASB "value" "[B" (.ref t) ∧ (∃ k, Arv Z h t k .byte (Int32.ofNat cap) (own_by cs) (.int 0) ∧ Exa Z h t "[B") ∧ (∀ c ∈ cs, ¬ c < 0 ∧ ¬ (255 : Int32) < c) ∧ cs.length ≤ cap ∧ cap ≤ 1000
theorem own_SB.ext {Z : State} {h h' : Heap} {b t : Addr} {cap : Nat} {cs : List Int32} (S : own_SB Z h b t cap cs) (E : Ext h h') : own_SB Z h' b t cap cs := by
  obtain ⟨a1, a2, a3, a4, ⟨k, a5, a7⟩, a6⟩ := S
  exact ⟨a1.ext E, a2.ext E, a3.ext E, a4.ext E, ⟨k, a5.ext E, a7.ext E⟩, a6⟩
theorem own_SB.keep0 {Z : State} {h h' : Heap} {b t : Addr} {cap : Nat} {cs : List Int32} (S : own_SB Z h b t cap cs) (K : Keep h h' []) : own_SB Z h' b t cap cs := by
  obtain ⟨a1, a2, a3, a4, ⟨k, a5, a7⟩, a6⟩ := S
  exact ⟨a1.keep K, a2.keep K (fun q => by cases q), a3.keep K (fun q => by cases q), a4.keep K (fun q => by cases q), ⟨k, a5.keep K (fun q => by cases q), a7.keep K⟩, a6⟩
theorem own_SB.keep {Z : State} {h h' : Heap} {b t : Addr} {cap : Nat} {cs : List Int32} {ws : List Addr} (S : own_SB Z h b t cap cs) (K : Keep h h' ws) (h1 : b ∉ ws) (h2 : t ∉ ws) : own_SB Z h' b t cap cs := by
  obtain ⟨a1, a2, a3, a4, ⟨k, a5, a7⟩, a6⟩ := S
  exact ⟨a1.keep K, a2.keep K h1, a3.keep K h1, a4.keep K h1, ⟨k, a5.keep K h2, a7.keep K⟩, a6⟩
theorem own_Kmono {h h' : Heap} {ws ws' : List Addr} (K : Keep h h' ws) (q : ∀ x ∈ ws, x ∈ ws') : Keep h h' ws' := ⟨K.1, fun x c a r => K.2.1 x c a (fun z => r (q x z)), K.2.2⟩
theorem own_i32 {n : Nat} (h : n ≤ 2000) : (Int32.ofNat n).toInt = (n : Int) := Int32.toInt_ofNat_of_lt (by omega)
theorem own_nat {n : Nat} (h : n ≤ 2000) : (Int32.ofNat n).toNatClampNeg = n := by
  show (Int32.ofNat n).toInt.toNat = n
  rw [own_i32 h]; omega
theorem own_nn {n : Nat} (h : n ≤ 2000) : ¬ Int32.ofNat n < 0 := by
  rw [Int32.lt_iff_toInt_lt, own_i32 h, show (0 : Int32).toInt = 0 from rfl]; omega
theorem own_addn {a b : Nat} (h : a + b ≤ 2000) : Int32.ofNat a + Int32.ofNat b = Int32.ofNat (a + b) := by
  rw [← Int32.toInt_inj, Jvm.Kit.i32_add (by rw [own_i32 (by omega), own_i32 (by omega)]; omega) (by rw [own_i32 (by omega), own_i32 (by omega)]; omega), own_i32 (by omega), own_i32 (by omega), own_i32 h]; omega
theorem own_sub2 {a b : Int32} (low : -2 ^ 31 ≤ a.toInt - b.toInt) (high : a.toInt - b.toInt < 2 ^ 31) : (a - b).toInt = a.toInt - b.toInt := by
  rw [Int32.toInt_sub]; exact Int.bmod_eq_of_le (by omega) (by omega)
theorem own_subn {a b : Nat} (h : a ≤ 2000) (hb : b ≤ a) : Int32.ofNat a - Int32.ofNat b = Int32.ofNat (a - b) := by
  rw [← Int32.toInt_inj, own_sub2 (by rw [own_i32 h, own_i32 (by omega)]; omega) (by rw [own_i32 h, own_i32 (by omega)]; omega), own_i32 h, own_i32 (by omega), own_i32 (by omega)]; omega
theorem own_shr0 (x : Int32) : x >>> ((0 : Int32) &&& 31) = x := by
  rw [show (0 : Int32) &&& 31 = 0 from rfl, ← Int32.toBitVec_inj]
  simp
theorem own_shl0 (x : Int32) : x <<< ((0 : Int32) &&& 31) = x := by
  rw [show (0 : Int32) &&& 31 = 0 from rfl, ← Int32.toBitVec_inj]
  simp
theorem own_bylen (cs : List Int32) : (own_by cs).length = cs.length := by simp
theorem own_byapp (cs ds : List Int32) : own_by (cs ++ ds) = own_by cs ++ own_by ds := by simp
theorem own_rangeget (vs : List Value) (d : Value) : (List.range vs.length).map (fun i => vs.getD (0 + i) d) = vs := by
  apply List.ext_getElem?
  intro i
  by_cases h : i < vs.length
  · simp [h]
  · simp [h]
theorem own_gt {a b : Nat} (ha : a ≤ 2000) (hb : b ≤ 2000) (h : a ≤ b) : ¬ 0 < Int32.ofNat a - Int32.ofNat b := by
  rw [Int32.lt_iff_toInt_lt, own_sub2 (by rw [own_i32 ha, own_i32 hb]; omega) (by rw [own_i32 ha, own_i32 hb]; omega), own_i32 ha, own_i32 hb, show (0 : Int32).toInt = 0 from rfl]; omega
theorem own_gt' {a b : Nat} (ha : a ≤ 2000) (hb : b ≤ 2000) (h : ¬ a ≤ b) : 0 < Int32.ofNat a - Int32.ofNat b := by
  rw [Int32.lt_iff_toInt_lt, own_sub2 (by rw [own_i32 ha, own_i32 hb]; omega) (by rw [own_i32 ha, own_i32 hb]; omega), own_i32 ha, own_i32 hb, show (0 : Int32).toInt = 0 from rfl]; omega
theorem own_ltn {a b : Nat} (ha : a ≤ 2000) (hb : b ≤ 2000) : Int32.ofNat a < Int32.ofNat b ↔ a < b := by
  rw [Int32.lt_iff_toInt_lt, own_i32 ha, own_i32 hb]; omega
theorem own_eqn {a b : Nat} (ha : a ≤ 2000) (hb : b ≤ 2000) : Int32.ofNat a = Int32.ofNat b ↔ a = b := by
  rw [← Int32.toInt_inj, own_i32 ha, own_i32 hb]; omega
theorem own_soft {n : Nat} (h : n ≤ 2000) : ¬ (2147483639 : Int32) < Int32.ofNat n := by
  rw [Int32.lt_iff_toInt_lt, own_i32 h, show (2147483639 : Int32).toInt = 2147483639 from rfl]; omega
theorem own_max {n : Nat} (h : n ≤ 2000) : ¬ Int32.ofNat n = (2147483647 : Int32) := by
  rw [← Int32.toInt_inj, own_i32 h, show (2147483647 : Int32).toInt = 2147483647 from rfl]; omega

def QCo (Z : State) (a : Addr) (G1 : Int32) (h0 : Heap) (n0 : Nat) (v : Option Value) (h : Heap) (L : List Loc) : Prop := v = some (.int 0) ∧ Fr n0 L ∧ h = h0
theorem efCo (m : MethodId) (a : Addr) : entryFrame m #[(.ref a)] 1 = mkF m 0 #[.val (.ref a)] [] := by first | (simp [entryFrame, mkF, argsToLocals, Value.category, List.replicate]; done) | rfl
set_option maxRecDepth 65536 in
set_option maxHeartbeats 40000000 in
theorem rmCo (l : Launch) (Z : State) (a0 : Array Value) (hw : ∀ d ∈ tables_1, d.before a0 Z = true) (ws : List Jvm.Cond) (a : Addr) (G1 : Int32) (h0 : Heap) (n0 : Nat) (Z0 : n0 ≤ h0.size) (O2 : Sta Z Z.heap "java/lang/String" "COMPACT_STRINGS" "Z" (.int G1)) (P5 : ¬ G1 = 0) (X00 : Old Z n0 h0) (Fc : Fld Z h0 a "java/lang/String" "coder" "B" (.int 0)) :
    MetFree l (⟨"java/lang/String", "coder", "()B"⟩ : MethodName) (head1 (Jvm.Cond.code (⟨"java/lang/String", "coder", "()B"⟩ : MethodName) jdk_42_method_152_code 1 (some .byte) :: ws) ({ frames := 0, cells := 0, slots := 0, locals := 0 } : Room)) (fun aa UU => aa = #[(.ref a)] ∧ Z.Warmed39 UU.vm ∧ UU.heap = h0) (fun _ _ _ _ _ => True) (fun _ UU oo UT => ∃ vv LL, oo = .returned vv ∧ QCo Z a G1 h0 n0 vv UT.heap LL ∧ FrameEnd UU oo UT LL ({ frames := 0, cells := 0, slots := 0, locals := 0 } : Room).cells ({ frames := 0, cells := 0, slots := 0, locals := 0 } : Room).slots) := by
  refine MetFree.of_bodySF (by decide +kernel) hisR ?_
  intro p e s m args below meth c s₁ Bd hml0 hP hK
  obtain ⟨rfl, hZ, hh⟩ := hP
  have hx := Bd.exec
  have hby := Bd.bytes
  have hml : c.maxLocals = 1 := hml0
  have hown : s.vm.findClass "java/lang/String" = some m.cls := findClass_of_methodNamed Bd.named
  have hnm := (name_of_methodNamed Bd.named Bd.method).1
  have X0 : Stand p l e ({ frames := 0, cells := 0, slots := 0, locals := 0 } : Room) s m #[(.ref a)] below meth c s₁ [] 0 0 := Stand.of_body Bd
  have e0 : s₁.heap = h0 := by rw [← hh, Bd.state]; rfl
  have N0 := Fr.nil n0
  have c0 : Steps p.tables e below (s₁.setTop (entryFrame m #[(.ref a)] 1)) (s₁.setTop (mkF m 0 #[.val (.ref a)] [])) := castTop (efCo m a) (Steps.refl _)
  show ∃ s₂ oo, Steps p.tables e below (s₁.setTop (entryFrame m #[(.ref a)] 1)) s₂ ∧ _ ∧ _ ∧ _
  generalize s₁.setTop (entryFrame m #[(.ref a)] 1) = S0 at c0 ⊢
  obtain ⟨T1, X1, e1, st1⟩ := getS X0 hx hZ hown (host := "") (hw _ (List.mem_of_getElem? (i := 18) rfl)) Via.refl e0 (O2.ext X00.2) (g := (mkF m 0 #[.val (.ref a)] [])) rfl (hb hby dCo_0)
  have c1 : Steps p.tables e below S0 (T1.setTop (mkF m 3 #[.val (.ref a)] [(.int G1)])) := by
    refine c0.trans ?_
    show Steps p.tables e below (s₁.setTop (mkF m 0 #[.val (.ref a)] [])) _
    refine st1 _ ?_
    exact Steps.refl _
  have c2 : Steps p.tables e below S0 (T1.setTop (mkF m 6 #[.val (.ref a)] [])) := by
    refine c1.trans ?_
    show Steps p.tables e below (T1.setTop (mkF m 3 #[.val (.ref a)] [(.int G1)])) _
    refine XS.ifNo X1.here hx rfl (hb hby dCo_3) rfl ((if0 _ _).trans (feq P5).1) ?_
    exact Steps.refl _
  have c3 : Steps p.tables e below S0 (T1.setTop (mkF m 7 #[.val (.ref a)] [(.ref a)])) := by
    refine c2.trans ?_
    show Steps p.tables e below (T1.setTop (mkF m 6 #[.val (.ref a)] [])) _
    refine XS.aloadN X1.here hx rfl (hb hby dCo_6) rfl rfl ?_
    exact Steps.refl _
  obtain ⟨T4, X4, e4, st4⟩ := getF X1 hx hZ hown (host := "") (Or.inl (hw _ (List.mem_of_getElem? (i := 30) rfl))) Via.refl e1 Fc (g := (mkF m 7 #[.val (.ref a)] [(.ref a)])) rfl rfl (hb hby dCo_7)
  have c4 : Steps p.tables e below S0 (T4.setTop (mkF m 10 #[.val (.ref a)] [(.int (0 : Int32))])) := by
    refine c3.trans ?_
    show Steps p.tables e below (T1.setTop (mkF m 7 #[.val (.ref a)] [(.ref a)])) _
    refine st4 _ ?_
    exact Steps.refl _
  have c5 : Steps p.tables e below S0 (T4.setTop (mkF m 14 #[.val (.ref a)] [(.int (0 : Int32))])) := by
    refine c4.trans ?_
    show Steps p.tables e below (T4.setTop (mkF m 10 #[.val (.ref a)] [(.int (0 : Int32))])) _
    refine XS.goto X4.here hx rfl (pc0 := 10) (pc' := 14) rfl (hb hby dCo_10) (by decide) (by decide) ?_
    exact Steps.refl _
  obtain ⟨fs, hr, hrun, hended, hW, hsame⟩ := X4.leave (v := some (.int 0)) (fun h => by rw [Bd.returns] at h; cases h)
  refine ⟨_, _, c5.trans ?_, hrun, hended, _, _, rfl, ?_, ⟨_, rfl⟩, hW, hsame.mono (by decide) (by decide)⟩
  · show Steps p.tables e below (T4.setTop (mkF m 14 #[.val (.ref a)] [(.int (0 : Int32))])) _
    exact retN X4 hx (t := .byte) Bd.returns (by simp) (hb hby dCo_14) hr
  · show QCo Z a G1 h0 n0 _ T4.heap _
    rw [e4]
    exact ⟨rfl, N0, rfl⟩
def QLe (Z : State) (a : Addr) (ta : Addr) (ds : List Int32) (G1 : Int32) (h0 : Heap) (n0 : Nat) (v : Option Value) (h : Heap) (L : List Loc) : Prop := v = some (.int (Int32.ofNat ds.length)) ∧ Fr n0 L ∧ h = h0
theorem efLe (m : MethodId) (a : Addr) : entryFrame m #[(.ref a)] 1 = mkF m 0 #[.val (.ref a)] [] := by first | (simp [entryFrame, mkF, argsToLocals, Value.category, List.replicate]; done) | rfl
set_option maxRecDepth 65536 in
set_option maxHeartbeats 40000000 in
theorem rmLe (l : Launch) (Z : State) (a0 : Array Value) (hw : ∀ d ∈ tables_1, d.before a0 Z = true) (ws : List Jvm.Cond) (a : Addr) (ta : Addr) (ds : List Int32) (G1 : Int32) (h0 : Heap) (n0 : Nat) (Z0 : n0 ≤ h0.size) (O2 : Sta Z Z.heap "java/lang/String" "COMPACT_STRINGS" "Z" (.int G1)) (P5 : ¬ G1 = 0) (X00 : Old Z n0 h0) (S : own_Str Z h0 a ta ds) (hl : ds.length ≤ 2000) :
    MetFree l (⟨"java/lang/String", "length", "()I"⟩ : MethodName) (head1 (Jvm.Cond.code (⟨"java/lang/String", "length", "()I"⟩ : MethodName) jdk_42_method_54_code 1 (some .int) :: ws) ({ frames := 1, cells := 0, slots := 0, locals := 14 } : Room)) (fun aa UU => aa = #[(.ref a)] ∧ Z.Warmed39 UU.vm ∧ UU.heap = h0) (fun _ _ _ _ _ => True) (fun _ UU oo UT => ∃ vv LL, oo = .returned vv ∧ QLe Z a ta ds G1 h0 n0 vv UT.heap LL ∧ FrameEnd UU oo UT LL ({ frames := 1, cells := 0, slots := 0, locals := 14 } : Room).cells ({ frames := 1, cells := 0, slots := 0, locals := 14 } : Room).slots) := by
  refine MetFree.of_bodySF (by decide +kernel) hisR ?_
  intro p e s m args below meth c s₁ Bd hml0 hP hK
  obtain ⟨rfl, hZ, hh⟩ := hP
  have hx := Bd.exec
  have hby := Bd.bytes
  have hml : c.maxLocals = 1 := hml0
  have hown : s.vm.findClass "java/lang/String" = some m.cls := findClass_of_methodNamed Bd.named
  have hnm := (name_of_methodNamed Bd.named Bd.method).1
  have X0 : Stand p l e ({ frames := 1, cells := 0, slots := 0, locals := 14 } : Room) s m #[(.ref a)] below meth c s₁ [] 0 0 := Stand.of_body Bd
  have e0 : s₁.heap = h0 := by rw [← hh, Bd.state]; rfl
  have N0 := Fr.nil n0
  have c0 : Steps p.tables e below (s₁.setTop (entryFrame m #[(.ref a)] 1)) (s₁.setTop (mkF m 0 #[.val (.ref a)] [])) := castTop (efLe m a) (Steps.refl _)
  show ∃ s₂ oo, Steps p.tables e below (s₁.setTop (entryFrame m #[(.ref a)] 1)) s₂ ∧ _ ∧ _ ∧ _
  generalize s₁.setTop (entryFrame m #[(.ref a)] 1) = S0 at c0 ⊢
  obtain ⟨Ea, Fc, Fv, ⟨ka, Va⟩, -⟩ := id S
  obtain ⟨cl, Ar, -, Sz, Mz, -, -⟩ := Va
  have c1 : Steps p.tables e below S0 (s₁.setTop (mkF m 1 #[.val (.ref a)] [(.ref a)])) := by
    refine c0.trans ?_
    show Steps p.tables e below (s₁.setTop (mkF m 0 #[.val (.ref a)] [])) _
    refine XS.aloadN X0.here hx rfl (hb hby dLe_0) rfl rfl ?_
    exact Steps.refl _
  obtain ⟨T2, X2, e2, st2⟩ := getF X0 hx hZ hown (host := "") (Or.inl (hw _ (List.mem_of_getElem? (i := 32) rfl))) Via.refl e0 Fv (g := (mkF m 1 #[.val (.ref a)] [(.ref a)])) rfl rfl (hb hby dLe_1)
  have c2 : Steps p.tables e below S0 (T2.setTop (mkF m 4 #[.val (.ref a)] [(.ref ta)])) := by
    refine c1.trans ?_
    show Steps p.tables e below (s₁.setTop (mkF m 1 #[.val (.ref a)] [(.ref a)])) _
    refine st2 _ ?_
    exact Steps.refl _
  have c3 : Steps p.tables e below S0 (T2.setTop (mkF m 5 #[.val (.ref a)] [(.int (Int32.ofNat ds.length))])) := by
    refine c2.trans ?_
    show Steps p.tables e below (T2.setTop (mkF m 4 #[.val (.ref a)] [(.ref ta)])) _
    refine X2.arraylength hx (by rw [e2]; exact Ar.1) (State.isArrayOf_alike hZ.alike Ar.2.1) (g := (mkF m 4 #[.val (.ref a)] [(.ref ta)])) rfl rfl (hb hby dLe_4) _ ?_
    rw [len_of Sz Mz]
    exact Steps.refl _
  have c4 : Steps p.tables e below S0 (T2.setTop (mkF m 6 #[.val (.ref a)] [(.ref a), (.int (Int32.ofNat ds.length))])) := by
    refine c3.trans ?_
    show Steps p.tables e below (T2.setTop (mkF m 5 #[.val (.ref a)] [(.int (Int32.ofNat ds.length))])) _
    refine XS.aloadN X2.here hx rfl (hb hby dLe_5) rfl rfl ?_
    exact Steps.refl _
  obtain ⟨cq5, kq5, q5a, q5b, q5c⟩ := isOf hZ e2 Ea
  obtain ⟨_, _, ⟨T5, L5, k5, n5⟩, -, X5, ⟨Lc5, hQ5, l5, y5, z5⟩, st5⟩ := X2.virtualBack hx (y := (⟨"java/lang/String", "coder", "()B"⟩ : MethodName)) (z := (⟨"java/lang/String", "coder", "()B"⟩ : MethodName)) hown (mvT hZ (hw _ (List.mem_of_getElem? (i := 92) rfl))) (mvT hZ (hw _ (List.mem_of_getElem? (i := 93) rfl))) (notFace_of_selects (args := #[]) (mvT hZ (hw _ (List.mem_of_getElem? (i := 95) rfl)))) (mvT hZ (hw _ (List.mem_of_getElem? (i := 95) rfl))) (mvT hZ (hw _ (List.mem_of_getElem? (i := 94) rfl))) (by decide) (backOf (W := 1) (rmCo l Z a0 hw [] a G1 h0 n0 Z0 O2 P5 X00 Fc) hZ (hw _ (List.mem_of_getElem? (i := 96) rfl)) (hw _ (List.mem_of_getElem? (i := 6) rfl)) (by decide) (by decide)) q5a q5c (g := (mkF m 6 #[.val (.ref a)] [(.ref a), (.int (Int32.ofNat ds.length))])) rfl (by rw [hml]; rfl) (Steps.refl _) (argsL := []) (rest := [(.int (Int32.ofNat ds.length))]) (lenOf pd0 rfl) rfl (by show 2 * 0 + _ ≤ _; exact Nat.le_of_eq rfl) (hb hby dLe_6) (fun _ _ => ⟨rfl, e2, (by decide : 0 + 0 ≤ _), (by decide : 0 + 0 ≤ _)⟩)
  dsimp only [Pt.U, Pt.locs, Pt.cells, Pt.slots] at X5 l5 y5 z5 st5 hQ5
  subst l5 y5 z5
  obtain ⟨rfl, N1, e1⟩ := hQ5
  have c5 : Steps p.tables e below S0 (T5.setTop (mkF m 9 #[.val (.ref a)] [(.int (0 : Int32)), (.int (Int32.ofNat ds.length))])) := by
    refine c4.trans ?_
    show Steps p.tables e below (T2.setTop (mkF m 6 #[.val (.ref a)] [(.ref a), (.int (Int32.ofNat ds.length))])) _
    refine st5.trans ?_
    exact Steps.refl _
  have c6 : Steps p.tables e below S0 (T5.setTop (mkF m 10 #[.val (.ref a)] [(.int ((Int32.ofNat ds.length) >>> ((0 : Int32) &&& 31)))])) := by
    refine c5.trans ?_
    show Steps p.tables e below (T5.setTop (mkF m 9 #[.val (.ref a)] [(.int (0 : Int32)), (.int (Int32.ofNat ds.length))])) _
    refine XS.ishr X5.here hx rfl (hb hby dLe_9) rfl ?_
    exact Steps.refl _
  rw [own_shr0] at c6
  obtain ⟨fs, hr, hrun, hended, hW, hsame⟩ := X5.leave (v := some (.int (Int32.ofNat ds.length))) (fun h => by rw [Bd.returns] at h; cases h)
  refine ⟨_, _, c6.trans ?_, hrun, hended, _, _, rfl, ?_, ⟨_, rfl⟩, hW, hsame.mono (by decide) (by decide)⟩
  · show Steps p.tables e below (T5.setTop (mkF m 10 #[.val (.ref a)] [(.int (Int32.ofNat ds.length))])) _
    exact retI X5 hx Bd.returns (hb hby dLe_10) hr
  · show QLe Z a ta ds G1 h0 n0 _ T5.heap _
    rw [e1]
    exact ⟨rfl, Fr.app N0 N1, rfl⟩
def QMi (Z : State) (x : Int32) (y : Int32) (h0 : Heap) (n0 : Nat) (v : Option Value) (h : Heap) (L : List Loc) : Prop := v = some (.int (if y < x then y else x)) ∧ Fr n0 L ∧ h = h0
theorem efMi (m : MethodId) (x : Int32) (y : Int32) : entryFrame m #[(.int x), (.int y)] 2 = mkF m 0 #[.val (.int x), .val (.int y)] [] := by first | (simp [entryFrame, mkF, argsToLocals, Value.category, List.replicate]; done) | rfl
set_option maxRecDepth 65536 in
set_option maxHeartbeats 40000000 in
theorem rmMi (l : Launch) (Z : State) (a0 : Array Value) (hw : ∀ d ∈ tables_1, d.before a0 Z = true) (ws : List Jvm.Cond) (x : Int32) (y : Int32) (h0 : Heap) (n0 : Nat) (Z0 : n0 ≤ h0.size)  :
    MetFree l (⟨"java/lang/Math", "min", "(II)I"⟩ : MethodName) (head1 (Jvm.Cond.code (⟨"java/lang/Math", "min", "(II)I"⟩ : MethodName) jdk_29_method_69_code 2 (some .int) :: ws) ({ frames := 0, cells := 0, slots := 0, locals := 0 } : Room)) (fun aa UU => aa = #[(.int x), (.int y)] ∧ Z.Warmed39 UU.vm ∧ UU.heap = h0) (fun _ _ _ _ _ => True) (fun _ UU oo UT => ∃ vv LL, oo = .returned vv ∧ QMi Z x y h0 n0 vv UT.heap LL ∧ FrameEnd UU oo UT LL ({ frames := 0, cells := 0, slots := 0, locals := 0 } : Room).cells ({ frames := 0, cells := 0, slots := 0, locals := 0 } : Room).slots) := by
  refine MetFree.of_bodySF (by decide +kernel) hisR ?_
  intro p e s m args below meth c s₁ Bd hml0 hP hK
  obtain ⟨rfl, hZ, hh⟩ := hP
  have hx := Bd.exec
  have hby := Bd.bytes
  have hml : c.maxLocals = 2 := hml0
  have hown : s.vm.findClass "java/lang/Math" = some m.cls := findClass_of_methodNamed Bd.named
  have hnm := (name_of_methodNamed Bd.named Bd.method).1
  have X0 : Stand p l e ({ frames := 0, cells := 0, slots := 0, locals := 0 } : Room) s m #[(.int x), (.int y)] below meth c s₁ [] 0 0 := Stand.of_body Bd
  have e0 : s₁.heap = h0 := by rw [← hh, Bd.state]; rfl
  have N0 := Fr.nil n0
  have c0 : Steps p.tables e below (s₁.setTop (entryFrame m #[(.int x), (.int y)] 2)) (s₁.setTop (mkF m 0 #[.val (.int x), .val (.int y)] [])) := castTop (efMi m x y) (Steps.refl _)
  show ∃ s₂ oo, Steps p.tables e below (s₁.setTop (entryFrame m #[(.int x), (.int y)] 2)) s₂ ∧ _ ∧ _ ∧ _
  generalize s₁.setTop (entryFrame m #[(.int x), (.int y)] 2) = S0 at c0 ⊢
  have c1 : Steps p.tables e below S0 (s₁.setTop (mkF m 2 #[.val (.int x), .val (.int y)] [(.int y), (.int x)])) := by
    refine c0.trans ?_
    show Steps p.tables e below (s₁.setTop (mkF m 0 #[.val (.int x), .val (.int y)] [])) _
    refine XS.iloadN X0.here hx rfl (hb hby dMi_0) rfl ?_
    show Steps p.tables e below (s₁.setTop (mkF m 1 #[.val (.int x), .val (.int y)] [(.int x)])) _
    refine XS.iloadN X0.here hx rfl (hb hby dMi_1) rfl ?_
    exact Steps.refl _
  by_cases hc : y < x
  · have c2 : Steps p.tables e below S0 (s₁.setTop (mkF m 9 #[.val (.int x), .val (.int y)] [])) := by
      refine c1.trans ?_
      show Steps p.tables e below (s₁.setTop (mkF m 2 #[.val (.int x), .val (.int y)] [(.int y), (.int x)])) _
      refine XS.icmpYes X0.here hx rfl (pc0 := 2) (pc' := 9) rfl (hb hby dMi_2) rfl (tlt hc).2.2.1 (by decide) (by decide) ?_
      exact Steps.refl _
    have c3 : Steps p.tables e below S0 (s₁.setTop (mkF m 10 #[.val (.int x), .val (.int y)] [(.int y)])) := by
      refine c2.trans ?_
      show Steps p.tables e below (s₁.setTop (mkF m 9 #[.val (.int x), .val (.int y)] [])) _
      refine XS.iloadN X0.here hx rfl (hb hby dMi_9) rfl ?_
      exact Steps.refl _
    obtain ⟨fs, hr, hrun, hended, hW, hsame⟩ := X0.leave (v := some (.int y)) (fun h => by rw [Bd.returns] at h; cases h)
    refine ⟨_, _, c3.trans ?_, hrun, hended, _, _, rfl, ?_, ⟨_, rfl⟩, hW, hsame.mono (by decide) (by decide)⟩
    · show Steps p.tables e below (s₁.setTop (mkF m 10 #[.val (.int x), .val (.int y)] [(.int y)])) _
      exact retI X0 hx Bd.returns (hb hby dMi_10) hr
    · show QMi Z x y h0 n0 _ s₁.heap _
      rw [e0]
      exact ⟨by rw [if_pos hc], N0, rfl⟩
  · have c4 : Steps p.tables e below S0 (s₁.setTop (mkF m 10 #[.val (.int x), .val (.int y)] [(.int x)])) := by
      refine c1.trans ?_
      show Steps p.tables e below (s₁.setTop (mkF m 2 #[.val (.int x), .val (.int y)] [(.int y), (.int x)])) _
      refine XS.icmpNo X0.here hx rfl (hb hby dMi_2) rfl (flt hc).2.2.1 ?_
      show Steps p.tables e below (s₁.setTop (mkF m 5 #[.val (.int x), .val (.int y)] [])) _
      refine XS.iloadN X0.here hx rfl (hb hby dMi_5) rfl ?_
      show Steps p.tables e below (s₁.setTop (mkF m 6 #[.val (.int x), .val (.int y)] [(.int x)])) _
      refine XS.goto X0.here hx rfl (pc0 := 6) (pc' := 10) rfl (hb hby dMi_6) (by decide) (by decide) ?_
      exact Steps.refl _
    obtain ⟨fs, hr, hrun, hended, hW, hsame⟩ := X0.leave (v := some (.int x)) (fun h => by rw [Bd.returns] at h; cases h)
    refine ⟨_, _, c4.trans ?_, hrun, hended, _, _, rfl, ?_, ⟨_, rfl⟩, hW, hsame.mono (by decide) (by decide)⟩
    · show Steps p.tables e below (s₁.setTop (mkF m 10 #[.val (.int x), .val (.int y)] [(.int x)])) _
      exact retI X0 hx Bd.returns (hb hby dMi_10) hr
    · show QMi Z x y h0 n0 _ s₁.heap _
      rw [e0]
      exact ⟨by rw [if_neg hc], N0, rfl⟩
def QMx (Z : State) (x : Int32) (y : Int32) (h0 : Heap) (n0 : Nat) (v : Option Value) (h : Heap) (L : List Loc) : Prop := v = some (.int (if x < y then y else x)) ∧ Fr n0 L ∧ h = h0
theorem efMx (m : MethodId) (x : Int32) (y : Int32) : entryFrame m #[(.int x), (.int y)] 2 = mkF m 0 #[.val (.int x), .val (.int y)] [] := by first | (simp [entryFrame, mkF, argsToLocals, Value.category, List.replicate]; done) | rfl
set_option maxRecDepth 65536 in
set_option maxHeartbeats 40000000 in
theorem rmMx (l : Launch) (Z : State) (a0 : Array Value) (hw : ∀ d ∈ tables_1, d.before a0 Z = true) (ws : List Jvm.Cond) (x : Int32) (y : Int32) (h0 : Heap) (n0 : Nat) (Z0 : n0 ≤ h0.size)  :
    MetFree l (⟨"java/lang/Math", "max", "(II)I"⟩ : MethodName) (head1 (Jvm.Cond.code (⟨"java/lang/Math", "max", "(II)I"⟩ : MethodName) jdk_29_method_65_code 2 (some .int) :: ws) ({ frames := 0, cells := 0, slots := 0, locals := 0 } : Room)) (fun aa UU => aa = #[(.int x), (.int y)] ∧ Z.Warmed39 UU.vm ∧ UU.heap = h0) (fun _ _ _ _ _ => True) (fun _ UU oo UT => ∃ vv LL, oo = .returned vv ∧ QMx Z x y h0 n0 vv UT.heap LL ∧ FrameEnd UU oo UT LL ({ frames := 0, cells := 0, slots := 0, locals := 0 } : Room).cells ({ frames := 0, cells := 0, slots := 0, locals := 0 } : Room).slots) := by
  refine MetFree.of_bodySF (by decide +kernel) hisR ?_
  intro p e s m args below meth c s₁ Bd hml0 hP hK
  obtain ⟨rfl, hZ, hh⟩ := hP
  have hx := Bd.exec
  have hby := Bd.bytes
  have hml : c.maxLocals = 2 := hml0
  have hown : s.vm.findClass "java/lang/Math" = some m.cls := findClass_of_methodNamed Bd.named
  have hnm := (name_of_methodNamed Bd.named Bd.method).1
  have X0 : Stand p l e ({ frames := 0, cells := 0, slots := 0, locals := 0 } : Room) s m #[(.int x), (.int y)] below meth c s₁ [] 0 0 := Stand.of_body Bd
  have e0 : s₁.heap = h0 := by rw [← hh, Bd.state]; rfl
  have N0 := Fr.nil n0
  have c0 : Steps p.tables e below (s₁.setTop (entryFrame m #[(.int x), (.int y)] 2)) (s₁.setTop (mkF m 0 #[.val (.int x), .val (.int y)] [])) := castTop (efMx m x y) (Steps.refl _)
  show ∃ s₂ oo, Steps p.tables e below (s₁.setTop (entryFrame m #[(.int x), (.int y)] 2)) s₂ ∧ _ ∧ _ ∧ _
  generalize s₁.setTop (entryFrame m #[(.int x), (.int y)] 2) = S0 at c0 ⊢
  have c1 : Steps p.tables e below S0 (s₁.setTop (mkF m 2 #[.val (.int x), .val (.int y)] [(.int y), (.int x)])) := by
    refine c0.trans ?_
    show Steps p.tables e below (s₁.setTop (mkF m 0 #[.val (.int x), .val (.int y)] [])) _
    refine XS.iloadN X0.here hx rfl (hb hby dMx_0) rfl ?_
    show Steps p.tables e below (s₁.setTop (mkF m 1 #[.val (.int x), .val (.int y)] [(.int x)])) _
    refine XS.iloadN X0.here hx rfl (hb hby dMx_1) rfl ?_
    exact Steps.refl _
  by_cases hc : x < y
  · have c2 : Steps p.tables e below S0 (s₁.setTop (mkF m 9 #[.val (.int x), .val (.int y)] [])) := by
      refine c1.trans ?_
      show Steps p.tables e below (s₁.setTop (mkF m 2 #[.val (.int x), .val (.int y)] [(.int y), (.int x)])) _
      refine XS.icmpYes X0.here hx rfl (pc0 := 2) (pc' := 9) rfl (hb hby dMx_2) rfl (tlt hc).1 (by decide) (by decide) ?_
      exact Steps.refl _
    have c3 : Steps p.tables e below S0 (s₁.setTop (mkF m 10 #[.val (.int x), .val (.int y)] [(.int y)])) := by
      refine c2.trans ?_
      show Steps p.tables e below (s₁.setTop (mkF m 9 #[.val (.int x), .val (.int y)] [])) _
      refine XS.iloadN X0.here hx rfl (hb hby dMx_9) rfl ?_
      exact Steps.refl _
    obtain ⟨fs, hr, hrun, hended, hW, hsame⟩ := X0.leave (v := some (.int y)) (fun h => by rw [Bd.returns] at h; cases h)
    refine ⟨_, _, c3.trans ?_, hrun, hended, _, _, rfl, ?_, ⟨_, rfl⟩, hW, hsame.mono (by decide) (by decide)⟩
    · show Steps p.tables e below (s₁.setTop (mkF m 10 #[.val (.int x), .val (.int y)] [(.int y)])) _
      exact retI X0 hx Bd.returns (hb hby dMx_10) hr
    · show QMx Z x y h0 n0 _ s₁.heap _
      rw [e0]
      exact ⟨by rw [if_pos hc], N0, rfl⟩
  · have c4 : Steps p.tables e below S0 (s₁.setTop (mkF m 10 #[.val (.int x), .val (.int y)] [(.int x)])) := by
      refine c1.trans ?_
      show Steps p.tables e below (s₁.setTop (mkF m 2 #[.val (.int x), .val (.int y)] [(.int y), (.int x)])) _
      refine XS.icmpNo X0.here hx rfl (hb hby dMx_2) rfl (flt hc).1 ?_
      show Steps p.tables e below (s₁.setTop (mkF m 5 #[.val (.int x), .val (.int y)] [])) _
      refine XS.iloadN X0.here hx rfl (hb hby dMx_5) rfl ?_
      show Steps p.tables e below (s₁.setTop (mkF m 6 #[.val (.int x), .val (.int y)] [(.int x)])) _
      refine XS.goto X0.here hx rfl (pc0 := 6) (pc' := 10) rfl (hb hby dMx_6) (by decide) (by decide) ?_
      exact Steps.refl _
    obtain ⟨fs, hr, hrun, hended, hW, hsame⟩ := X0.leave (v := some (.int x)) (fun h => by rw [Bd.returns] at h; cases h)
    refine ⟨_, _, c4.trans ?_, hrun, hended, _, _, rfl, ?_, ⟨_, rfl⟩, hW, hsame.mono (by decide) (by decide)⟩
    · show Steps p.tables e below (s₁.setTop (mkF m 10 #[.val (.int x), .val (.int y)] [(.int x)])) _
      exact retI X0 hx Bd.returns (hb hby dMx_10) hr
    · show QMx Z x y h0 n0 _ s₁.heap _
      rw [e0]
      exact ⟨by rw [if_neg hc], N0, rfl⟩
def QGb (Z : State) (a : Addr) (ta : Addr) (ds : List Int32) (t : Addr) (kt : ClassId) (cap : Nat) (cs : List Int32) (G1 : Int32) (h0 : Heap) (n0 : Nat) (v : Option Value) (h : Heap) (L : List Loc) : Prop := v = none ∧ Fr n0 L ∧ Keep h0 h [t] ∧ Arv Z h t kt .byte (Int32.ofNat cap) (own_by (cs ++ ds)) (.int 0)
theorem efGb (m : MethodId) (a : Addr) (t : Addr) (cs : List Int32) : entryFrame m #[(.ref a), (.ref t), (.int (Int32.ofNat cs.length)), (.int (0 : Int32))] 4 = mkF m 0 #[.val (.ref a), .val (.ref t), .val (.int (Int32.ofNat cs.length)), .val (.int (0 : Int32))] [] := by first | (simp [entryFrame, mkF, argsToLocals, Value.category, List.replicate]; done) | rfl
set_option maxRecDepth 65536 in
set_option maxHeartbeats 40000000 in
theorem rmGb (l : Launch) (Z : State) (a0 : Array Value) (hw : ∀ d ∈ tables_1, d.before a0 Z = true) (ws : List Jvm.Cond) (a : Addr) (ta : Addr) (ds : List Int32) (t : Addr) (kt : ClassId) (cap : Nat) (cs : List Int32) (G1 : Int32) (h0 : Heap) (n0 : Nat) (Z0 : n0 ≤ h0.size) (O2 : Sta Z Z.heap "java/lang/String" "COMPACT_STRINGS" "Z" (.int G1)) (P5 : ¬ G1 = 0) (X00 : Old Z n0 h0) (S : own_Str Z h0 a ta ds) (hl : ds.length ≤ 500) (Vt : Arv Z h0 t kt .byte (Int32.ofNat cap) (own_by cs) (.int 0)) (hc : cs.length + ds.length ≤ cap) (hcap : cap ≤ 1000) (gt : n0 ≤ t) :
    MetFree l (⟨"java/lang/String", "getBytes", "([BIB)V"⟩ : MethodName) (head1 (Jvm.Cond.code (⟨"java/lang/String", "getBytes", "([BIB)V"⟩ : MethodName) jdk_42_method_147_code 4 none :: ws) ({ frames := 1, cells := 0, slots := 0, locals := 40 } : Room)) (fun aa UU => aa = #[(.ref a), (.ref t), (.int (Int32.ofNat cs.length)), (.int (0 : Int32))] ∧ Z.Warmed39 UU.vm ∧ UU.heap = h0) (fun _ _ _ _ _ => True) (fun _ UU oo UT => ∃ vv LL, oo = .returned vv ∧ QGb Z a ta ds t kt cap cs G1 h0 n0 vv UT.heap LL ∧ FrameEnd UU oo UT LL ({ frames := 1, cells := 0, slots := 0, locals := 40 } : Room).cells ({ frames := 1, cells := 0, slots := 0, locals := 40 } : Room).slots) := by
  refine MetFree.of_bodySF (by decide +kernel) hisR ?_
  intro p e s m args below meth c s₁ Bd hml0 hP hK
  obtain ⟨rfl, hZ, hh⟩ := hP
  have hx := Bd.exec
  have hby := Bd.bytes
  have hml : c.maxLocals = 4 := hml0
  have hown : s.vm.findClass "java/lang/String" = some m.cls := findClass_of_methodNamed Bd.named
  have hnm := (name_of_methodNamed Bd.named Bd.method).1
  have X0 : Stand p l e ({ frames := 1, cells := 0, slots := 0, locals := 40 } : Room) s m #[(.ref a), (.ref t), (.int (Int32.ofNat cs.length)), (.int (0 : Int32))] below meth c s₁ [] 0 0 := Stand.of_body Bd
  have e0 : s₁.heap = h0 := by rw [← hh, Bd.state]; rfl
  have N0 := Fr.nil n0
  have c0 : Steps p.tables e below (s₁.setTop (entryFrame m #[(.ref a), (.ref t), (.int (Int32.ofNat cs.length)), (.int (0 : Int32))] 4)) (s₁.setTop (mkF m 0 #[.val (.ref a), .val (.ref t), .val (.int (Int32.ofNat cs.length)), .val (.int (0 : Int32))] [])) := castTop (efGb m a t cs) (Steps.refl _)
  show ∃ s₂ oo, Steps p.tables e below (s₁.setTop (entryFrame m #[(.ref a), (.ref t), (.int (Int32.ofNat cs.length)), (.int (0 : Int32))] 4)) s₂ ∧ _ ∧ _ ∧ _
  generalize s₁.setTop (entryFrame m #[(.ref a), (.ref t), (.int (Int32.ofNat cs.length)), (.int (0 : Int32))] 4) = S0 at c0 ⊢
  obtain ⟨Ea, Fc, Fv, ⟨ka, Va⟩, -⟩ := id S
  obtain ⟨cl, Ar, -, Sz, Mz, -, -⟩ := id Va
  have c1 : Steps p.tables e below S0 (s₁.setTop (mkF m 1 #[.val (.ref a), .val (.ref t), .val (.int (Int32.ofNat cs.length)), .val (.int (0 : Int32))] [(.ref a)])) := by
    refine c0.trans ?_
    show Steps p.tables e below (s₁.setTop (mkF m 0 #[.val (.ref a), .val (.ref t), .val (.int (Int32.ofNat cs.length)), .val (.int (0 : Int32))] [])) _
    refine XS.aloadN X0.here hx rfl (hb hby dGb_0) rfl rfl ?_
    exact Steps.refl _
  obtain ⟨cq2, kq2, q2a, q2b, q2c⟩ := isOf hZ e0 Ea
  obtain ⟨_, _, ⟨T2, L2, k2, n2⟩, -, X2, ⟨Lc2, hQ2, l2, y2, z2⟩, st2⟩ := X0.virtualBack hx (y := (⟨"java/lang/String", "coder", "()B"⟩ : MethodName)) (z := (⟨"java/lang/String", "coder", "()B"⟩ : MethodName)) hown (mvT hZ (hw _ (List.mem_of_getElem? (i := 92) rfl))) (mvT hZ (hw _ (List.mem_of_getElem? (i := 93) rfl))) (notFace_of_selects (args := #[]) (mvT hZ (hw _ (List.mem_of_getElem? (i := 95) rfl)))) (mvT hZ (hw _ (List.mem_of_getElem? (i := 95) rfl))) (mvT hZ (hw _ (List.mem_of_getElem? (i := 94) rfl))) (by decide) (backOf (W := 0) (rmCo l Z a0 hw [] a G1 h0 n0 Z0 O2 P5 X00 Fc) hZ (hw _ (List.mem_of_getElem? (i := 96) rfl)) (hw _ (List.mem_of_getElem? (i := 6) rfl)) (by decide) (by decide)) q2a q2c (g := (mkF m 1 #[.val (.ref a), .val (.ref t), .val (.int (Int32.ofNat cs.length)), .val (.int (0 : Int32))] [(.ref a)])) rfl (by rw [hml]; rfl) (Steps.refl _) (argsL := []) (rest := []) (lenOf pd0 rfl) rfl (by show 2 * 0 + _ ≤ _; exact Nat.le_of_eq rfl) (hb hby dGb_1) (fun _ _ => ⟨rfl, e0, (by decide : 0 + 0 ≤ _), (by decide : 0 + 0 ≤ _)⟩)
  dsimp only [Pt.U, Pt.locs, Pt.cells, Pt.slots] at X2 l2 y2 z2 st2 hQ2
  subst l2 y2 z2
  obtain ⟨rfl, N1, e1⟩ := hQ2
  have c2 : Steps p.tables e below S0 (T2.setTop (mkF m 4 #[.val (.ref a), .val (.ref t), .val (.int (Int32.ofNat cs.length)), .val (.int (0 : Int32))] [(.int (0 : Int32))])) := by
    refine c1.trans ?_
    show Steps p.tables e below (s₁.setTop (mkF m 1 #[.val (.ref a), .val (.ref t), .val (.int (Int32.ofNat cs.length)), .val (.int (0 : Int32))] [(.ref a)])) _
    refine st2.trans ?_
    exact Steps.refl _
  have c3 : Steps p.tables e below S0 (T2.setTop (mkF m 8 #[.val (.ref a), .val (.ref t), .val (.int (Int32.ofNat cs.length)), .val (.int (0 : Int32))] [])) := by
    refine c2.trans ?_
    show Steps p.tables e below (T2.setTop (mkF m 4 #[.val (.ref a), .val (.ref t), .val (.int (Int32.ofNat cs.length)), .val (.int (0 : Int32))] [(.int (0 : Int32))])) _
    refine XS.iloadN X2.here hx rfl (hb hby dGb_4) rfl ?_
    show Steps p.tables e below (T2.setTop (mkF m 5 #[.val (.ref a), .val (.ref t), .val (.int (Int32.ofNat cs.length)), .val (.int (0 : Int32))] [(.int (0 : Int32)), (.int (0 : Int32))])) _
    refine XS.icmpNo X2.here hx rfl (hb hby dGb_5) rfl (teq rfl).2 ?_
    exact Steps.refl _
  have c4 : Steps p.tables e below S0 (T2.setTop (mkF m 9 #[.val (.ref a), .val (.ref t), .val (.int (Int32.ofNat cs.length)), .val (.int (0 : Int32))] [(.ref a)])) := by
    refine c3.trans ?_
    show Steps p.tables e below (T2.setTop (mkF m 8 #[.val (.ref a), .val (.ref t), .val (.int (Int32.ofNat cs.length)), .val (.int (0 : Int32))] [])) _
    refine XS.aloadN X2.here hx rfl (hb hby dGb_8) rfl rfl ?_
    exact Steps.refl _
  obtain ⟨T5, X5, e5, st5⟩ := getF X2 hx hZ hown (host := "") (Or.inl (hw _ (List.mem_of_getElem? (i := 32) rfl))) Via.refl e1 Fv (g := (mkF m 9 #[.val (.ref a), .val (.ref t), .val (.int (Int32.ofNat cs.length)), .val (.int (0 : Int32))] [(.ref a)])) rfl rfl (hb hby dGb_9)
  have c5 : Steps p.tables e below S0 (T5.setTop (mkF m 12 #[.val (.ref a), .val (.ref t), .val (.int (Int32.ofNat cs.length)), .val (.int (0 : Int32))] [(.ref ta)])) := by
    refine c4.trans ?_
    show Steps p.tables e below (T2.setTop (mkF m 9 #[.val (.ref a), .val (.ref t), .val (.int (Int32.ofNat cs.length)), .val (.int (0 : Int32))] [(.ref a)])) _
    refine st5 _ ?_
    exact Steps.refl _
  have c6 : Steps p.tables e below S0 (T5.setTop (mkF m 17 #[.val (.ref a), .val (.ref t), .val (.int (Int32.ofNat cs.length)), .val (.int (0 : Int32))] [(.int ((Int32.ofNat cs.length) <<< ((0 : Int32) &&& 31))), (.ref t), (.int (0 : Int32)), (.ref ta)])) := by
    refine c5.trans ?_
    show Steps p.tables e below (T5.setTop (mkF m 12 #[.val (.ref a), .val (.ref t), .val (.int (Int32.ofNat cs.length)), .val (.int (0 : Int32))] [(.ref ta)])) _
    refine XS.iconst X5.here hx rfl (hb hby dGb_12) ?_
    show Steps p.tables e below (T5.setTop (mkF m 13 #[.val (.ref a), .val (.ref t), .val (.int (Int32.ofNat cs.length)), .val (.int (0 : Int32))] [(.int (0 : Int32)), (.ref ta)])) _
    refine XS.aloadN X5.here hx rfl (hb hby dGb_13) rfl rfl ?_
    show Steps p.tables e below (T5.setTop (mkF m 14 #[.val (.ref a), .val (.ref t), .val (.int (Int32.ofNat cs.length)), .val (.int (0 : Int32))] [(.ref t), (.int (0 : Int32)), (.ref ta)])) _
    refine XS.iloadN X5.here hx rfl (hb hby dGb_14) rfl ?_
    show Steps p.tables e below (T5.setTop (mkF m 15 #[.val (.ref a), .val (.ref t), .val (.int (Int32.ofNat cs.length)), .val (.int (0 : Int32))] [(.int (Int32.ofNat cs.length)), (.ref t), (.int (0 : Int32)), (.ref ta)])) _
    refine XS.iloadN X5.here hx rfl (hb hby dGb_15) rfl ?_
    show Steps p.tables e below (T5.setTop (mkF m 16 #[.val (.ref a), .val (.ref t), .val (.int (Int32.ofNat cs.length)), .val (.int (0 : Int32))] [(.int (0 : Int32)), (.int (Int32.ofNat cs.length)), (.ref t), (.int (0 : Int32)), (.ref ta)])) _
    refine XS.ishl X5.here hx rfl (hb hby dGb_16) rfl ?_
    exact Steps.refl _
  rw [own_shl0] at c6
  have c7 : Steps p.tables e below S0 (T5.setTop (mkF m 18 #[.val (.ref a), .val (.ref t), .val (.int (Int32.ofNat cs.length)), .val (.int (0 : Int32))] [(.ref a), (.int (Int32.ofNat cs.length)), (.ref t), (.int (0 : Int32)), (.ref ta)])) := by
    refine c6.trans ?_
    show Steps p.tables e below (T5.setTop (mkF m 17 #[.val (.ref a), .val (.ref t), .val (.int (Int32.ofNat cs.length)), .val (.int (0 : Int32))] [(.int (Int32.ofNat cs.length)), (.ref t), (.int (0 : Int32)), (.ref ta)])) _
    refine XS.aloadN X5.here hx rfl (hb hby dGb_17) rfl rfl ?_
    exact Steps.refl _
  obtain ⟨T8, X8, e8, st8⟩ := getF X5 hx hZ hown (host := "") (Or.inl (hw _ (List.mem_of_getElem? (i := 32) rfl))) Via.refl e5 Fv (g := (mkF m 18 #[.val (.ref a), .val (.ref t), .val (.int (Int32.ofNat cs.length)), .val (.int (0 : Int32))] [(.ref a), (.int (Int32.ofNat cs.length)), (.ref t), (.int (0 : Int32)), (.ref ta)])) rfl rfl (hb hby dGb_18)
  have c8 : Steps p.tables e below S0 (T8.setTop (mkF m 21 #[.val (.ref a), .val (.ref t), .val (.int (Int32.ofNat cs.length)), .val (.int (0 : Int32))] [(.ref ta), (.int (Int32.ofNat cs.length)), (.ref t), (.int (0 : Int32)), (.ref ta)])) := by
    refine c7.trans ?_
    show Steps p.tables e below (T5.setTop (mkF m 18 #[.val (.ref a), .val (.ref t), .val (.int (Int32.ofNat cs.length)), .val (.int (0 : Int32))] [(.ref a), (.int (Int32.ofNat cs.length)), (.ref t), (.int (0 : Int32)), (.ref ta)])) _
    refine st8 _ ?_
    exact Steps.refl _
  have c9 : Steps p.tables e below S0 (T8.setTop (mkF m 22 #[.val (.ref a), .val (.ref t), .val (.int (Int32.ofNat cs.length)), .val (.int (0 : Int32))] [(.int (Int32.ofNat ds.length)), (.int (Int32.ofNat cs.length)), (.ref t), (.int (0 : Int32)), (.ref ta)])) := by
    refine c8.trans ?_
    show Steps p.tables e below (T8.setTop (mkF m 21 #[.val (.ref a), .val (.ref t), .val (.int (Int32.ofNat cs.length)), .val (.int (0 : Int32))] [(.ref ta), (.int (Int32.ofNat cs.length)), (.ref t), (.int (0 : Int32)), (.ref ta)])) _
    refine X8.arraylength hx (by rw [e8]; exact Ar.1) (State.isArrayOf_alike hZ.alike Ar.2.1) (g := (mkF m 21 #[.val (.ref a), .val (.ref t), .val (.int (Int32.ofNat cs.length)), .val (.int (0 : Int32))] [(.ref ta), (.int (Int32.ofNat cs.length)), (.ref t), (.int (0 : Int32)), (.ref ta)])) rfl rfl (hb hby dGb_21) _ ?_
    rw [len_of Sz Mz]
    exact Steps.refl _
  have Vp : Arv Z h0 t kt .byte (Int32.ofNat cap) (own_by cs ++ List.replicate ds.length (.int 0)) (.int 0) := Vt.pad (pad_rep (own_by cs) (.int 0) ds.length)
  have z0 : (0 : Int32).toNatClampNeg = 0 := rfl
  have zc := own_nat (n := cs.length) (by omega)
  have zd := own_nat (n := ds.length) (by omega)
  have zp := own_nat (n := cap) (by omega)
  obtain ⟨T10, h10, L10, X10, e10, N10, K10, V10, st10⟩ := cpA X8 hx hZ hown (hw _ (List.mem_of_getElem? (i := 120) rfl)) (hw _ (List.mem_of_getElem? (i := 123) rfl)) (hw _ (List.mem_of_getElem? (i := 121) rfl)) (hw _ (List.mem_of_getElem? (i := 122) rfl)) e8 (us := own_by ds) Va Vp (Or.inl ⟨rfl, rfl⟩) (by decide) (own_nn (by omega)) (own_nn (by omega)) (by rw [z0, zd]; omega) (by rw [zc, zd, zp]; exact hc) (by rw [z0, zd, ← own_bylen ds]; exact (own_rangeget _ _).symm) (by rw [zc, zd]; simp) (Fr.app N0 N1) gt (g := (mkF m 22 #[.val (.ref a), .val (.ref t), .val (.int (Int32.ofNat cs.length)), .val (.int (0 : Int32))] [(.int (Int32.ofNat ds.length)), (.int (Int32.ofNat cs.length)), (.ref t), (.int (0 : Int32)), (.ref ta)])) rfl (by rw [hml]; rfl) rfl (hb hby dGb_22) (by decide) (W := 0) (by show 2 * 0 + _ ≤ _; exact Nat.le_of_eq rfl) (by decide)
  have c10 : Steps p.tables e below S0 (T10.setTop (mkF m 25 #[.val (.ref a), .val (.ref t), .val (.int (Int32.ofNat cs.length)), .val (.int (0 : Int32))] [])) := by
    refine c9.trans ?_
    show Steps p.tables e below (T8.setTop (mkF m 22 #[.val (.ref a), .val (.ref t), .val (.int (Int32.ofNat cs.length)), .val (.int (0 : Int32))] [(.int (Int32.ofNat ds.length)), (.int (Int32.ofNat cs.length)), (.ref t), (.int (0 : Int32)), (.ref ta)])) _
    refine st10 _ ?_
    exact Steps.refl _
  have Vf : Arv Z h10 t kt .byte (Int32.ofNat cap) (own_by (cs ++ ds)) (.int 0) := by
    have := V10
    rw [zc, zd, List.take_left' (own_bylen cs), List.drop_of_length_le (by simp), List.append_nil, ← own_byapp] at this
    exact this
  have c11 : Steps p.tables e below S0 (T10.setTop (mkF m 43 #[.val (.ref a), .val (.ref t), .val (.int (Int32.ofNat cs.length)), .val (.int (0 : Int32))] [])) := by
    refine c10.trans ?_
    show Steps p.tables e below (T10.setTop (mkF m 25 #[.val (.ref a), .val (.ref t), .val (.int (Int32.ofNat cs.length)), .val (.int (0 : Int32))] [])) _
    refine XS.goto X10.here hx rfl (pc0 := 25) (pc' := 43) rfl (hb hby dGb_25) (by decide) (by decide) ?_
    exact Steps.refl _
  obtain ⟨fs, hr, hrun, hended, hW, hsame⟩ := X10.leave (v := none) (fun _ => rfl)
  refine ⟨_, _, c11.trans ?_, hrun, hended, _, _, rfl, ?_, ⟨_, rfl⟩, hW, hsame.mono (by decide) (by decide)⟩
  · show Steps p.tables e below (T10.setTop (mkF m 43 #[.val (.ref a), .val (.ref t), .val (.int (Int32.ofNat cs.length)), .val (.int (0 : Int32))] [])) _
    exact X10.returnOut hx Bd.returns (hb hby dGb_43) hr
  · show QGb Z a ta ds t kt cap cs G1 h0 n0 _ T10.heap _
    rw [e10]
    exact ⟨rfl, N10, K10, Vf⟩
def QIf (Z : State) (a : Addr) (ta : Addr) (ds : List Int32) (b : Addr) (G1 : Int32) (h0 : Heap) (n0 : Nat) (v : Option Value) (h : Heap) (L : List Loc) : Prop := v = none ∧ Fr n0 L ∧ h = h0
theorem efIf (m : MethodId) (b : Addr) (a : Addr) : entryFrame m #[(.ref b), (.ref a)] 2 = mkF m 0 #[.val (.ref b), .val (.ref a)] [] := by first | (simp [entryFrame, mkF, argsToLocals, Value.category, List.replicate]; done) | rfl
set_option maxRecDepth 65536 in
set_option maxHeartbeats 40000000 in
theorem rmIf (l : Launch) (Z : State) (a0 : Array Value) (hw : ∀ d ∈ tables_1, d.before a0 Z = true) (ws : List Jvm.Cond) (a : Addr) (ta : Addr) (ds : List Int32) (b : Addr) (G1 : Int32) (h0 : Heap) (n0 : Nat) (Z0 : n0 ≤ h0.size) (O2 : Sta Z Z.heap "java/lang/String" "COMPACT_STRINGS" "Z" (.int G1)) (P5 : ¬ G1 = 0) (X00 : Old Z n0 h0) (S : own_Str Z h0 a ta ds) (hl : ds.length ≤ 500) (Fb : Fld Z h0 b "java/lang/AbstractStringBuilder" "coder" "B" (.int 0)) :
    MetFree l (⟨"java/lang/AbstractStringBuilder", "inflateIfNeededFor", "(Ljava/lang/String;)V"⟩ : MethodName) (head1 (Jvm.Cond.code (⟨"java/lang/AbstractStringBuilder", "inflateIfNeededFor", "(Ljava/lang/String;)V"⟩ : MethodName) jdk_68_method_71_code 2 none :: ws) ({ frames := 1, cells := 0, slots := 0, locals := 14 } : Room)) (fun aa UU => aa = #[(.ref b), (.ref a)] ∧ Z.Warmed39 UU.vm ∧ UU.heap = h0) (fun _ _ _ _ _ => True) (fun _ UU oo UT => ∃ vv LL, oo = .returned vv ∧ QIf Z a ta ds b G1 h0 n0 vv UT.heap LL ∧ FrameEnd UU oo UT LL ({ frames := 1, cells := 0, slots := 0, locals := 14 } : Room).cells ({ frames := 1, cells := 0, slots := 0, locals := 14 } : Room).slots) := by
  refine MetFree.of_bodySF (by decide +kernel) hisR ?_
  intro p e s m args below meth c s₁ Bd hml0 hP hK
  obtain ⟨rfl, hZ, hh⟩ := hP
  have hx := Bd.exec
  have hby := Bd.bytes
  have hml : c.maxLocals = 2 := hml0
  have hown : s.vm.findClass "java/lang/AbstractStringBuilder" = some m.cls := findClass_of_methodNamed Bd.named
  have hnm := (name_of_methodNamed Bd.named Bd.method).1
  have X0 : Stand p l e ({ frames := 1, cells := 0, slots := 0, locals := 14 } : Room) s m #[(.ref b), (.ref a)] below meth c s₁ [] 0 0 := Stand.of_body Bd
  have e0 : s₁.heap = h0 := by rw [← hh, Bd.state]; rfl
  have N0 := Fr.nil n0
  have c0 : Steps p.tables e below (s₁.setTop (entryFrame m #[(.ref b), (.ref a)] 2)) (s₁.setTop (mkF m 0 #[.val (.ref b), .val (.ref a)] [])) := castTop (efIf m b a) (Steps.refl _)
  show ∃ s₂ oo, Steps p.tables e below (s₁.setTop (entryFrame m #[(.ref b), (.ref a)] 2)) s₂ ∧ _ ∧ _ ∧ _
  generalize s₁.setTop (entryFrame m #[(.ref b), (.ref a)] 2) = S0 at c0 ⊢
  obtain ⟨T1, X1, e1, st1⟩ := getS X0 hx hZ hown (host := "") (hw _ (List.mem_of_getElem? (i := 71) rfl)) Via.refl e0 (O2.ext X00.2) (g := (mkF m 0 #[.val (.ref b), .val (.ref a)] [])) rfl (hb hby dIf_0)
  have c1 : Steps p.tables e below S0 (T1.setTop (mkF m 3 #[.val (.ref b), .val (.ref a)] [(.int G1)])) := by
    refine c0.trans ?_
    show Steps p.tables e below (s₁.setTop (mkF m 0 #[.val (.ref b), .val (.ref a)] [])) _
    refine st1 _ ?_
    exact Steps.refl _
  have c2 : Steps p.tables e below S0 (T1.setTop (mkF m 6 #[.val (.ref b), .val (.ref a)] [])) := by
    refine c1.trans ?_
    show Steps p.tables e below (T1.setTop (mkF m 3 #[.val (.ref b), .val (.ref a)] [(.int G1)])) _
    refine XS.ifNo X1.here hx rfl (hb hby dIf_3) rfl ((if0 _ _).trans (feq P5).1) ?_
    exact Steps.refl _
  have c3 : Steps p.tables e below S0 (T1.setTop (mkF m 7 #[.val (.ref b), .val (.ref a)] [(.ref b)])) := by
    refine c2.trans ?_
    show Steps p.tables e below (T1.setTop (mkF m 6 #[.val (.ref b), .val (.ref a)] [])) _
    refine XS.aloadN X1.here hx rfl (hb hby dIf_6) rfl rfl ?_
    exact Steps.refl _
  obtain ⟨T4, X4, e4, st4⟩ := getF X1 hx hZ hown (host := "") (Or.inl (hw _ (List.mem_of_getElem? (i := 74) rfl))) Via.refl e1 Fb (g := (mkF m 7 #[.val (.ref b), .val (.ref a)] [(.ref b)])) rfl rfl (hb hby dIf_7)
  have c4 : Steps p.tables e below S0 (T4.setTop (mkF m 10 #[.val (.ref b), .val (.ref a)] [(.int (0 : Int32))])) := by
    refine c3.trans ?_
    show Steps p.tables e below (T1.setTop (mkF m 7 #[.val (.ref b), .val (.ref a)] [(.ref b)])) _
    refine st4 _ ?_
    exact Steps.refl _
  have c5 : Steps p.tables e below S0 (T4.setTop (mkF m 11 #[.val (.ref b), .val (.ref a)] [(.ref a), (.int (0 : Int32))])) := by
    refine c4.trans ?_
    show Steps p.tables e below (T4.setTop (mkF m 10 #[.val (.ref b), .val (.ref a)] [(.int (0 : Int32))])) _
    refine XS.aloadN X4.here hx rfl (hb hby dIf_10) rfl rfl ?_
    exact Steps.refl _
  obtain ⟨cq6, kq6, q6a, q6b, q6c⟩ := isOf hZ e4 S.1
  obtain ⟨_, _, ⟨T6, L6, k6, n6⟩, -, X6, ⟨Lc6, hQ6, l6, y6, z6⟩, st6⟩ := X4.virtualBack hx (y := (⟨"java/lang/String", "coder", "()B"⟩ : MethodName)) (z := (⟨"java/lang/String", "coder", "()B"⟩ : MethodName)) hown (mvT hZ (hw _ (List.mem_of_getElem? (i := 114) rfl))) (mvT hZ (hw _ (List.mem_of_getElem? (i := 93) rfl))) (notFace_of_selects (args := #[]) (mvT hZ (hw _ (List.mem_of_getElem? (i := 95) rfl)))) (mvT hZ (hw _ (List.mem_of_getElem? (i := 95) rfl))) (mvT hZ (hw _ (List.mem_of_getElem? (i := 94) rfl))) (by decide) (backOf (W := 1) (rmCo l Z a0 hw [] a G1 h0 n0 Z0 O2 P5 X00 S.2.1) hZ (hw _ (List.mem_of_getElem? (i := 96) rfl)) (hw _ (List.mem_of_getElem? (i := 6) rfl)) (by decide) (by decide)) q6a q6c (g := (mkF m 11 #[.val (.ref b), .val (.ref a)] [(.ref a), (.int (0 : Int32))])) rfl (by rw [hml]; rfl) (Steps.refl _) (argsL := []) (rest := [(.int (0 : Int32))]) (lenOf pd0 rfl) rfl (by show 2 * 0 + _ ≤ _; exact Nat.le_of_eq rfl) (hb hby dIf_11) (fun _ _ => ⟨rfl, e4, (by decide : 0 + 0 ≤ _), (by decide : 0 + 0 ≤ _)⟩)
  dsimp only [Pt.U, Pt.locs, Pt.cells, Pt.slots] at X6 l6 y6 z6 st6 hQ6
  subst l6 y6 z6
  obtain ⟨rfl, N1, e1⟩ := hQ6
  have c6 : Steps p.tables e below S0 (T6.setTop (mkF m 14 #[.val (.ref b), .val (.ref a)] [(.int (0 : Int32)), (.int (0 : Int32))])) := by
    refine c5.trans ?_
    show Steps p.tables e below (T4.setTop (mkF m 11 #[.val (.ref b), .val (.ref a)] [(.ref a), (.int (0 : Int32))])) _
    refine st6.trans ?_
    exact Steps.refl _
  have c7 : Steps p.tables e below S0 (T6.setTop (mkF m 21 #[.val (.ref b), .val (.ref a)] [])) := by
    refine c6.trans ?_
    show Steps p.tables e below (T6.setTop (mkF m 14 #[.val (.ref b), .val (.ref a)] [(.int (0 : Int32)), (.int (0 : Int32))])) _
    refine XS.icmpYes X6.here hx rfl (pc0 := 14) (pc' := 21) rfl (hb hby dIf_14) rfl (teq rfl).1 (by decide) (by decide) ?_
    exact Steps.refl _
  obtain ⟨fs, hr, hrun, hended, hW, hsame⟩ := X6.leave (v := none) (fun _ => rfl)
  refine ⟨_, _, c7.trans ?_, hrun, hended, _, _, rfl, ?_, ⟨_, rfl⟩, hW, hsame.mono (by decide) (by decide)⟩
  · show Steps p.tables e below (T6.setTop (mkF m 21 #[.val (.ref b), .val (.ref a)] [])) _
    exact X6.returnOut hx Bd.returns (hb hby dIf_21) hr
  · show QIf Z a ta ds b G1 h0 n0 _ T6.heap _
    rw [e1]
    exact ⟨rfl, Fr.app N0 N1, rfl⟩
def QPs (Z : State) (a : Addr) (ta : Addr) (ds : List Int32) (b : Addr) (t : Addr) (cap : Nat) (cs : List Int32) (G1 : Int32) (h0 : Heap) (n0 : Nat) (v : Option Value) (h : Heap) (L : List Loc) : Prop := v = none ∧ Fr n0 L ∧ Keep h0 h [t] ∧ ∃ k, Arv Z h t k .byte (Int32.ofNat cap) (own_by (cs ++ ds)) (.int 0)
theorem efPs (m : MethodId) (b : Addr) (cs : List Int32) (a : Addr) : entryFrame m #[(.ref b), (.int (Int32.ofNat cs.length)), (.ref a)] 3 = mkF m 0 #[.val (.ref b), .val (.int (Int32.ofNat cs.length)), .val (.ref a)] [] := by first | (simp [entryFrame, mkF, argsToLocals, Value.category, List.replicate]; done) | rfl
set_option maxRecDepth 65536 in
set_option maxHeartbeats 40000000 in
theorem rmPs (l : Launch) (Z : State) (a0 : Array Value) (hw : ∀ d ∈ tables_1, d.before a0 Z = true) (ws : List Jvm.Cond) (a : Addr) (ta : Addr) (ds : List Int32) (b : Addr) (t : Addr) (cap : Nat) (cs : List Int32) (G1 : Int32) (h0 : Heap) (n0 : Nat) (Z0 : n0 ≤ h0.size) (O2 : Sta Z Z.heap "java/lang/String" "COMPACT_STRINGS" "Z" (.int G1)) (P5 : ¬ G1 = 0) (X00 : Old Z n0 h0) (S : own_Str Z h0 a ta ds) (hl : ds.length ≤ 500) (B : own_SB Z h0 b t cap cs) (hc : cs.length + ds.length ≤ cap) (gt : n0 ≤ t) :
    MetFree l (⟨"java/lang/AbstractStringBuilder", "putStringAt", "(ILjava/lang/String;)V"⟩ : MethodName) (head1 (Jvm.Cond.code (⟨"java/lang/AbstractStringBuilder", "putStringAt", "(ILjava/lang/String;)V"⟩ : MethodName) jdk_68_method_73_code 3 none :: ws) ({ frames := 2, cells := 0, slots := 0, locals := 60 } : Room)) (fun aa UU => aa = #[(.ref b), (.int (Int32.ofNat cs.length)), (.ref a)] ∧ Z.Warmed39 UU.vm ∧ UU.heap = h0) (fun _ _ _ _ _ => True) (fun _ UU oo UT => ∃ vv LL, oo = .returned vv ∧ QPs Z a ta ds b t cap cs G1 h0 n0 vv UT.heap LL ∧ FrameEnd UU oo UT LL ({ frames := 2, cells := 0, slots := 0, locals := 60 } : Room).cells ({ frames := 2, cells := 0, slots := 0, locals := 60 } : Room).slots) := by
  refine MetFree.of_bodySF (by decide +kernel) hisR ?_
  intro p e s m args below meth c s₁ Bd hml0 hP hK
  obtain ⟨rfl, hZ, hh⟩ := hP
  have hx := Bd.exec
  have hby := Bd.bytes
  have hml : c.maxLocals = 3 := hml0
  have hown : s.vm.findClass "java/lang/AbstractStringBuilder" = some m.cls := findClass_of_methodNamed Bd.named
  have hnm := (name_of_methodNamed Bd.named Bd.method).1
  have X0 : Stand p l e ({ frames := 2, cells := 0, slots := 0, locals := 60 } : Room) s m #[(.ref b), (.int (Int32.ofNat cs.length)), (.ref a)] below meth c s₁ [] 0 0 := Stand.of_body Bd
  have e0 : s₁.heap = h0 := by rw [← hh, Bd.state]; rfl
  have N0 := Fr.nil n0
  have c0 : Steps p.tables e below (s₁.setTop (entryFrame m #[(.ref b), (.int (Int32.ofNat cs.length)), (.ref a)] 3)) (s₁.setTop (mkF m 0 #[.val (.ref b), .val (.int (Int32.ofNat cs.length)), .val (.ref a)] [])) := castTop (efPs m b cs a) (Steps.refl _)
  show ∃ s₂ oo, Steps p.tables e below (s₁.setTop (entryFrame m #[(.ref b), (.int (Int32.ofNat cs.length)), (.ref a)] 3)) s₂ ∧ _ ∧ _ ∧ _
  generalize s₁.setTop (entryFrame m #[(.ref b), (.int (Int32.ofNat cs.length)), (.ref a)] 3) = S0 at c0 ⊢
  obtain ⟨Eb, Fco, Fcn, Fva, ⟨kt, Vt, Et⟩, -, -, hcap⟩ := id B
  have c1 : Steps p.tables e below S0 (s₁.setTop (mkF m 2 #[.val (.ref b), .val (.int (Int32.ofNat cs.length)), .val (.ref a)] [(.ref a), (.ref b)])) := by
    refine c0.trans ?_
    show Steps p.tables e below (s₁.setTop (mkF m 0 #[.val (.ref b), .val (.int (Int32.ofNat cs.length)), .val (.ref a)] [])) _
    refine XS.aloadN X0.here hx rfl (hb hby dPs_0) rfl rfl ?_
    show Steps p.tables e below (s₁.setTop (mkF m 1 #[.val (.ref b), .val (.int (Int32.ofNat cs.length)), .val (.ref a)] [(.ref b)])) _
    refine XS.aloadN X0.here hx rfl (hb hby dPs_1) rfl rfl ?_
    exact Steps.refl _
  obtain ⟨cq2, q2, q2'⟩ := (Eb).cell
  obtain ⟨_, _, ⟨T2, L2, k2, n2⟩, -, X2, ⟨Lc2, hQ2, l2, y2, z2⟩, st2⟩ := X0.privateBack hx (y := (⟨"java/lang/AbstractStringBuilder", "inflateIfNeededFor", "(Ljava/lang/String;)V"⟩ : MethodName)) hown (mvT hZ (hw _ (List.mem_of_getElem? (i := 109) rfl))) (mvT hZ (hw _ (List.mem_of_getElem? (i := 110) rfl))) (mvT hZ (own_selself (hw _ (List.mem_of_getElem? (i := 112) rfl)) (hw _ (List.mem_of_getElem? (i := 111) rfl)) (hw _ (List.mem_of_getElem? (i := 110) rfl)) (by decide))) (Cond.privateMethod_at (mvP hZ (hw _ (List.mem_of_getElem? (i := 111) rfl)) (args := #[]))) (mvT hZ (hw _ (List.mem_of_getElem? (i := 113) rfl))) (by decide) (backOf (W := 0) (rmIf l Z a0 hw [] a ta ds b G1 h0 n0 Z0 O2 P5 X00 S hl Fco) hZ (hw _ (List.mem_of_getElem? (i := 113) rfl)) (hw _ (List.mem_of_getElem? (i := 68) rfl)) (by decide) (by decide)) (g := (mkF m 2 #[.val (.ref b), .val (.int (Int32.ofNat cs.length)), .val (.ref a)] [(.ref a), (.ref b)])) rfl (by rw [hml]; rfl) (Steps.refl _) (a := b) (by rw [e0]; exact q2) q2' (argsL := [(.ref a)]) (rest := []) (lenOf pd1 rfl) rfl (by show 2 * 0 + _ ≤ _; exact Nat.le_of_eq rfl) (hb hby dPs_2) (fun _ _ => ⟨rfl, e0, (by decide : 0 + 0 ≤ _), (by decide : 0 + 0 ≤ _)⟩)
  dsimp only [Pt.U, Pt.locs, Pt.cells, Pt.slots] at X2 l2 y2 z2 st2 hQ2
  subst l2 y2 z2
  obtain ⟨rfl, N1, e1⟩ := hQ2
  have c2 : Steps p.tables e below S0 (T2.setTop (mkF m 5 #[.val (.ref b), .val (.int (Int32.ofNat cs.length)), .val (.ref a)] [])) := by
    refine c1.trans ?_
    show Steps p.tables e below (s₁.setTop (mkF m 2 #[.val (.ref b), .val (.int (Int32.ofNat cs.length)), .val (.ref a)] [(.ref a), (.ref b)])) _
    refine st2.trans ?_
    exact Steps.refl _
  have c3 : Steps p.tables e below S0 (T2.setTop (mkF m 7 #[.val (.ref b), .val (.int (Int32.ofNat cs.length)), .val (.ref a)] [(.ref b), (.ref a)])) := by
    refine c2.trans ?_
    show Steps p.tables e below (T2.setTop (mkF m 5 #[.val (.ref b), .val (.int (Int32.ofNat cs.length)), .val (.ref a)] [])) _
    refine XS.aloadN X2.here hx rfl (hb hby dPs_5) rfl rfl ?_
    show Steps p.tables e below (T2.setTop (mkF m 6 #[.val (.ref b), .val (.int (Int32.ofNat cs.length)), .val (.ref a)] [(.ref a)])) _
    refine XS.aloadN X2.here hx rfl (hb hby dPs_6) rfl rfl ?_
    exact Steps.refl _
  obtain ⟨T4, X4, e4, st4⟩ := getF X2 hx hZ hown (host := "") (Or.inl (hw _ (List.mem_of_getElem? (i := 72) rfl))) Via.refl e1 Fva (g := (mkF m 7 #[.val (.ref b), .val (.int (Int32.ofNat cs.length)), .val (.ref a)] [(.ref b), (.ref a)])) rfl rfl (hb hby dPs_7)
  have c4 : Steps p.tables e below S0 (T4.setTop (mkF m 10 #[.val (.ref b), .val (.int (Int32.ofNat cs.length)), .val (.ref a)] [(.ref t), (.ref a)])) := by
    refine c3.trans ?_
    show Steps p.tables e below (T2.setTop (mkF m 7 #[.val (.ref b), .val (.int (Int32.ofNat cs.length)), .val (.ref a)] [(.ref b), (.ref a)])) _
    refine st4 _ ?_
    exact Steps.refl _
  have c5 : Steps p.tables e below S0 (T4.setTop (mkF m 12 #[.val (.ref b), .val (.int (Int32.ofNat cs.length)), .val (.ref a)] [(.ref b), (.int (Int32.ofNat cs.length)), (.ref t), (.ref a)])) := by
    refine c4.trans ?_
    show Steps p.tables e below (T4.setTop (mkF m 10 #[.val (.ref b), .val (.int (Int32.ofNat cs.length)), .val (.ref a)] [(.ref t), (.ref a)])) _
    refine XS.iloadN X4.here hx rfl (hb hby dPs_10) rfl ?_
    show Steps p.tables e below (T4.setTop (mkF m 11 #[.val (.ref b), .val (.int (Int32.ofNat cs.length)), .val (.ref a)] [(.int (Int32.ofNat cs.length)), (.ref t), (.ref a)])) _
    refine XS.aloadN X4.here hx rfl (hb hby dPs_11) rfl rfl ?_
    exact Steps.refl _
  obtain ⟨T6, X6, e6, st6⟩ := getF X4 hx hZ hown (host := "") (Or.inl (hw _ (List.mem_of_getElem? (i := 74) rfl))) Via.refl e4 Fco (g := (mkF m 12 #[.val (.ref b), .val (.int (Int32.ofNat cs.length)), .val (.ref a)] [(.ref b), (.int (Int32.ofNat cs.length)), (.ref t), (.ref a)])) rfl rfl (hb hby dPs_12)
  have c6 : Steps p.tables e below S0 (T6.setTop (mkF m 15 #[.val (.ref b), .val (.int (Int32.ofNat cs.length)), .val (.ref a)] [(.int (0 : Int32)), (.int (Int32.ofNat cs.length)), (.ref t), (.ref a)])) := by
    refine c5.trans ?_
    show Steps p.tables e below (T4.setTop (mkF m 12 #[.val (.ref b), .val (.int (Int32.ofNat cs.length)), .val (.ref a)] [(.ref b), (.int (Int32.ofNat cs.length)), (.ref t), (.ref a)])) _
    refine st6 _ ?_
    exact Steps.refl _
  obtain ⟨cq7, kq7, q7a, q7b, q7c⟩ := isOf hZ e6 S.1
  obtain ⟨_, _, ⟨T7, L7, k7, n7⟩, -, X7, ⟨Lc7, hQ7, l7, y7, z7⟩, st7⟩ := X6.virtualBack hx (y := (⟨"java/lang/String", "getBytes", "([BIB)V"⟩ : MethodName)) (z := (⟨"java/lang/String", "getBytes", "([BIB)V"⟩ : MethodName)) hown (mvT hZ (hw _ (List.mem_of_getElem? (i := 115) rfl))) (mvT hZ (hw _ (List.mem_of_getElem? (i := 116) rfl))) (notFace_of_selects (args := #[]) (mvT hZ (hw _ (List.mem_of_getElem? (i := 118) rfl)))) (mvT hZ (hw _ (List.mem_of_getElem? (i := 118) rfl))) (mvT hZ (hw _ (List.mem_of_getElem? (i := 117) rfl))) (by decide) (backOf (W := 0) (rmGb l Z a0 hw [] a ta ds t kt cap cs G1 h0 n0 Z0 O2 P5 X00 S hl Vt hc hcap gt) hZ (hw _ (List.mem_of_getElem? (i := 119) rfl)) (hw _ (List.mem_of_getElem? (i := 6) rfl)) (by decide) (by decide)) q7a q7c (g := (mkF m 15 #[.val (.ref b), .val (.int (Int32.ofNat cs.length)), .val (.ref a)] [(.int (0 : Int32)), (.int (Int32.ofNat cs.length)), (.ref t), (.ref a)])) rfl (by rw [hml]; rfl) (Steps.refl _) (argsL := [(.ref t), (.int (Int32.ofNat cs.length)), (.int (0 : Int32))]) (rest := []) (lenOf pd2 rfl) rfl (by show 2 * 0 + _ ≤ _; exact Nat.le_of_eq rfl) (hb hby dPs_15) (fun _ _ => ⟨rfl, e6, (by decide : 0 + 0 ≤ _), (by decide : 0 + 0 ≤ _)⟩)
  dsimp only [Pt.U, Pt.locs, Pt.cells, Pt.slots] at X7 l7 y7 z7 st7 hQ7
  subst l7 y7 z7
  obtain ⟨rfl, N2, K2, V2⟩ := hQ7
  have c7 : Steps p.tables e below S0 (T7.setTop (mkF m 18 #[.val (.ref b), .val (.int (Int32.ofNat cs.length)), .val (.ref a)] [])) := by
    refine c6.trans ?_
    show Steps p.tables e below (T6.setTop (mkF m 15 #[.val (.ref b), .val (.int (Int32.ofNat cs.length)), .val (.ref a)] [(.int (0 : Int32)), (.int (Int32.ofNat cs.length)), (.ref t), (.ref a)])) _
    refine st7.trans ?_
    exact Steps.refl _
  obtain ⟨fs, hr, hrun, hended, hW, hsame⟩ := X7.leave (v := none) (fun _ => rfl)
  refine ⟨_, _, c7.trans ?_, hrun, hended, _, _, rfl, ?_, ⟨_, rfl⟩, hW, hsame.mono (by decide) (by decide)⟩
  · show Steps p.tables e below (T7.setTop (mkF m 18 #[.val (.ref b), .val (.int (Int32.ofNat cs.length)), .val (.ref a)] [])) _
    exact X7.returnOut hx Bd.returns (hb hby dPs_18) hr
  · show QPs Z a ta ds b t cap cs G1 h0 n0 _ T7.heap _
    exact ⟨rfl, Fr.app (Fr.app N0 N1) N2, K2, _, V2⟩
def QNl (Z : State) (x : Nat) (y : Nat) (z : Nat) (h0 : Heap) (n0 : Nat) (v : Option Value) (h : Heap) (L : List Loc) : Prop := (∃ r : Nat, v = some (.int (Int32.ofNat r)) ∧ x + y ≤ r ∧ r ≤ 210) ∧ Fr n0 L ∧ h = h0
theorem efNl (m : MethodId) (x : Nat) (y : Nat) (z : Nat) : entryFrame m #[(.int (Int32.ofNat x)), (.int (Int32.ofNat y)), (.int (Int32.ofNat z))] 4 = mkF m 0 #[.val (.int (Int32.ofNat x)), .val (.int (Int32.ofNat y)), .val (.int (Int32.ofNat z)), .unset] [] := by first | (simp [entryFrame, mkF, argsToLocals, Value.category, List.replicate]; done) | rfl
set_option maxRecDepth 65536 in
set_option maxHeartbeats 40000000 in
theorem rmNl (l : Launch) (Z : State) (a0 : Array Value) (hw : ∀ d ∈ tables_1, d.before a0 Z = true) (ws : List Jvm.Cond) (x : Nat) (y : Nat) (z : Nat) (h0 : Heap) (n0 : Nat) (Z0 : n0 ≤ h0.size) (hs : x + y ≤ 210) (hz : x + z ≤ 210) (hpos : 0 < x + y) :
    MetFree l (⟨"jdk/internal/util/ArraysSupport", "newLength", "(III)I"⟩ : MethodName) (head1 (Jvm.Cond.code (⟨"jdk/internal/util/ArraysSupport", "newLength", "(III)I"⟩ : MethodName) jdk_48_method_27_code 4 (some .int) :: ws) ({ frames := 1, cells := 0, slots := 0, locals := 14 } : Room)) (fun aa UU => aa = #[(.int (Int32.ofNat x)), (.int (Int32.ofNat y)), (.int (Int32.ofNat z))] ∧ Z.Warmed39 UU.vm ∧ UU.heap = h0) (fun _ _ _ _ _ => True) (fun _ UU oo UT => ∃ vv LL, oo = .returned vv ∧ QNl Z x y z h0 n0 vv UT.heap LL ∧ FrameEnd UU oo UT LL ({ frames := 1, cells := 0, slots := 0, locals := 14 } : Room).cells ({ frames := 1, cells := 0, slots := 0, locals := 14 } : Room).slots) := by
  refine MetFree.of_bodySF (by decide +kernel) hisR ?_
  intro p e s m args below meth c s₁ Bd hml0 hP hK
  obtain ⟨rfl, hZ, hh⟩ := hP
  have hx := Bd.exec
  have hby := Bd.bytes
  have hml : c.maxLocals = 4 := hml0
  have hown : s.vm.findClass "jdk/internal/util/ArraysSupport" = some m.cls := findClass_of_methodNamed Bd.named
  have hnm := (name_of_methodNamed Bd.named Bd.method).1
  have X0 : Stand p l e ({ frames := 1, cells := 0, slots := 0, locals := 14 } : Room) s m #[(.int (Int32.ofNat x)), (.int (Int32.ofNat y)), (.int (Int32.ofNat z))] below meth c s₁ [] 0 0 := Stand.of_body Bd
  have e0 : s₁.heap = h0 := by rw [← hh, Bd.state]; rfl
  have N0 := Fr.nil n0
  have c0 : Steps p.tables e below (s₁.setTop (entryFrame m #[(.int (Int32.ofNat x)), (.int (Int32.ofNat y)), (.int (Int32.ofNat z))] 4)) (s₁.setTop (mkF m 0 #[.val (.int (Int32.ofNat x)), .val (.int (Int32.ofNat y)), .val (.int (Int32.ofNat z)), .unset] [])) := castTop (efNl m x y z) (Steps.refl _)
  show ∃ s₂ oo, Steps p.tables e below (s₁.setTop (entryFrame m #[(.int (Int32.ofNat x)), (.int (Int32.ofNat y)), (.int (Int32.ofNat z))] 4)) s₂ ∧ _ ∧ _ ∧ _
  generalize s₁.setTop (entryFrame m #[(.int (Int32.ofNat x)), (.int (Int32.ofNat y)), (.int (Int32.ofNat z))] 4) = S0 at c0 ⊢
  have c1 : Steps p.tables e below S0 (s₁.setTop (mkF m 3 #[.val (.int (Int32.ofNat x)), .val (.int (Int32.ofNat y)), .val (.int (Int32.ofNat z)), .unset] [(.int (Int32.ofNat z)), (.int (Int32.ofNat y)), (.int (Int32.ofNat x))])) := by
    refine c0.trans ?_
    show Steps p.tables e below (s₁.setTop (mkF m 0 #[.val (.int (Int32.ofNat x)), .val (.int (Int32.ofNat y)), .val (.int (Int32.ofNat z)), .unset] [])) _
    refine XS.iloadN X0.here hx rfl (hb hby dNl_0) rfl ?_
    show Steps p.tables e below (s₁.setTop (mkF m 1 #[.val (.int (Int32.ofNat x)), .val (.int (Int32.ofNat y)), .val (.int (Int32.ofNat z)), .unset] [(.int (Int32.ofNat x))])) _
    refine XS.iloadN X0.here hx rfl (hb hby dNl_1) rfl ?_
    show Steps p.tables e below (s₁.setTop (mkF m 2 #[.val (.int (Int32.ofNat x)), .val (.int (Int32.ofNat y)), .val (.int (Int32.ofNat z)), .unset] [(.int (Int32.ofNat y)), (.int (Int32.ofNat x))])) _
    refine XS.iloadN X0.here hx rfl (hb hby dNl_2) rfl ?_
    exact Steps.refl _
  obtain ⟨_, _, ⟨T2, L2, k2, n2⟩, -, X2, ⟨Lc2, hQ2, l2, y2, z2⟩, st2⟩ := Jvm.LawKit.callS X0 hx (y := (⟨"java/lang/Math", "max", "(II)I"⟩ : MethodName)) hown (mvT hZ (hw _ (List.mem_of_getElem? (i := 215) rfl))) (mvT hZ (hw _ (List.mem_of_getElem? (i := 216) rfl))) (mvT hZ (hw _ (List.mem_of_getElem? (i := 167) rfl))) (mvT hZ (hw _ (List.mem_of_getElem? (i := 217) rfl))) (by decide) (backOf (W := 1) (rmMx l Z a0 hw [] (Int32.ofNat y) (Int32.ofNat z) h0 n0 Z0) hZ (hw _ (List.mem_of_getElem? (i := 217) rfl)) (hw _ (List.mem_of_getElem? (i := 167) rfl)) (by decide) (by decide)) (g := (mkF m 3 #[.val (.int (Int32.ofNat x)), .val (.int (Int32.ofNat y)), .val (.int (Int32.ofNat z)), .unset] [(.int (Int32.ofNat z)), (.int (Int32.ofNat y)), (.int (Int32.ofNat x))])) rfl (by rw [hml]; rfl) (argsL := [(.int (Int32.ofNat y)), (.int (Int32.ofNat z))]) (rest := [(.int (Int32.ofNat x))]) (lenOf pd3 rfl) rfl (by show 2 * 0 + _ ≤ _; exact Nat.le_of_eq rfl) (hb hby dNl_3) (fun _ _ => ⟨rfl, e0, (by decide : 0 + 0 ≤ _), (by decide : 0 + 0 ≤ _)⟩)
  dsimp only [Pt.U, Pt.locs, Pt.cells, Pt.slots] at X2 l2 y2 z2 st2 hQ2
  subst l2 y2 z2
  obtain ⟨rfl, N1, e1⟩ := hQ2
  have c2 : Steps p.tables e below S0 (T2.setTop (mkF m 6 #[.val (.int (Int32.ofNat x)), .val (.int (Int32.ofNat y)), .val (.int (Int32.ofNat z)), .unset] [(.int (if Int32.ofNat y < Int32.ofNat z then Int32.ofNat z else Int32.ofNat y)), (.int (Int32.ofNat x))])) := by
    refine c1.trans ?_
    show Steps p.tables e below (s₁.setTop (mkF m 3 #[.val (.int (Int32.ofNat x)), .val (.int (Int32.ofNat y)), .val (.int (Int32.ofNat z)), .unset] [(.int (Int32.ofNat z)), (.int (Int32.ofNat y)), (.int (Int32.ofNat x))])) _
    refine st2 _ ?_
    exact Steps.refl _
  obtain ⟨q, hq, hq1, hq2⟩ : ∃ q : Nat, (if Int32.ofNat y < Int32.ofNat z then Int32.ofNat z else Int32.ofNat y) = Int32.ofNat q ∧ y ≤ q ∧ x + q ≤ 210 := by
    by_cases hc : Int32.ofNat y < Int32.ofNat z
    · exact ⟨z, if_pos hc, Nat.le_of_lt ((own_ltn (by omega) (by omega)).mp hc), hz⟩
    · exact ⟨y, if_neg hc, Nat.le_refl _, hs⟩
  rw [hq] at c2
  have c3 : Steps p.tables e below S0 (T2.setTop (mkF m 7 #[.val (.int (Int32.ofNat x)), .val (.int (Int32.ofNat y)), .val (.int (Int32.ofNat z)), .unset] [(.int ((Int32.ofNat x) + (Int32.ofNat q)))])) := by
    refine c2.trans ?_
    show Steps p.tables e below (T2.setTop (mkF m 6 #[.val (.int (Int32.ofNat x)), .val (.int (Int32.ofNat y)), .val (.int (Int32.ofNat z)), .unset] [(.int (Int32.ofNat q)), (.int (Int32.ofNat x))])) _
    refine XS.iadd X2.here hx rfl (hb hby dNl_6) rfl ?_
    exact Steps.refl _
  rw [own_addn (by omega)] at c3
  have c4 : Steps p.tables e below S0 (T2.setTop (mkF m 20 #[.val (.int (Int32.ofNat x)), .val (.int (Int32.ofNat y)), .val (.int (Int32.ofNat z)), .val (.int (Int32.ofNat (x + q)))] [(.int (Int32.ofNat (x + q)))])) := by
    refine c3.trans ?_
    show Steps p.tables e below (T2.setTop (mkF m 7 #[.val (.int (Int32.ofNat x)), .val (.int (Int32.ofNat y)), .val (.int (Int32.ofNat z)), .unset] [(.int (Int32.ofNat (x + q)))])) _
    refine XS.istoreN X2.here hx rfl (hb hby dNl_7) rfl (l' := #[.val (.int (Int32.ofNat x)), .val (.int (Int32.ofNat y)), .val (.int (Int32.ofNat z)), .val (.int (Int32.ofNat (x + q)))]) rfl ?_
    show Steps p.tables e below (T2.setTop (mkF m 8 #[.val (.int (Int32.ofNat x)), .val (.int (Int32.ofNat y)), .val (.int (Int32.ofNat z)), .val (.int (Int32.ofNat (x + q)))] [])) _
    refine XS.iconst X2.here hx rfl (hb hby dNl_8) ?_
    show Steps p.tables e below (T2.setTop (mkF m 9 #[.val (.int (Int32.ofNat x)), .val (.int (Int32.ofNat y)), .val (.int (Int32.ofNat z)), .val (.int (Int32.ofNat (x + q)))] [(.int (0 : Int32))])) _
    refine XS.iloadN X2.here hx rfl (hb hby dNl_9) rfl ?_
    show Steps p.tables e below (T2.setTop (mkF m 10 #[.val (.int (Int32.ofNat x)), .val (.int (Int32.ofNat y)), .val (.int (Int32.ofNat z)), .val (.int (Int32.ofNat (x + q)))] [(.int (Int32.ofNat (x + q))), (.int (0 : Int32))])) _
    refine XS.icmpNo X2.here hx rfl (hb hby dNl_10) rfl (tlt ((own_ltn (a := 0) (by omega) (by omega)).mpr (by omega))).2.1 ?_
    show Steps p.tables e below (T2.setTop (mkF m 13 #[.val (.int (Int32.ofNat x)), .val (.int (Int32.ofNat y)), .val (.int (Int32.ofNat z)), .val (.int (Int32.ofNat (x + q)))] [])) _
    refine XS.iloadN X2.here hx rfl (hb hby dNl_13) rfl ?_
    show Steps p.tables e below (T2.setTop (mkF m 14 #[.val (.int (Int32.ofNat x)), .val (.int (Int32.ofNat y)), .val (.int (Int32.ofNat z)), .val (.int (Int32.ofNat (x + q)))] [(.int (Int32.ofNat (x + q)))])) _
    refine X2.ldcInt hx hown (mvT hZ (hw _ (List.mem_of_getElem? (i := 218) rfl))) (g := (mkF m 14 #[.val (.int (Int32.ofNat x)), .val (.int (Int32.ofNat y)), .val (.int (Int32.ofNat z)), .val (.int (Int32.ofNat (x + q)))] [(.int (Int32.ofNat (x + q)))])) rfl (hb hby dNl_14) _ ?_
    show Steps p.tables e below (T2.setTop (mkF m 16 #[.val (.int (Int32.ofNat x)), .val (.int (Int32.ofNat y)), .val (.int (Int32.ofNat z)), .val (.int (Int32.ofNat (x + q)))] [(.int (2147483639 : Int32)), (.int (Int32.ofNat (x + q)))])) _
    refine XS.icmpNo X2.here hx rfl (hb hby dNl_16) rfl (flt (own_soft (by omega))).2.2.1 ?_
    show Steps p.tables e below (T2.setTop (mkF m 19 #[.val (.int (Int32.ofNat x)), .val (.int (Int32.ofNat y)), .val (.int (Int32.ofNat z)), .val (.int (Int32.ofNat (x + q)))] [])) _
    refine XS.iloadN X2.here hx rfl (hb hby dNl_19) rfl ?_
    exact Steps.refl _
  obtain ⟨fs, hr, hrun, hended, hW, hsame⟩ := X2.leave (v := some (.int (Int32.ofNat (x + q)))) (fun h => by rw [Bd.returns] at h; cases h)
  refine ⟨_, _, c4.trans ?_, hrun, hended, _, _, rfl, ?_, ⟨_, rfl⟩, hW, hsame.mono (by decide) (by decide)⟩
  · show Steps p.tables e below (T2.setTop (mkF m 20 #[.val (.int (Int32.ofNat x)), .val (.int (Int32.ofNat y)), .val (.int (Int32.ofNat z)), .val (.int (Int32.ofNat (x + q)))] [(.int (Int32.ofNat (x + q)))])) _
    exact retI X2 hx Bd.returns (hb hby dNl_20) hr
  · show QNl Z x y z h0 n0 _ T2.heap _
    rw [e1]
    exact ⟨⟨_, rfl, by omega, hq2⟩, Fr.app N0 N1, rfl⟩
def QNc (Z : State) (b : Addr) (t : Addr) (cap : Nat) (cs : List Int32) (mn : Nat) (h0 : Heap) (n0 : Nat) (v : Option Value) (h : Heap) (L : List Loc) : Prop := (∃ r : Nat, v = some (.int (Int32.ofNat r)) ∧ mn ≤ r ∧ r ≤ 210) ∧ Fr n0 L ∧ h = h0
theorem efNc (m : MethodId) (b : Addr) (mn : Nat) : entryFrame m #[(.ref b), (.int (Int32.ofNat mn))] 6 = mkF m 0 #[.val (.ref b), .val (.int (Int32.ofNat mn)), .unset, .unset, .unset, .unset] [] := by first | (simp [entryFrame, mkF, argsToLocals, Value.category, List.replicate]; done) | rfl
set_option maxRecDepth 65536 in
set_option maxHeartbeats 40000000 in
theorem rmNc (l : Launch) (Z : State) (a0 : Array Value) (hw : ∀ d ∈ tables_1, d.before a0 Z = true) (ws : List Jvm.Cond) (b : Addr) (t : Addr) (cap : Nat) (cs : List Int32) (mn : Nat) (h0 : Heap) (n0 : Nat) (Z0 : n0 ≤ h0.size) (B : own_SB Z h0 b t cap cs) (hmn : mn ≤ 100) (hfit : ¬ mn ≤ cap) :
    MetFree l (⟨"java/lang/AbstractStringBuilder", "newCapacity", "(I)I"⟩ : MethodName) (head1 (Jvm.Cond.code (⟨"java/lang/AbstractStringBuilder", "newCapacity", "(I)I"⟩ : MethodName) jdk_68_method_10_code 6 (some .int) :: ws) ({ frames := 2, cells := 0, slots := 0, locals := 34 } : Room)) (fun aa UU => aa = #[(.ref b), (.int (Int32.ofNat mn))] ∧ Z.Warmed39 UU.vm ∧ UU.heap = h0) (fun _ _ _ _ _ => True) (fun _ UU oo UT => ∃ vv LL, oo = .returned vv ∧ QNc Z b t cap cs mn h0 n0 vv UT.heap LL ∧ FrameEnd UU oo UT LL ({ frames := 2, cells := 0, slots := 0, locals := 34 } : Room).cells ({ frames := 2, cells := 0, slots := 0, locals := 34 } : Room).slots) := by
  refine MetFree.of_bodySF (by decide +kernel) hisR ?_
  intro p e s m args below meth c s₁ Bd hml0 hP hK
  obtain ⟨rfl, hZ, hh⟩ := hP
  have hx := Bd.exec
  have hby := Bd.bytes
  have hml : c.maxLocals = 6 := hml0
  have hown : s.vm.findClass "java/lang/AbstractStringBuilder" = some m.cls := findClass_of_methodNamed Bd.named
  have hnm := (name_of_methodNamed Bd.named Bd.method).1
  have X0 : Stand p l e ({ frames := 2, cells := 0, slots := 0, locals := 34 } : Room) s m #[(.ref b), (.int (Int32.ofNat mn))] below meth c s₁ [] 0 0 := Stand.of_body Bd
  have e0 : s₁.heap = h0 := by rw [← hh, Bd.state]; rfl
  have N0 := Fr.nil n0
  have c0 : Steps p.tables e below (s₁.setTop (entryFrame m #[(.ref b), (.int (Int32.ofNat mn))] 6)) (s₁.setTop (mkF m 0 #[.val (.ref b), .val (.int (Int32.ofNat mn)), .unset, .unset, .unset, .unset] [])) := castTop (efNc m b mn) (Steps.refl _)
  show ∃ s₂ oo, Steps p.tables e below (s₁.setTop (entryFrame m #[(.ref b), (.int (Int32.ofNat mn))] 6)) s₂ ∧ _ ∧ _ ∧ _
  generalize s₁.setTop (entryFrame m #[(.ref b), (.int (Int32.ofNat mn))] 6) = S0 at c0 ⊢
  obtain ⟨Eb, Fco, Fcn, Fva, ⟨kt, Vt, Et⟩, hch, hle, hcap⟩ := id B
  obtain ⟨cl, Ar, -, Sz, Mz, -, -⟩ := id Vt
  have c1 : Steps p.tables e below S0 (s₁.setTop (mkF m 1 #[.val (.ref b), .val (.int (Int32.ofNat mn)), .unset, .unset, .unset, .unset] [(.ref b)])) := by
    refine c0.trans ?_
    show Steps p.tables e below (s₁.setTop (mkF m 0 #[.val (.ref b), .val (.int (Int32.ofNat mn)), .unset, .unset, .unset, .unset] [])) _
    refine XS.aloadN X0.here hx rfl (hb hby dNc_0) rfl rfl ?_
    exact Steps.refl _
  obtain ⟨T2, X2, e2, st2⟩ := getF X0 hx hZ hown (host := "") (Or.inl (hw _ (List.mem_of_getElem? (i := 72) rfl))) Via.refl e0 Fva (g := (mkF m 1 #[.val (.ref b), .val (.int (Int32.ofNat mn)), .unset, .unset, .unset, .unset] [(.ref b)])) rfl rfl (hb hby dNc_1)
  have c2 : Steps p.tables e below S0 (T2.setTop (mkF m 4 #[.val (.ref b), .val (.int (Int32.ofNat mn)), .unset, .unset, .unset, .unset] [(.ref t)])) := by
    refine c1.trans ?_
    show Steps p.tables e below (s₁.setTop (mkF m 1 #[.val (.ref b), .val (.int (Int32.ofNat mn)), .unset, .unset, .unset, .unset] [(.ref b)])) _
    refine st2 _ ?_
    exact Steps.refl _
  have c3 : Steps p.tables e below S0 (T2.setTop (mkF m 5 #[.val (.ref b), .val (.int (Int32.ofNat mn)), .unset, .unset, .unset, .unset] [(.int (Int32.ofNat cap))])) := by
    refine c2.trans ?_
    show Steps p.tables e below (T2.setTop (mkF m 4 #[.val (.ref b), .val (.int (Int32.ofNat mn)), .unset, .unset, .unset, .unset] [(.ref t)])) _
    refine X2.arraylength hx (by rw [e2]; exact Ar.1) (State.isArrayOf_alike hZ.alike Ar.2.1) (g := (mkF m 4 #[.val (.ref b), .val (.int (Int32.ofNat mn)), .unset, .unset, .unset, .unset] [(.ref t)])) rfl rfl (hb hby dNc_4) _ ?_
    rw [len_of Sz Mz]
    exact Steps.refl _
  have c4 : Steps p.tables e below S0 (T2.setTop (mkF m 8 #[.val (.ref b), .val (.int (Int32.ofNat mn)), .val (.int (Int32.ofNat cap)), .unset, .unset, .unset] [(.ref b), (.int (Int32.ofNat mn))])) := by
    refine c3.trans ?_
    show Steps p.tables e below (T2.setTop (mkF m 5 #[.val (.ref b), .val (.int (Int32.ofNat mn)), .unset, .unset, .unset, .unset] [(.int (Int32.ofNat cap))])) _
    refine XS.istoreN X2.here hx rfl (hb hby dNc_5) rfl (l' := #[.val (.ref b), .val (.int (Int32.ofNat mn)), .val (.int (Int32.ofNat cap)), .unset, .unset, .unset]) rfl ?_
    show Steps p.tables e below (T2.setTop (mkF m 6 #[.val (.ref b), .val (.int (Int32.ofNat mn)), .val (.int (Int32.ofNat cap)), .unset, .unset, .unset] [])) _
    refine XS.iloadN X2.here hx rfl (hb hby dNc_6) rfl ?_
    show Steps p.tables e below (T2.setTop (mkF m 7 #[.val (.ref b), .val (.int (Int32.ofNat mn)), .val (.int (Int32.ofNat cap)), .unset, .unset, .unset] [(.int (Int32.ofNat mn))])) _
    refine XS.aloadN X2.here hx rfl (hb hby dNc_7) rfl rfl ?_
    exact Steps.refl _
  obtain ⟨T5, X5, e5, st5⟩ := getF X2 hx hZ hown (host := "") (Or.inl (hw _ (List.mem_of_getElem? (i := 74) rfl))) Via.refl e2 Fco (g := (mkF m 8 #[.val (.ref b), .val (.int (Int32.ofNat mn)), .val (.int (Int32.ofNat cap)), .unset, .unset, .unset] [(.ref b), (.int (Int32.ofNat mn))])) rfl rfl (hb hby dNc_8)
  have c5 : Steps p.tables e below S0 (T5.setTop (mkF m 11 #[.val (.ref b), .val (.int (Int32.ofNat mn)), .val (.int (Int32.ofNat cap)), .unset, .unset, .unset] [(.int (0 : Int32)), (.int (Int32.ofNat mn))])) := by
    refine c4.trans ?_
    show Steps p.tables e below (T2.setTop (mkF m 8 #[.val (.ref b), .val (.int (Int32.ofNat mn)), .val (.int (Int32.ofNat cap)), .unset, .unset, .unset] [(.ref b), (.int (Int32.ofNat mn))])) _
    refine st5 _ ?_
    exact Steps.refl _
  have c6 : Steps p.tables e below S0 (T5.setTop (mkF m 12 #[.val (.ref b), .val (.int (Int32.ofNat mn)), .val (.int (Int32.ofNat cap)), .unset, .unset, .unset] [(.int ((Int32.ofNat mn) <<< ((0 : Int32) &&& 31)))])) := by
    refine c5.trans ?_
    show Steps p.tables e below (T5.setTop (mkF m 11 #[.val (.ref b), .val (.int (Int32.ofNat mn)), .val (.int (Int32.ofNat cap)), .unset, .unset, .unset] [(.int (0 : Int32)), (.int (Int32.ofNat mn))])) _
    refine XS.ishl X5.here hx rfl (hb hby dNc_11) rfl ?_
    exact Steps.refl _
  rw [own_shl0] at c6
  have c7 : Steps p.tables e below S0 (T5.setTop (mkF m 16 #[.val (.ref b), .val (.int (Int32.ofNat mn)), .val (.int (Int32.ofNat cap)), .val (.int (Int32.ofNat mn)), .unset, .unset] [(.int ((Int32.ofNat mn) - (Int32.ofNat cap)))])) := by
    refine c6.trans ?_
    show Steps p.tables e below (T5.setTop (mkF m 12 #[.val (.ref b), .val (.int (Int32.ofNat mn)), .val (.int (Int32.ofNat cap)), .unset, .unset, .unset] [(.int (Int32.ofNat mn))])) _
    refine XS.istoreN X5.here hx rfl (hb hby dNc_12) rfl (l' := #[.val (.ref b), .val (.int (Int32.ofNat mn)), .val (.int (Int32.ofNat cap)), .val (.int (Int32.ofNat mn)), .unset, .unset]) rfl ?_
    show Steps p.tables e below (T5.setTop (mkF m 13 #[.val (.ref b), .val (.int (Int32.ofNat mn)), .val (.int (Int32.ofNat cap)), .val (.int (Int32.ofNat mn)), .unset, .unset] [])) _
    refine XS.iloadN X5.here hx rfl (hb hby dNc_13) rfl ?_
    show Steps p.tables e below (T5.setTop (mkF m 14 #[.val (.ref b), .val (.int (Int32.ofNat mn)), .val (.int (Int32.ofNat cap)), .val (.int (Int32.ofNat mn)), .unset, .unset] [(.int (Int32.ofNat mn))])) _
    refine XS.iloadN X5.here hx rfl (hb hby dNc_14) rfl ?_
    show Steps p.tables e below (T5.setTop (mkF m 15 #[.val (.ref b), .val (.int (Int32.ofNat mn)), .val (.int (Int32.ofNat cap)), .val (.int (Int32.ofNat mn)), .unset, .unset] [(.int (Int32.ofNat cap)), (.int (Int32.ofNat mn))])) _
    refine XS.isub X5.here hx rfl (hb hby dNc_15) rfl ?_
    exact Steps.refl _
  rw [own_subn (by omega) (by omega)] at c7
  have c8 : Steps p.tables e below S0 (T5.setTop (mkF m 24 #[.val (.ref b), .val (.int (Int32.ofNat mn)), .val (.int (Int32.ofNat cap)), .val (.int (Int32.ofNat mn)), .val (.int (Int32.ofNat (mn - cap))), .unset] [(.ref b), (.int (2 : Int32)), (.int (Int32.ofNat cap)), (.int (Int32.ofNat (mn - cap))), (.int (Int32.ofNat cap))])) := by
    refine c7.trans ?_
    show Steps p.tables e below (T5.setTop (mkF m 16 #[.val (.ref b), .val (.int (Int32.ofNat mn)), .val (.int (Int32.ofNat cap)), .val (.int (Int32.ofNat mn)), .unset, .unset] [(.int (Int32.ofNat (mn - cap)))])) _
    refine XS.istore X5.here hx rfl (hb hby dNc_16) rfl (l' := #[.val (.ref b), .val (.int (Int32.ofNat mn)), .val (.int (Int32.ofNat cap)), .val (.int (Int32.ofNat mn)), .val (.int (Int32.ofNat (mn - cap))), .unset]) rfl ?_
    show Steps p.tables e below (T5.setTop (mkF m 18 #[.val (.ref b), .val (.int (Int32.ofNat mn)), .val (.int (Int32.ofNat cap)), .val (.int (Int32.ofNat mn)), .val (.int (Int32.ofNat (mn - cap))), .unset] [])) _
    refine XS.iloadN X5.here hx rfl (hb hby dNc_18) rfl ?_
    show Steps p.tables e below (T5.setTop (mkF m 19 #[.val (.ref b), .val (.int (Int32.ofNat mn)), .val (.int (Int32.ofNat cap)), .val (.int (Int32.ofNat mn)), .val (.int (Int32.ofNat (mn - cap))), .unset] [(.int (Int32.ofNat cap))])) _
    refine XS.iload X5.here hx rfl (hb hby dNc_19) rfl ?_
    show Steps p.tables e below (T5.setTop (mkF m 21 #[.val (.ref b), .val (.int (Int32.ofNat mn)), .val (.int (Int32.ofNat cap)), .val (.int (Int32.ofNat mn)), .val (.int (Int32.ofNat (mn - cap))), .unset] [(.int (Int32.ofNat (mn - cap))), (.int (Int32.ofNat cap))])) _
    refine XS.iloadN X5.here hx rfl (hb hby dNc_21) rfl ?_
    show Steps p.tables e below (T5.setTop (mkF m 22 #[.val (.ref b), .val (.int (Int32.ofNat mn)), .val (.int (Int32.ofNat cap)), .val (.int (Int32.ofNat mn)), .val (.int (Int32.ofNat (mn - cap))), .unset] [(.int (Int32.ofNat cap)), (.int (Int32.ofNat (mn - cap))), (.int (Int32.ofNat cap))])) _
    refine XS.iconst X5.here hx rfl (hb hby dNc_22) ?_
    show Steps p.tables e below (T5.setTop (mkF m 23 #[.val (.ref b), .val (.int (Int32.ofNat mn)), .val (.int (Int32.ofNat cap)), .val (.int (Int32.ofNat mn)), .val (.int (Int32.ofNat (mn - cap))), .unset] [(.int (2 : Int32)), (.int (Int32.ofNat cap)), (.int (Int32.ofNat (mn - cap))), (.int (Int32.ofNat cap))])) _
    refine XS.aloadN X5.here hx rfl (hb hby dNc_23) rfl rfl ?_
    exact Steps.refl _
  obtain ⟨T9, X9, e9, st9⟩ := getF X5 hx hZ hown (host := "") (Or.inl (hw _ (List.mem_of_getElem? (i := 74) rfl))) Via.refl e5 Fco (g := (mkF m 24 #[.val (.ref b), .val (.int (Int32.ofNat mn)), .val (.int (Int32.ofNat cap)), .val (.int (Int32.ofNat mn)), .val (.int (Int32.ofNat (mn - cap))), .unset] [(.ref b), (.int (2 : Int32)), (.int (Int32.ofNat cap)), (.int (Int32.ofNat (mn - cap))), (.int (Int32.ofNat cap))])) rfl rfl (hb hby dNc_24)
  have c9 : Steps p.tables e below S0 (T9.setTop (mkF m 27 #[.val (.ref b), .val (.int (Int32.ofNat mn)), .val (.int (Int32.ofNat cap)), .val (.int (Int32.ofNat mn)), .val (.int (Int32.ofNat (mn - cap))), .unset] [(.int (0 : Int32)), (.int (2 : Int32)), (.int (Int32.ofNat cap)), (.int (Int32.ofNat (mn - cap))), (.int (Int32.ofNat cap))])) := by
    refine c8.trans ?_
    show Steps p.tables e below (T5.setTop (mkF m 24 #[.val (.ref b), .val (.int (Int32.ofNat mn)), .val (.int (Int32.ofNat cap)), .val (.int (Int32.ofNat mn)), .val (.int (Int32.ofNat (mn - cap))), .unset] [(.ref b), (.int (2 : Int32)), (.int (Int32.ofNat cap)), (.int (Int32.ofNat (mn - cap))), (.int (Int32.ofNat cap))])) _
    refine st9 _ ?_
    exact Steps.refl _
  have c10 : Steps p.tables e below S0 (T9.setTop (mkF m 28 #[.val (.ref b), .val (.int (Int32.ofNat mn)), .val (.int (Int32.ofNat cap)), .val (.int (Int32.ofNat mn)), .val (.int (Int32.ofNat (mn - cap))), .unset] [(.int ((2 : Int32) <<< ((0 : Int32) &&& 31))), (.int (Int32.ofNat cap)), (.int (Int32.ofNat (mn - cap))), (.int (Int32.ofNat cap))])) := by
    refine c9.trans ?_
    show Steps p.tables e below (T9.setTop (mkF m 27 #[.val (.ref b), .val (.int (Int32.ofNat mn)), .val (.int (Int32.ofNat cap)), .val (.int (Int32.ofNat mn)), .val (.int (Int32.ofNat (mn - cap))), .unset] [(.int (0 : Int32)), (.int (2 : Int32)), (.int (Int32.ofNat cap)), (.int (Int32.ofNat (mn - cap))), (.int (Int32.ofNat cap))])) _
    refine XS.ishl X9.here hx rfl (hb hby dNc_27) rfl ?_
    exact Steps.refl _
  rw [own_shl0] at c10
  have c11 : Steps p.tables e below S0 (T9.setTop (mkF m 29 #[.val (.ref b), .val (.int (Int32.ofNat mn)), .val (.int (Int32.ofNat cap)), .val (.int (Int32.ofNat mn)), .val (.int (Int32.ofNat (mn - cap))), .unset] [(.int ((Int32.ofNat cap) + (2 : Int32))), (.int (Int32.ofNat (mn - cap))), (.int (Int32.ofNat cap))])) := by
    refine c10.trans ?_
    show Steps p.tables e below (T9.setTop (mkF m 28 #[.val (.ref b), .val (.int (Int32.ofNat mn)), .val (.int (Int32.ofNat cap)), .val (.int (Int32.ofNat mn)), .val (.int (Int32.ofNat (mn - cap))), .unset] [(.int (2 : Int32)), (.int (Int32.ofNat cap)), (.int (Int32.ofNat (mn - cap))), (.int (Int32.ofNat cap))])) _
    refine XS.iadd X9.here hx rfl (hb hby dNc_28) rfl ?_
    exact Steps.refl _
  rw [show Int32.ofNat cap + (2 : Int32) = Int32.ofNat (cap + 2) from own_addn (b := 2) (by omega)] at c11
  obtain ⟨_, _, ⟨T12, L12, k12, n12⟩, -, X12, ⟨Lc12, hQ12, l12, y12, z12⟩, st12⟩ := Jvm.LawKit.callS X9 hx (y := (⟨"jdk/internal/util/ArraysSupport", "newLength", "(III)I"⟩ : MethodName)) hown (mvT hZ (hw _ (List.mem_of_getElem? (i := 211) rfl))) (mvT hZ (hw _ (List.mem_of_getElem? (i := 212) rfl))) (mvT hZ (hw _ (List.mem_of_getElem? (i := 213) rfl))) (mvT hZ (hw _ (List.mem_of_getElem? (i := 214) rfl))) (by decide) (backOf (W := 0) (rmNl l Z a0 hw [] cap (mn - cap) (cap + 2) h0 n0 Z0 (by omega) (by omega) (by omega)) hZ (hw _ (List.mem_of_getElem? (i := 214) rfl)) (hw _ (List.mem_of_getElem? (i := 213) rfl)) (by decide) (by decide)) (g := (mkF m 29 #[.val (.ref b), .val (.int (Int32.ofNat mn)), .val (.int (Int32.ofNat cap)), .val (.int (Int32.ofNat mn)), .val (.int (Int32.ofNat (mn - cap))), .unset] [(.int (Int32.ofNat (cap + 2))), (.int (Int32.ofNat (mn - cap))), (.int (Int32.ofNat cap))])) rfl (by rw [hml]; rfl) (argsL := [(.int (Int32.ofNat cap)), (.int (Int32.ofNat (mn - cap))), (.int (Int32.ofNat (cap + 2)))]) (rest := []) (lenOf pd4 rfl) rfl (by show 2 * 0 + _ ≤ _; exact Nat.le_of_eq rfl) (hb hby dNc_29) (fun _ _ => ⟨rfl, e9, (by decide : 0 + 0 ≤ _), (by decide : 0 + 0 ≤ _)⟩)
  dsimp only [Pt.U, Pt.locs, Pt.cells, Pt.slots] at X12 l12 y12 z12 st12 hQ12
  subst l12 y12 z12
  obtain ⟨⟨nc, rfl, hn1, hn2⟩, N1, e1⟩ := hQ12
  have c12 : Steps p.tables e below S0 (T12.setTop (mkF m 32 #[.val (.ref b), .val (.int (Int32.ofNat mn)), .val (.int (Int32.ofNat cap)), .val (.int (Int32.ofNat mn)), .val (.int (Int32.ofNat (mn - cap))), .unset] [(.int (Int32.ofNat nc))])) := by
    refine c11.trans ?_
    show Steps p.tables e below (T9.setTop (mkF m 29 #[.val (.ref b), .val (.int (Int32.ofNat mn)), .val (.int (Int32.ofNat cap)), .val (.int (Int32.ofNat mn)), .val (.int (Int32.ofNat (mn - cap))), .unset] [(.int (Int32.ofNat (cap + 2))), (.int (Int32.ofNat (mn - cap))), (.int (Int32.ofNat cap))])) _
    refine st12 _ ?_
    exact Steps.refl _
  have c13 : Steps p.tables e below S0 (T12.setTop (mkF m 51 #[.val (.ref b), .val (.int (Int32.ofNat mn)), .val (.int (Int32.ofNat cap)), .val (.int (Int32.ofNat mn)), .val (.int (Int32.ofNat (mn - cap))), .val (.int (Int32.ofNat nc))] [])) := by
    refine c12.trans ?_
    show Steps p.tables e below (T12.setTop (mkF m 32 #[.val (.ref b), .val (.int (Int32.ofNat mn)), .val (.int (Int32.ofNat cap)), .val (.int (Int32.ofNat mn)), .val (.int (Int32.ofNat (mn - cap))), .unset] [(.int (Int32.ofNat nc))])) _
    refine XS.istore X12.here hx rfl (hb hby dNc_32) rfl (l' := #[.val (.ref b), .val (.int (Int32.ofNat mn)), .val (.int (Int32.ofNat cap)), .val (.int (Int32.ofNat mn)), .val (.int (Int32.ofNat (mn - cap))), .val (.int (Int32.ofNat nc))]) rfl ?_
    show Steps p.tables e below (T12.setTop (mkF m 34 #[.val (.ref b), .val (.int (Int32.ofNat mn)), .val (.int (Int32.ofNat cap)), .val (.int (Int32.ofNat mn)), .val (.int (Int32.ofNat (mn - cap))), .val (.int (Int32.ofNat nc))] [])) _
    refine XS.iload X12.here hx rfl (hb hby dNc_34) rfl ?_
    show Steps p.tables e below (T12.setTop (mkF m 36 #[.val (.ref b), .val (.int (Int32.ofNat mn)), .val (.int (Int32.ofNat cap)), .val (.int (Int32.ofNat mn)), .val (.int (Int32.ofNat (mn - cap))), .val (.int (Int32.ofNat nc))] [(.int (Int32.ofNat nc))])) _
    refine X12.ldcInt hx hown (mvT hZ (hw _ (List.mem_of_getElem? (i := 219) rfl))) (g := (mkF m 36 #[.val (.ref b), .val (.int (Int32.ofNat mn)), .val (.int (Int32.ofNat cap)), .val (.int (Int32.ofNat mn)), .val (.int (Int32.ofNat (mn - cap))), .val (.int (Int32.ofNat nc))] [(.int (Int32.ofNat nc))])) rfl (hb hby dNc_36) _ ?_
    show Steps p.tables e below (T12.setTop (mkF m 38 #[.val (.ref b), .val (.int (Int32.ofNat mn)), .val (.int (Int32.ofNat cap)), .val (.int (Int32.ofNat mn)), .val (.int (Int32.ofNat (mn - cap))), .val (.int (Int32.ofNat nc))] [(.int (2147483647 : Int32)), (.int (Int32.ofNat nc))])) _
    refine XS.icmpYes X12.here hx rfl (pc0 := 38) (pc' := 51) rfl (hb hby dNc_38) rfl (feq (own_max (by omega))).2 (by decide) (by decide) ?_
    exact Steps.refl _
  have c14 : Steps p.tables e below S0 (T12.setTop (mkF m 54 #[.val (.ref b), .val (.int (Int32.ofNat mn)), .val (.int (Int32.ofNat cap)), .val (.int (Int32.ofNat mn)), .val (.int (Int32.ofNat (mn - cap))), .val (.int (Int32.ofNat nc))] [(.ref b), (.int (Int32.ofNat nc))])) := by
    refine c13.trans ?_
    show Steps p.tables e below (T12.setTop (mkF m 51 #[.val (.ref b), .val (.int (Int32.ofNat mn)), .val (.int (Int32.ofNat cap)), .val (.int (Int32.ofNat mn)), .val (.int (Int32.ofNat (mn - cap))), .val (.int (Int32.ofNat nc))] [])) _
    refine XS.iload X12.here hx rfl (hb hby dNc_51) rfl ?_
    show Steps p.tables e below (T12.setTop (mkF m 53 #[.val (.ref b), .val (.int (Int32.ofNat mn)), .val (.int (Int32.ofNat cap)), .val (.int (Int32.ofNat mn)), .val (.int (Int32.ofNat (mn - cap))), .val (.int (Int32.ofNat nc))] [(.int (Int32.ofNat nc))])) _
    refine XS.aloadN X12.here hx rfl (hb hby dNc_53) rfl rfl ?_
    exact Steps.refl _
  obtain ⟨T15, X15, e15, st15⟩ := getF X12 hx hZ hown (host := "") (Or.inl (hw _ (List.mem_of_getElem? (i := 74) rfl))) Via.refl e1 Fco (g := (mkF m 54 #[.val (.ref b), .val (.int (Int32.ofNat mn)), .val (.int (Int32.ofNat cap)), .val (.int (Int32.ofNat mn)), .val (.int (Int32.ofNat (mn - cap))), .val (.int (Int32.ofNat nc))] [(.ref b), (.int (Int32.ofNat nc))])) rfl rfl (hb hby dNc_54)
  have c15 : Steps p.tables e below S0 (T15.setTop (mkF m 57 #[.val (.ref b), .val (.int (Int32.ofNat mn)), .val (.int (Int32.ofNat cap)), .val (.int (Int32.ofNat mn)), .val (.int (Int32.ofNat (mn - cap))), .val (.int (Int32.ofNat nc))] [(.int (0 : Int32)), (.int (Int32.ofNat nc))])) := by
    refine c14.trans ?_
    show Steps p.tables e below (T12.setTop (mkF m 54 #[.val (.ref b), .val (.int (Int32.ofNat mn)), .val (.int (Int32.ofNat cap)), .val (.int (Int32.ofNat mn)), .val (.int (Int32.ofNat (mn - cap))), .val (.int (Int32.ofNat nc))] [(.ref b), (.int (Int32.ofNat nc))])) _
    refine st15 _ ?_
    exact Steps.refl _
  have c16 : Steps p.tables e below S0 (T15.setTop (mkF m 58 #[.val (.ref b), .val (.int (Int32.ofNat mn)), .val (.int (Int32.ofNat cap)), .val (.int (Int32.ofNat mn)), .val (.int (Int32.ofNat (mn - cap))), .val (.int (Int32.ofNat nc))] [(.int ((Int32.ofNat nc) >>> ((0 : Int32) &&& 31)))])) := by
    refine c15.trans ?_
    show Steps p.tables e below (T15.setTop (mkF m 57 #[.val (.ref b), .val (.int (Int32.ofNat mn)), .val (.int (Int32.ofNat cap)), .val (.int (Int32.ofNat mn)), .val (.int (Int32.ofNat (mn - cap))), .val (.int (Int32.ofNat nc))] [(.int (0 : Int32)), (.int (Int32.ofNat nc))])) _
    refine XS.ishr X15.here hx rfl (hb hby dNc_57) rfl ?_
    exact Steps.refl _
  rw [own_shr0] at c16
  obtain ⟨fs, hr, hrun, hended, hW, hsame⟩ := X15.leave (v := some (.int (Int32.ofNat nc))) (fun h => by rw [Bd.returns] at h; cases h)
  refine ⟨_, _, c16.trans ?_, hrun, hended, _, _, rfl, ?_, ⟨_, rfl⟩, hW, hsame.mono (by decide) (by decide)⟩
  · show Steps p.tables e below (T15.setTop (mkF m 58 #[.val (.ref b), .val (.int (Int32.ofNat mn)), .val (.int (Int32.ofNat cap)), .val (.int (Int32.ofNat mn)), .val (.int (Int32.ofNat (mn - cap))), .val (.int (Int32.ofNat nc))] [(.int (Int32.ofNat nc))])) _
    exact retI X15 hx Bd.returns (hb hby dNc_58) hr
  · show QNc Z b t cap cs mn h0 n0 _ T15.heap _
    rw [e15]
    exact ⟨⟨_, rfl, by omega, by omega⟩, Fr.app N0 N1, rfl⟩
def QCp (Z : State) (t : Addr) (kt : ClassId) (cap : Nat) (cs : List Int32) (nc : Nat) (h0 : Heap) (n0 : Nat) (v : Option Value) (h : Heap) (L : List Loc) : Prop := (∃ (t2 : Addr) (k2 : ClassId), v = some (.ref t2) ∧ h0.size ≤ t2 ∧ Arv Z h t2 k2 .byte (Int32.ofNat nc) (own_by cs) (.int 0) ∧ Exa Z h t2 "[B") ∧ Fr n0 L ∧ Keep h0 h []
theorem efCp (m : MethodId) (t : Addr) (nc : Nat) : entryFrame m #[(.ref t), (.int (Int32.ofNat nc))] 3 = mkF m 0 #[.val (.ref t), .val (.int (Int32.ofNat nc)), .unset] [] := by first | (simp [entryFrame, mkF, argsToLocals, Value.category, List.replicate]; done) | rfl
set_option maxRecDepth 65536 in
set_option maxHeartbeats 40000000 in
theorem rmCp (l : Launch) (Z : State) (a0 : Array Value) (hw : ∀ d ∈ tables_1, d.before a0 Z = true) (ws : List Jvm.Cond) (t : Addr) (kt : ClassId) (cap : Nat) (cs : List Int32) (nc : Nat) (h0 : Heap) (n0 : Nat) (Z0 : n0 ≤ h0.size) (Vt : Arv Z h0 t kt .byte (Int32.ofNat cap) (own_by cs) (.int 0)) (hcap : cap ≤ 1000) (hne : cap < nc) (hnc : nc ≤ 210) (hle : cs.length ≤ cap) :
    MetFree l (⟨"java/util/Arrays", "copyOf", "([BI)[B"⟩ : MethodName) (head1 (Jvm.Cond.code (⟨"java/util/Arrays", "copyOf", "([BI)[B"⟩ : MethodName) jdk_65_method_121_code 3 (some (.array .byte)) :: ws) ({ frames := 1, cells := 1, slots := 210, locals := 34 } : Room)) (fun aa UU => aa = #[(.ref t), (.int (Int32.ofNat nc))] ∧ Z.Warmed39 UU.vm ∧ UU.heap = h0) (fun _ _ _ _ _ => True) (fun _ UU oo UT => ∃ vv LL, oo = .returned vv ∧ QCp Z t kt cap cs nc h0 n0 vv UT.heap LL ∧ FrameEnd UU oo UT LL ({ frames := 1, cells := 1, slots := 210, locals := 34 } : Room).cells ({ frames := 1, cells := 1, slots := 210, locals := 34 } : Room).slots) := by
  refine MetFree.of_bodySF (by decide +kernel) hisR ?_
  intro p e s m args below meth c s₁ Bd hml0 hP hK
  obtain ⟨rfl, hZ, hh⟩ := hP
  have hx := Bd.exec
  have hby := Bd.bytes
  have hml : c.maxLocals = 3 := hml0
  have hown : s.vm.findClass "java/util/Arrays" = some m.cls := findClass_of_methodNamed Bd.named
  have hnm := (name_of_methodNamed Bd.named Bd.method).1
  have X0 : Stand p l e ({ frames := 1, cells := 1, slots := 210, locals := 34 } : Room) s m #[(.ref t), (.int (Int32.ofNat nc))] below meth c s₁ [] 0 0 := Stand.of_body Bd
  have e0 : s₁.heap = h0 := by rw [← hh, Bd.state]; rfl
  have N0 := Fr.nil n0
  have c0 : Steps p.tables e below (s₁.setTop (entryFrame m #[(.ref t), (.int (Int32.ofNat nc))] 3)) (s₁.setTop (mkF m 0 #[.val (.ref t), .val (.int (Int32.ofNat nc)), .unset] [])) := castTop (efCp m t nc) (Steps.refl _)
  show ∃ s₂ oo, Steps p.tables e below (s₁.setTop (entryFrame m #[(.ref t), (.int (Int32.ofNat nc))] 3)) s₂ ∧ _ ∧ _ ∧ _
  generalize s₁.setTop (entryFrame m #[(.ref t), (.int (Int32.ofNat nc))] 3) = S0 at c0 ⊢
  obtain ⟨cl, Ar, -, Sz, Mz, -, -⟩ := id Vt
  have c1 : Steps p.tables e below S0 (s₁.setTop (mkF m 2 #[.val (.ref t), .val (.int (Int32.ofNat nc)), .unset] [(.ref t), (.int (Int32.ofNat nc))])) := by
    refine c0.trans ?_
    show Steps p.tables e below (s₁.setTop (mkF m 0 #[.val (.ref t), .val (.int (Int32.ofNat nc)), .unset] [])) _
    refine XS.iloadN X0.here hx rfl (hb hby dCp_0) rfl ?_
    show Steps p.tables e below (s₁.setTop (mkF m 1 #[.val (.ref t), .val (.int (Int32.ofNat nc)), .unset] [(.int (Int32.ofNat nc))])) _
    refine XS.aloadN X0.here hx rfl (hb hby dCp_1) rfl rfl ?_
    exact Steps.refl _
  have c2 : Steps p.tables e below S0 (s₁.setTop (mkF m 3 #[.val (.ref t), .val (.int (Int32.ofNat nc)), .unset] [(.int (Int32.ofNat cap)), (.int (Int32.ofNat nc))])) := by
    refine c1.trans ?_
    show Steps p.tables e below (s₁.setTop (mkF m 2 #[.val (.ref t), .val (.int (Int32.ofNat nc)), .unset] [(.ref t), (.int (Int32.ofNat nc))])) _
    refine X0.arraylength hx (by rw [e0]; exact Ar.1) (State.isArrayOf_alike hZ.alike Ar.2.1) (g := (mkF m 2 #[.val (.ref t), .val (.int (Int32.ofNat nc)), .unset] [(.ref t), (.int (Int32.ofNat nc))])) rfl rfl (hb hby dCp_2) _ ?_
    rw [len_of Sz Mz]
    exact Steps.refl _
  have c3 : Steps p.tables e below S0 (s₁.setTop (mkF m 14 #[.val (.ref t), .val (.int (Int32.ofNat nc)), .unset] [])) := by
    refine c2.trans ?_
    show Steps p.tables e below (s₁.setTop (mkF m 3 #[.val (.ref t), .val (.int (Int32.ofNat nc)), .unset] [(.int (Int32.ofNat cap)), (.int (Int32.ofNat nc))])) _
    refine XS.icmpYes X0.here hx rfl (pc0 := 3) (pc' := 14) rfl (hb hby dCp_3) rfl (feq (fun q => by have := (own_eqn (by omega) (by omega)).mp q; omega)).2 (by decide) (by decide) ?_
    exact Steps.refl _
  have c4 : Steps p.tables e below S0 (s₁.setTop (mkF m 15 #[.val (.ref t), .val (.int (Int32.ofNat nc)), .unset] [(.int (Int32.ofNat nc))])) := by
    refine c3.trans ?_
    show Steps p.tables e below (s₁.setTop (mkF m 14 #[.val (.ref t), .val (.int (Int32.ofNat nc)), .unset] [])) _
    refine XS.iloadN X0.here hx rfl (hb hby dCp_14) rfl ?_
    exact Steps.refl _
  obtain ⟨T5, h5, kA5, X5, e5, E5, A5, A5x, st5⟩ := newPE X0 hx hZ (hw _ (List.mem_of_getElem? (i := 23) rfl)) e0 (g := (mkF m 15 #[.val (.ref t), .val (.int (Int32.ofNat nc)), .unset] [(.int (Int32.ofNat nc))])) rfl (hb hby dCp_15) rfl (own_nn (by omega)) (cap := 210) (by rw [own_nat (by omega)]; exact hnc) (by decide) (by decide) (by decide) (ad := "[B") (by decide +kernel)
  obtain ⟨b5, g5⟩ : ∃ z, z = h0.size := ⟨_, rfl⟩
  rw [← g5] at A5 A5x st5
  have c5 : Steps p.tables e below S0 (T5.setTop (mkF m 17 #[.val (.ref t), .val (.int (Int32.ofNat nc)), .unset] [(.ref b5)])) := by
    refine c4.trans ?_
    show Steps p.tables e below (s₁.setTop (mkF m 15 #[.val (.ref t), .val (.int (Int32.ofNat nc)), .unset] [(.int (Int32.ofNat nc))])) _
    refine st5 _ ?_
    exact Steps.refl _
  have V5 := Arv.new A5 (own_nn (by omega))
  have gb : n0 ≤ b5 := Nat.le_trans Z0 (Nat.le_of_eq g5.symm)
  have zb : h0.size ≤ b5 := Nat.le_of_eq g5.symm
  have Zk := Nat.le_trans Z0 E5.1
  have c6 : Steps p.tables e below S0 (T5.setTop (mkF m 23 #[.val (.ref t), .val (.int (Int32.ofNat nc)), .val (.ref b5)] [(.ref t), (.int (0 : Int32)), (.ref b5), (.int (0 : Int32)), (.ref t)])) := by
    refine c5.trans ?_
    show Steps p.tables e below (T5.setTop (mkF m 17 #[.val (.ref t), .val (.int (Int32.ofNat nc)), .unset] [(.ref b5)])) _
    refine XS.astoreN X5.here hx rfl (hb hby dCp_17) rfl rfl (l' := #[.val (.ref t), .val (.int (Int32.ofNat nc)), .val (.ref b5)]) rfl ?_
    show Steps p.tables e below (T5.setTop (mkF m 18 #[.val (.ref t), .val (.int (Int32.ofNat nc)), .val (.ref b5)] [])) _
    refine XS.aloadN X5.here hx rfl (hb hby dCp_18) rfl rfl ?_
    show Steps p.tables e below (T5.setTop (mkF m 19 #[.val (.ref t), .val (.int (Int32.ofNat nc)), .val (.ref b5)] [(.ref t)])) _
    refine XS.iconst X5.here hx rfl (hb hby dCp_19) ?_
    show Steps p.tables e below (T5.setTop (mkF m 20 #[.val (.ref t), .val (.int (Int32.ofNat nc)), .val (.ref b5)] [(.int (0 : Int32)), (.ref t)])) _
    refine XS.aloadN X5.here hx rfl (hb hby dCp_20) rfl rfl ?_
    show Steps p.tables e below (T5.setTop (mkF m 21 #[.val (.ref t), .val (.int (Int32.ofNat nc)), .val (.ref b5)] [(.ref b5), (.int (0 : Int32)), (.ref t)])) _
    refine XS.iconst X5.here hx rfl (hb hby dCp_21) ?_
    show Steps p.tables e below (T5.setTop (mkF m 22 #[.val (.ref t), .val (.int (Int32.ofNat nc)), .val (.ref b5)] [(.int (0 : Int32)), (.ref b5), (.int (0 : Int32)), (.ref t)])) _
    refine XS.aloadN X5.here hx rfl (hb hby dCp_22) rfl rfl ?_
    exact Steps.refl _
  have Vt1 := Vt.ext E5
  obtain ⟨cl1, Ar1, -, Sz1, Mz1, -, -⟩ := id Vt1
  have c7 : Steps p.tables e below S0 (T5.setTop (mkF m 24 #[.val (.ref t), .val (.int (Int32.ofNat nc)), .val (.ref b5)] [(.int (Int32.ofNat cap)), (.int (0 : Int32)), (.ref b5), (.int (0 : Int32)), (.ref t)])) := by
    refine c6.trans ?_
    show Steps p.tables e below (T5.setTop (mkF m 23 #[.val (.ref t), .val (.int (Int32.ofNat nc)), .val (.ref b5)] [(.ref t), (.int (0 : Int32)), (.ref b5), (.int (0 : Int32)), (.ref t)])) _
    refine X5.arraylength hx (by rw [e5]; exact Ar1.1) (State.isArrayOf_alike hZ.alike Ar1.2.1) (g := (mkF m 23 #[.val (.ref t), .val (.int (Int32.ofNat nc)), .val (.ref b5)] [(.ref t), (.int (0 : Int32)), (.ref b5), (.int (0 : Int32)), (.ref t)])) rfl rfl (hb hby dCp_23) _ ?_
    rw [len_of Sz1 Mz1]
    exact Steps.refl _
  have c8 : Steps p.tables e below S0 (T5.setTop (mkF m 25 #[.val (.ref t), .val (.int (Int32.ofNat nc)), .val (.ref b5)] [(.int (Int32.ofNat nc)), (.int (Int32.ofNat cap)), (.int (0 : Int32)), (.ref b5), (.int (0 : Int32)), (.ref t)])) := by
    refine c7.trans ?_
    show Steps p.tables e below (T5.setTop (mkF m 24 #[.val (.ref t), .val (.int (Int32.ofNat nc)), .val (.ref b5)] [(.int (Int32.ofNat cap)), (.int (0 : Int32)), (.ref b5), (.int (0 : Int32)), (.ref t)])) _
    refine XS.iloadN X5.here hx rfl (hb hby dCp_24) rfl ?_
    exact Steps.refl _
  obtain ⟨_, _, ⟨T9, L9, k9, n9⟩, -, X9, ⟨Lc9, hQ9, l9, y9, z9⟩, st9⟩ := Jvm.LawKit.callS X5 hx (y := (⟨"java/lang/Math", "min", "(II)I"⟩ : MethodName)) hown (mvT hZ (hw _ (List.mem_of_getElem? (i := 165) rfl))) (mvT hZ (hw _ (List.mem_of_getElem? (i := 166) rfl))) (mvT hZ (hw _ (List.mem_of_getElem? (i := 167) rfl))) (mvT hZ (hw _ (List.mem_of_getElem? (i := 168) rfl))) (by decide) (backOf (W := 4) (rmMi l Z a0 hw [] (Int32.ofNat cap) (Int32.ofNat nc) h5 n0 Zk) hZ (hw _ (List.mem_of_getElem? (i := 168) rfl)) (hw _ (List.mem_of_getElem? (i := 167) rfl)) (by decide) (by decide)) (g := (mkF m 25 #[.val (.ref t), .val (.int (Int32.ofNat nc)), .val (.ref b5)] [(.int (Int32.ofNat nc)), (.int (Int32.ofNat cap)), (.int (0 : Int32)), (.ref b5), (.int (0 : Int32)), (.ref t)])) rfl (by rw [hml]; rfl) (argsL := [(.int (Int32.ofNat cap)), (.int (Int32.ofNat nc))]) (rest := [(.int (0 : Int32)), (.ref b5), (.int (0 : Int32)), (.ref t)]) (lenOf pd3 rfl) rfl (by show 2 * 0 + _ ≤ _; exact Nat.le_of_eq rfl) (hb hby dCp_25) (fun _ _ => ⟨rfl, e5, (by decide : 1 + 0 ≤ _), (by decide : 210 + 0 ≤ _)⟩)
  dsimp only [Pt.U, Pt.locs, Pt.cells, Pt.slots] at X9 l9 y9 z9 st9 hQ9
  subst l9 y9 z9
  obtain ⟨rfl, N1, e1⟩ := hQ9
  have c9 : Steps p.tables e below S0 (T9.setTop (mkF m 28 #[.val (.ref t), .val (.int (Int32.ofNat nc)), .val (.ref b5)] [(.int (if Int32.ofNat nc < Int32.ofNat cap then Int32.ofNat nc else Int32.ofNat cap)), (.int (0 : Int32)), (.ref b5), (.int (0 : Int32)), (.ref t)])) := by
    refine c8.trans ?_
    show Steps p.tables e below (T5.setTop (mkF m 25 #[.val (.ref t), .val (.int (Int32.ofNat nc)), .val (.ref b5)] [(.int (Int32.ofNat nc)), (.int (Int32.ofNat cap)), (.int (0 : Int32)), (.ref b5), (.int (0 : Int32)), (.ref t)])) _
    refine st9 _ ?_
    exact Steps.refl _
  rw [if_neg (fun q => by have := (own_ltn (by omega) (by omega)).mp q; omega)] at c9
  have zc := own_nat (n := cap) (by omega)
  have zn := own_nat (n := nc) (by omega)
  have z0 : (0 : Int32).toNatClampNeg = 0 := rfl
  have Vs : Arv Z h5 t kt .byte (Int32.ofNat cap) (own_by cs ++ List.replicate (cap - cs.length) (.int 0)) (.int 0) := Vt1.pad (pad_rep (own_by cs) (.int 0) (cap - cs.length))
  have Vd : Arv Z h5 b5 kA5 .byte (Int32.ofNat nc) ([] ++ List.replicate cap (.int 0)) (.int 0) := V5.pad (pad_rep [] (.int 0) cap)
  have hln : (own_by cs ++ List.replicate (cap - cs.length) (Value.int 0)).length = cap := by rw [List.length_append, own_bylen, List.length_replicate]; omega
  obtain ⟨T10, h10, L10, X10, e10, N10, K10, V10, st10⟩ := cpA X9 hx hZ hown (hw _ (List.mem_of_getElem? (i := 169) rfl)) (hw _ (List.mem_of_getElem? (i := 123) rfl)) (hw _ (List.mem_of_getElem? (i := 121) rfl)) (hw _ (List.mem_of_getElem? (i := 122) rfl)) e1 (us := (own_by cs ++ List.replicate (cap - cs.length) (.int 0))) Vs Vd (Or.inl ⟨rfl, rfl⟩) (by decide) (by decide) (own_nn (by omega)) (by rw [z0, zc]; omega) (by rw [z0, zc, zn]; omega) (by rw [z0, zc]; conv => lhs; rw [← own_rangeget (own_by cs ++ List.replicate (cap - cs.length) (Value.int 0)) (Value.int 0), hln]) (by rw [z0, zc]; simp) (Fr.app N0 N1) gb (g := (mkF m 28 #[.val (.ref t), .val (.int (Int32.ofNat nc)), .val (.ref b5)] [(.int (Int32.ofNat cap)), (.int (0 : Int32)), (.ref b5), (.int (0 : Int32)), (.ref t)])) rfl (by rw [hml]; rfl) rfl (hb hby dCp_28) (by decide) (W := 0) (by show 2 * 0 + _ ≤ _; exact Nat.le_of_eq rfl) (by decide)
  have c10 : Steps p.tables e below S0 (T10.setTop (mkF m 31 #[.val (.ref t), .val (.int (Int32.ofNat nc)), .val (.ref b5)] [])) := by
    refine c9.trans ?_
    show Steps p.tables e below (T9.setTop (mkF m 28 #[.val (.ref t), .val (.int (Int32.ofNat nc)), .val (.ref b5)] [(.int (Int32.ofNat cap)), (.int (0 : Int32)), (.ref b5), (.int (0 : Int32)), (.ref t)])) _
    refine st10 _ ?_
    exact Steps.refl _
  have Vf : Arv Z h10 b5 kA5 .byte (Int32.ofNat nc) (own_by cs) (.int 0) := by
    have := V10
    rw [z0, zc, List.take_zero, List.nil_append, List.nil_append, List.drop_of_length_le (by simp), List.append_nil] at this
    exact this.pad (fun i => (pad_rep (own_by cs) (.int 0) (cap - cs.length) i).symm)
  have c11 : Steps p.tables e below S0 (T10.setTop (mkF m 32 #[.val (.ref t), .val (.int (Int32.ofNat nc)), .val (.ref b5)] [(.ref b5)])) := by
    refine c10.trans ?_
    show Steps p.tables e below (T10.setTop (mkF m 31 #[.val (.ref t), .val (.int (Int32.ofNat nc)), .val (.ref b5)] [])) _
    refine XS.aloadN X10.here hx rfl (hb hby dCp_31) rfl rfl ?_
    exact Steps.refl _
  obtain ⟨fs, hr, hrun, hended, hW, hsame⟩ := X10.leave (v := some (.ref b5)) (fun h => by rw [Bd.returns] at h; cases h)
  refine ⟨_, _, c11.trans ?_, hrun, hended, _, _, rfl, ?_, ⟨_, rfl⟩, hW, hsame.mono (by decide) (by decide)⟩
  · show Steps p.tables e below (T10.setTop (mkF m 32 #[.val (.ref t), .val (.int (Int32.ofNat nc)), .val (.ref b5)] [(.ref b5)])) _
    exact retA X10 hx Bd.returns rfl rfl (hb hby dCp_32) hr
  · show QCp Z t kt cap cs nc h0 n0 _ T10.heap _
    rw [e10]
    exact ⟨⟨_, _, rfl, zb, Vf, A5x.keep K10⟩, N10, ((Keep.refl h0 []).ext E5).trans K10 (fun x hx => by cases List.mem_singleton.mp hx; exact Or.inr zb)⟩
def QEc (Z : State) (b : Addr) (t : Addr) (cap : Nat) (cs : List Int32) (mn : Nat) (G1 : Int32) (h0 : Heap) (n0 : Nat) (v : Option Value) (h : Heap) (L : List Loc) : Prop := v = none ∧ Fr n0 L ∧ ∃ (t' : Addr) (cap' : Nat), own_SB Z h b t' cap' cs ∧ mn ≤ cap' ∧ (t' = t ∨ h0.size ≤ t') ∧ Keep h0 h [b]
theorem efEc (m : MethodId) (b : Addr) (mn : Nat) : entryFrame m #[(.ref b), (.int (Int32.ofNat mn))] 3 = mkF m 0 #[.val (.ref b), .val (.int (Int32.ofNat mn)), .unset] [] := by first | (simp [entryFrame, mkF, argsToLocals, Value.category, List.replicate]; done) | rfl
set_option maxRecDepth 65536 in
set_option maxHeartbeats 40000000 in
theorem rmEc (l : Launch) (Z : State) (a0 : Array Value) (hw : ∀ d ∈ tables_1, d.before a0 Z = true) (ws : List Jvm.Cond) (b : Addr) (t : Addr) (cap : Nat) (cs : List Int32) (mn : Nat) (G1 : Int32) (h0 : Heap) (n0 : Nat) (Z0 : n0 ≤ h0.size) (B : own_SB Z h0 b t cap cs) (hmn : mn ≤ 100) (gb : n0 ≤ b) :
    MetFree l (⟨"java/lang/AbstractStringBuilder", "ensureCapacityInternal", "(I)V"⟩ : MethodName) (head1 (Jvm.Cond.code (⟨"java/lang/AbstractStringBuilder", "ensureCapacityInternal", "(I)V"⟩ : MethodName) jdk_68_method_9_code 3 none :: ws) ({ frames := 3, cells := 1, slots := 210, locals := 100 } : Room)) (fun aa UU => aa = #[(.ref b), (.int (Int32.ofNat mn))] ∧ Z.Warmed39 UU.vm ∧ UU.heap = h0) (fun _ _ _ _ _ => True) (fun _ UU oo UT => ∃ vv LL, oo = .returned vv ∧ QEc Z b t cap cs mn G1 h0 n0 vv UT.heap LL ∧ FrameEnd UU oo UT LL ({ frames := 3, cells := 1, slots := 210, locals := 100 } : Room).cells ({ frames := 3, cells := 1, slots := 210, locals := 100 } : Room).slots) := by
  refine MetFree.of_bodySF (by decide +kernel) hisR ?_
  intro p e s m args below meth c s₁ Bd hml0 hP hK
  obtain ⟨rfl, hZ, hh⟩ := hP
  have hx := Bd.exec
  have hby := Bd.bytes
  have hml : c.maxLocals = 3 := hml0
  have hown : s.vm.findClass "java/lang/AbstractStringBuilder" = some m.cls := findClass_of_methodNamed Bd.named
  have hnm := (name_of_methodNamed Bd.named Bd.method).1
  have X0 : Stand p l e ({ frames := 3, cells := 1, slots := 210, locals := 100 } : Room) s m #[(.ref b), (.int (Int32.ofNat mn))] below meth c s₁ [] 0 0 := Stand.of_body Bd
  have e0 : s₁.heap = h0 := by rw [← hh, Bd.state]; rfl
  have N0 := Fr.nil n0
  have c0 : Steps p.tables e below (s₁.setTop (entryFrame m #[(.ref b), (.int (Int32.ofNat mn))] 3)) (s₁.setTop (mkF m 0 #[.val (.ref b), .val (.int (Int32.ofNat mn)), .unset] [])) := castTop (efEc m b mn) (Steps.refl _)
  show ∃ s₂ oo, Steps p.tables e below (s₁.setTop (entryFrame m #[(.ref b), (.int (Int32.ofNat mn))] 3)) s₂ ∧ _ ∧ _ ∧ _
  generalize s₁.setTop (entryFrame m #[(.ref b), (.int (Int32.ofNat mn))] 3) = S0 at c0 ⊢
  obtain ⟨Eb, Fco, Fcn, Fva, ⟨kt, Vt, Et⟩, hch, hle, hcap⟩ := id B
  obtain ⟨cl, Ar, -, Sz, Mz, -, -⟩ := id Vt
  have c1 : Steps p.tables e below S0 (s₁.setTop (mkF m 1 #[.val (.ref b), .val (.int (Int32.ofNat mn)), .unset] [(.ref b)])) := by
    refine c0.trans ?_
    show Steps p.tables e below (s₁.setTop (mkF m 0 #[.val (.ref b), .val (.int (Int32.ofNat mn)), .unset] [])) _
    refine XS.aloadN X0.here hx rfl (hb hby dEc_0) rfl rfl ?_
    exact Steps.refl _
  obtain ⟨T2, X2, e2, st2⟩ := getF X0 hx hZ hown (host := "") (Or.inl (hw _ (List.mem_of_getElem? (i := 72) rfl))) Via.refl e0 Fva (g := (mkF m 1 #[.val (.ref b), .val (.int (Int32.ofNat mn)), .unset] [(.ref b)])) rfl rfl (hb hby dEc_1)
  have c2 : Steps p.tables e below S0 (T2.setTop (mkF m 4 #[.val (.ref b), .val (.int (Int32.ofNat mn)), .unset] [(.ref t)])) := by
    refine c1.trans ?_
    show Steps p.tables e below (s₁.setTop (mkF m 1 #[.val (.ref b), .val (.int (Int32.ofNat mn)), .unset] [(.ref b)])) _
    refine st2 _ ?_
    exact Steps.refl _
  have c3 : Steps p.tables e below S0 (T2.setTop (mkF m 5 #[.val (.ref b), .val (.int (Int32.ofNat mn)), .unset] [(.int (Int32.ofNat cap))])) := by
    refine c2.trans ?_
    show Steps p.tables e below (T2.setTop (mkF m 4 #[.val (.ref b), .val (.int (Int32.ofNat mn)), .unset] [(.ref t)])) _
    refine X2.arraylength hx (by rw [e2]; exact Ar.1) (State.isArrayOf_alike hZ.alike Ar.2.1) (g := (mkF m 4 #[.val (.ref b), .val (.int (Int32.ofNat mn)), .unset] [(.ref t)])) rfl rfl (hb hby dEc_4) _ ?_
    rw [len_of Sz Mz]
    exact Steps.refl _
  have c4 : Steps p.tables e below S0 (T2.setTop (mkF m 6 #[.val (.ref b), .val (.int (Int32.ofNat mn)), .unset] [(.ref b), (.int (Int32.ofNat cap))])) := by
    refine c3.trans ?_
    show Steps p.tables e below (T2.setTop (mkF m 5 #[.val (.ref b), .val (.int (Int32.ofNat mn)), .unset] [(.int (Int32.ofNat cap))])) _
    refine XS.aloadN X2.here hx rfl (hb hby dEc_5) rfl rfl ?_
    exact Steps.refl _
  obtain ⟨T5, X5, e5, st5⟩ := getF X2 hx hZ hown (host := "") (Or.inl (hw _ (List.mem_of_getElem? (i := 74) rfl))) Via.refl e2 Fco (g := (mkF m 6 #[.val (.ref b), .val (.int (Int32.ofNat mn)), .unset] [(.ref b), (.int (Int32.ofNat cap))])) rfl rfl (hb hby dEc_6)
  have c5 : Steps p.tables e below S0 (T5.setTop (mkF m 9 #[.val (.ref b), .val (.int (Int32.ofNat mn)), .unset] [(.int (0 : Int32)), (.int (Int32.ofNat cap))])) := by
    refine c4.trans ?_
    show Steps p.tables e below (T2.setTop (mkF m 6 #[.val (.ref b), .val (.int (Int32.ofNat mn)), .unset] [(.ref b), (.int (Int32.ofNat cap))])) _
    refine st5 _ ?_
    exact Steps.refl _
  have c6 : Steps p.tables e below S0 (T5.setTop (mkF m 10 #[.val (.ref b), .val (.int (Int32.ofNat mn)), .unset] [(.int ((Int32.ofNat cap) >>> ((0 : Int32) &&& 31)))])) := by
    refine c5.trans ?_
    show Steps p.tables e below (T5.setTop (mkF m 9 #[.val (.ref b), .val (.int (Int32.ofNat mn)), .unset] [(.int (0 : Int32)), (.int (Int32.ofNat cap))])) _
    refine XS.ishr X5.here hx rfl (hb hby dEc_9) rfl ?_
    exact Steps.refl _
  rw [own_shr0] at c6
  have c7 : Steps p.tables e below S0 (T5.setTop (mkF m 14 #[.val (.ref b), .val (.int (Int32.ofNat mn)), .val (.int (Int32.ofNat cap))] [(.int ((Int32.ofNat mn) - (Int32.ofNat cap)))])) := by
    refine c6.trans ?_
    show Steps p.tables e below (T5.setTop (mkF m 10 #[.val (.ref b), .val (.int (Int32.ofNat mn)), .unset] [(.int (Int32.ofNat cap))])) _
    refine XS.istoreN X5.here hx rfl (hb hby dEc_10) rfl (l' := #[.val (.ref b), .val (.int (Int32.ofNat mn)), .val (.int (Int32.ofNat cap))]) rfl ?_
    show Steps p.tables e below (T5.setTop (mkF m 11 #[.val (.ref b), .val (.int (Int32.ofNat mn)), .val (.int (Int32.ofNat cap))] [])) _
    refine XS.iloadN X5.here hx rfl (hb hby dEc_11) rfl ?_
    show Steps p.tables e below (T5.setTop (mkF m 12 #[.val (.ref b), .val (.int (Int32.ofNat mn)), .val (.int (Int32.ofNat cap))] [(.int (Int32.ofNat mn))])) _
    refine XS.iloadN X5.here hx rfl (hb hby dEc_12) rfl ?_
    show Steps p.tables e below (T5.setTop (mkF m 13 #[.val (.ref b), .val (.int (Int32.ofNat mn)), .val (.int (Int32.ofNat cap))] [(.int (Int32.ofNat cap)), (.int (Int32.ofNat mn))])) _
    refine XS.isub X5.here hx rfl (hb hby dEc_13) rfl ?_
    exact Steps.refl _
  by_cases hfit : mn ≤ cap
  · have c8 : Steps p.tables e below S0 (T5.setTop (mkF m 38 #[.val (.ref b), .val (.int (Int32.ofNat mn)), .val (.int (Int32.ofNat cap))] [])) := by
      refine c7.trans ?_
      show Steps p.tables e below (T5.setTop (mkF m 14 #[.val (.ref b), .val (.int (Int32.ofNat mn)), .val (.int (Int32.ofNat cap))] [(.int ((Int32.ofNat mn) - (Int32.ofNat cap)))])) _
      refine XS.ifYes X5.here hx rfl (pc0 := 14) (pc' := 38) rfl (hb hby dEc_14) rfl ((if0 _ _).trans (flt (own_gt (by omega) (by omega) hfit)).2.2.2) (by decide) (by decide) ?_
      exact Steps.refl _
    obtain ⟨fs, hr, hrun, hended, hW, hsame⟩ := X5.leave (v := none) (fun _ => rfl)
    refine ⟨_, _, c8.trans ?_, hrun, hended, _, _, rfl, ?_, ⟨_, rfl⟩, hW, hsame.mono (by decide) (by decide)⟩
    · show Steps p.tables e below (T5.setTop (mkF m 38 #[.val (.ref b), .val (.int (Int32.ofNat mn)), .val (.int (Int32.ofNat cap))] [])) _
      exact X5.returnOut hx Bd.returns (hb hby dEc_38) hr
    · show QEc Z b t cap cs mn G1 h0 n0 _ T5.heap _
      rw [e5]
      exact ⟨rfl, N0, t, cap, B, hfit, Or.inl rfl, Keep.refl _ _⟩
  · have c9 : Steps p.tables e below S0 (T5.setTop (mkF m 17 #[.val (.ref b), .val (.int (Int32.ofNat mn)), .val (.int (Int32.ofNat cap))] [])) := by
      refine c7.trans ?_
      show Steps p.tables e below (T5.setTop (mkF m 14 #[.val (.ref b), .val (.int (Int32.ofNat mn)), .val (.int (Int32.ofNat cap))] [(.int ((Int32.ofNat mn) - (Int32.ofNat cap)))])) _
      refine XS.ifNo X5.here hx rfl (hb hby dEc_14) rfl ((if0 _ _).trans (tlt (own_gt' (by omega) (by omega) hfit)).2.2.2) ?_
      exact Steps.refl _
    have c10 : Steps p.tables e below S0 (T5.setTop (mkF m 19 #[.val (.ref b), .val (.int (Int32.ofNat mn)), .val (.int (Int32.ofNat cap))] [(.ref b), (.ref b)])) := by
      refine c9.trans ?_
      show Steps p.tables e below (T5.setTop (mkF m 17 #[.val (.ref b), .val (.int (Int32.ofNat mn)), .val (.int (Int32.ofNat cap))] [])) _
      refine XS.aloadN X5.here hx rfl (hb hby dEc_17) rfl rfl ?_
      show Steps p.tables e below (T5.setTop (mkF m 18 #[.val (.ref b), .val (.int (Int32.ofNat mn)), .val (.int (Int32.ofNat cap))] [(.ref b)])) _
      refine XS.aloadN X5.here hx rfl (hb hby dEc_18) rfl rfl ?_
      exact Steps.refl _
    obtain ⟨T11, X11, e11, st11⟩ := getF X5 hx hZ hown (host := "") (Or.inl (hw _ (List.mem_of_getElem? (i := 72) rfl))) Via.refl e5 Fva (g := (mkF m 19 #[.val (.ref b), .val (.int (Int32.ofNat mn)), .val (.int (Int32.ofNat cap))] [(.ref b), (.ref b)])) rfl rfl (hb hby dEc_19)
    have c11 : Steps p.tables e below S0 (T11.setTop (mkF m 22 #[.val (.ref b), .val (.int (Int32.ofNat mn)), .val (.int (Int32.ofNat cap))] [(.ref t), (.ref b)])) := by
      refine c10.trans ?_
      show Steps p.tables e below (T5.setTop (mkF m 19 #[.val (.ref b), .val (.int (Int32.ofNat mn)), .val (.int (Int32.ofNat cap))] [(.ref b), (.ref b)])) _
      refine st11 _ ?_
      exact Steps.refl _
    have c12 : Steps p.tables e below S0 (T11.setTop (mkF m 24 #[.val (.ref b), .val (.int (Int32.ofNat mn)), .val (.int (Int32.ofNat cap))] [(.int (Int32.ofNat mn)), (.ref b), (.ref t), (.ref b)])) := by
      refine c11.trans ?_
      show Steps p.tables e below (T11.setTop (mkF m 22 #[.val (.ref b), .val (.int (Int32.ofNat mn)), .val (.int (Int32.ofNat cap))] [(.ref t), (.ref b)])) _
      refine XS.aloadN X11.here hx rfl (hb hby dEc_22) rfl rfl ?_
      show Steps p.tables e below (T11.setTop (mkF m 23 #[.val (.ref b), .val (.int (Int32.ofNat mn)), .val (.int (Int32.ofNat cap))] [(.ref b), (.ref t), (.ref b)])) _
      refine XS.iloadN X11.here hx rfl (hb hby dEc_23) rfl ?_
      exact Steps.refl _
    obtain ⟨cq13, q13, q13'⟩ := (Eb).cell
    obtain ⟨_, _, ⟨T13, L13, k13, n13⟩, -, X13, ⟨Lc13, hQ13, l13, y13, z13⟩, st13⟩ := X11.privateBack hx (y := (⟨"java/lang/AbstractStringBuilder", "newCapacity", "(I)I"⟩ : MethodName)) hown (mvT hZ (hw _ (List.mem_of_getElem? (i := 206) rfl))) (mvT hZ (hw _ (List.mem_of_getElem? (i := 207) rfl))) (mvT hZ (own_selself (hw _ (List.mem_of_getElem? (i := 209) rfl)) (hw _ (List.mem_of_getElem? (i := 208) rfl)) (hw _ (List.mem_of_getElem? (i := 207) rfl)) (by decide))) (Cond.privateMethod_at (mvP hZ (hw _ (List.mem_of_getElem? (i := 208) rfl)) (args := #[]))) (mvT hZ (hw _ (List.mem_of_getElem? (i := 210) rfl))) (by decide) (backOf (W := 2) (rmNc l Z a0 hw [] b t cap cs mn h0 n0 Z0 B hmn hfit) hZ (hw _ (List.mem_of_getElem? (i := 210) rfl)) (hw _ (List.mem_of_getElem? (i := 68) rfl)) (by decide) (by decide)) (g := (mkF m 24 #[.val (.ref b), .val (.int (Int32.ofNat mn)), .val (.int (Int32.ofNat cap))] [(.int (Int32.ofNat mn)), (.ref b), (.ref t), (.ref b)])) rfl (by rw [hml]; rfl) (Steps.refl _) (a := b) (by rw [e11]; exact q13) q13' (argsL := [(.int (Int32.ofNat mn))]) (rest := [(.ref t), (.ref b)]) (lenOf pd5 rfl) rfl (by show 2 * 0 + _ ≤ _; exact Nat.le_of_eq rfl) (hb hby dEc_24) (fun _ _ => ⟨rfl, e11, (by decide : 0 + 0 ≤ _), (by decide : 0 + 0 ≤ _)⟩)
    dsimp only [Pt.U, Pt.locs, Pt.cells, Pt.slots] at X13 l13 y13 z13 st13 hQ13
    subst l13 y13 z13
    obtain ⟨⟨nc, rfl, hnc1, hnc2⟩, N1, e1⟩ := hQ13
    have c13 : Steps p.tables e below S0 (T13.setTop (mkF m 27 #[.val (.ref b), .val (.int (Int32.ofNat mn)), .val (.int (Int32.ofNat cap))] [(.int (Int32.ofNat nc)), (.ref t), (.ref b)])) := by
      refine c12.trans ?_
      show Steps p.tables e below (T11.setTop (mkF m 24 #[.val (.ref b), .val (.int (Int32.ofNat mn)), .val (.int (Int32.ofNat cap))] [(.int (Int32.ofNat mn)), (.ref b), (.ref t), (.ref b)])) _
      refine st13.trans ?_
      exact Steps.refl _
    have c14 : Steps p.tables e below S0 (T13.setTop (mkF m 28 #[.val (.ref b), .val (.int (Int32.ofNat mn)), .val (.int (Int32.ofNat cap))] [(.ref b), (.int (Int32.ofNat nc)), (.ref t), (.ref b)])) := by
      refine c13.trans ?_
      show Steps p.tables e below (T13.setTop (mkF m 27 #[.val (.ref b), .val (.int (Int32.ofNat mn)), .val (.int (Int32.ofNat cap))] [(.int (Int32.ofNat nc)), (.ref t), (.ref b)])) _
      refine XS.aloadN X13.here hx rfl (hb hby dEc_27) rfl rfl ?_
      exact Steps.refl _
    obtain ⟨T15, X15, e15, st15⟩ := getF X13 hx hZ hown (host := "") (Or.inl (hw _ (List.mem_of_getElem? (i := 74) rfl))) Via.refl e1 Fco (g := (mkF m 28 #[.val (.ref b), .val (.int (Int32.ofNat mn)), .val (.int (Int32.ofNat cap))] [(.ref b), (.int (Int32.ofNat nc)), (.ref t), (.ref b)])) rfl rfl (hb hby dEc_28)
    have c15 : Steps p.tables e below S0 (T15.setTop (mkF m 31 #[.val (.ref b), .val (.int (Int32.ofNat mn)), .val (.int (Int32.ofNat cap))] [(.int (0 : Int32)), (.int (Int32.ofNat nc)), (.ref t), (.ref b)])) := by
      refine c14.trans ?_
      show Steps p.tables e below (T13.setTop (mkF m 28 #[.val (.ref b), .val (.int (Int32.ofNat mn)), .val (.int (Int32.ofNat cap))] [(.ref b), (.int (Int32.ofNat nc)), (.ref t), (.ref b)])) _
      refine st15 _ ?_
      exact Steps.refl _
    have c16 : Steps p.tables e below S0 (T15.setTop (mkF m 32 #[.val (.ref b), .val (.int (Int32.ofNat mn)), .val (.int (Int32.ofNat cap))] [(.int ((Int32.ofNat nc) <<< ((0 : Int32) &&& 31))), (.ref t), (.ref b)])) := by
      refine c15.trans ?_
      show Steps p.tables e below (T15.setTop (mkF m 31 #[.val (.ref b), .val (.int (Int32.ofNat mn)), .val (.int (Int32.ofNat cap))] [(.int (0 : Int32)), (.int (Int32.ofNat nc)), (.ref t), (.ref b)])) _
      refine XS.ishl X15.here hx rfl (hb hby dEc_31) rfl ?_
      exact Steps.refl _
    rw [own_shl0] at c16
    obtain ⟨_, _, ⟨T17, L17, k17, n17⟩, -, X17, ⟨Lc17, hQ17, l17, y17, z17⟩, st17⟩ := Jvm.LawKit.callS X15 hx (y := (⟨"java/util/Arrays", "copyOf", "([BI)[B"⟩ : MethodName)) hown (mvT hZ (hw _ (List.mem_of_getElem? (i := 220) rfl))) (mvT hZ (hw _ (List.mem_of_getElem? (i := 221) rfl))) (mvT hZ (hw _ (List.mem_of_getElem? (i := 157) rfl))) (mvT hZ (hw _ (List.mem_of_getElem? (i := 222) rfl))) (by decide) (backOf (W := 1) (rmCp l Z a0 hw [] t kt cap cs nc h0 n0 Z0 Vt hcap (by omega) hnc2 hle) hZ (hw _ (List.mem_of_getElem? (i := 222) rfl)) (hw _ (List.mem_of_getElem? (i := 157) rfl)) (by decide) (by decide)) (g := (mkF m 32 #[.val (.ref b), .val (.int (Int32.ofNat mn)), .val (.int (Int32.ofNat cap))] [(.int (Int32.ofNat nc)), (.ref t), (.ref b)])) rfl (by rw [hml]; rfl) (argsL := [(.ref t), (.int (Int32.ofNat nc))]) (rest := [(.ref b)]) (lenOf pd6 rfl) rfl (by show 2 * 0 + _ ≤ _; exact Nat.le_of_eq rfl) (hb hby dEc_32) (fun _ _ => ⟨rfl, e15, (by decide : 0 + 1 ≤ _), (by decide : 0 + 210 ≤ _)⟩)
    dsimp only [Pt.U, Pt.locs, Pt.cells, Pt.slots] at X17 l17 y17 z17 st17 hQ17
    subst l17 y17 z17
    obtain ⟨⟨t2, k2, rfl, zt2, V2, Et2⟩, N2, K2⟩ := hQ17
    have c17 : Steps p.tables e below S0 (T17.setTop (mkF m 35 #[.val (.ref b), .val (.int (Int32.ofNat mn)), .val (.int (Int32.ofNat cap))] [(.ref t2), (.ref b)])) := by
      refine c16.trans ?_
      show Steps p.tables e below (T15.setTop (mkF m 32 #[.val (.ref b), .val (.int (Int32.ofNat mn)), .val (.int (Int32.ofNat cap))] [(.int (Int32.ofNat nc)), (.ref t), (.ref b)])) _
      refine st17 _ ?_
      exact Steps.refl _
    obtain ⟨T18, h18, X18, e18, W18, st18⟩ := putF X17 hx hZ hown (host := "") (Or.inl (hw _ (List.mem_of_getElem? (i := 72) rfl))) Via.refl rfl (Fva.keep K2 (fun q => by cases q)) (Eb.keep K2) (Or.inl (hw _ (List.mem_of_getElem? (i := 73) rfl))) (hw _ (List.mem_of_getElem? (i := 59) rfl)) (ty := (.array .byte)) (by decide) rfl rfl (g := (mkF m 35 #[.val (.ref b), .val (.int (Int32.ofNat mn)), .val (.int (Int32.ofNat cap))] [(.ref t2), (.ref b)])) rfl rfl (hb hby dEc_35)
    have c18 : Steps p.tables e below S0 (T18.setTop (mkF m 38 #[.val (.ref b), .val (.int (Int32.ofNat mn)), .val (.int (Int32.ofNat cap))] [])) := by
      refine c17.trans ?_
      show Steps p.tables e below (T17.setTop (mkF m 35 #[.val (.ref b), .val (.int (Int32.ofNat mn)), .val (.int (Int32.ofNat cap))] [(.ref t2), (.ref b)])) _
      refine st18 _ ?_
      exact Steps.refl _
    have nbt : t2 ≠ b := fun q => by subst q; exact absurd Eb.lt (Nat.not_lt.mpr zt2)
    obtain ⟨fs, hr, hrun, hended, hW, hsame⟩ := X18.leave (v := none) (fun _ => rfl)
    refine ⟨_, _, c18.trans ?_, hrun, hended, _, _, rfl, ?_, ⟨_, rfl⟩, hW, hsame.mono (by decide) (by decide)⟩
    · show Steps p.tables e below (T18.setTop (mkF m 38 #[.val (.ref b), .val (.int (Int32.ofNat mn)), .val (.int (Int32.ofNat cap))] [])) _
      exact X18.returnOut hx Bd.returns (hb hby dEc_38) hr
    · show QEc Z b t cap cs mn G1 h0 n0 _ T18.heap _
      rw [e18]
      exact ⟨rfl, Fr.snoc X18 (Fr.app (Fr.app N0 N1) N2) gb, t2, nc, ⟨(Eb.keep K2).wr W18, (Fco.keep K2 (fun q => by cases q)).other W18 (Or.inr (slot_ne (Or.inl (hw _ (List.mem_of_getElem? (i := 75) rfl))) (Or.inl (hw _ (List.mem_of_getElem? (i := 73) rfl))) (by decide) (t := .byte) (t' := (.array .byte)) (by decide) (by decide))), (Fcn.keep K2 (fun q => by cases q)).other W18 (Or.inr (slot_ne (Or.inl (hw _ (List.mem_of_getElem? (i := 98) rfl))) (Or.inl (hw _ (List.mem_of_getElem? (i := 73) rfl))) (by decide) (t := .int) (t' := (.array .byte)) (by decide) (by decide))), (Fva.keep K2 (fun q => by cases q)).same W18, ⟨_, V2.other W18 nbt, Et2.wr W18⟩, hch, by omega, by omega⟩, hnc1, Or.inr zt2, (own_Kmono K2 (fun x hx => by cases hx)).wr W18 (Or.inl (List.mem_of_getElem? (i := 0) rfl))⟩
def QAa (Z : State) (a : Addr) (ta : Addr) (ds : List Int32) (b : Addr) (t : Addr) (cap : Nat) (cs : List Int32) (G1 : Int32) (h0 : Heap) (n0 : Nat) (v : Option Value) (h : Heap) (L : List Loc) : Prop := v = some (.ref b) ∧ Fr n0 L ∧ ∃ (t' : Addr) (cap' : Nat), own_SB Z h b t' cap' (cs ++ ds) ∧ (t' = t ∨ h0.size ≤ t') ∧ Keep h0 h [b, t]
theorem efAa (m : MethodId) (b : Addr) (a : Addr) : entryFrame m #[(.ref b), (.ref a)] 3 = mkF m 0 #[.val (.ref b), .val (.ref a), .unset] [] := by first | (simp [entryFrame, mkF, argsToLocals, Value.category, List.replicate]; done) | rfl
set_option maxRecDepth 65536 in
set_option maxHeartbeats 40000000 in
theorem rmAa (l : Launch) (Z : State) (a0 : Array Value) (hw : ∀ d ∈ tables_1, d.before a0 Z = true) (ws : List Jvm.Cond) (a : Addr) (ta : Addr) (ds : List Int32) (b : Addr) (t : Addr) (cap : Nat) (cs : List Int32) (G1 : Int32) (h0 : Heap) (n0 : Nat) (Z0 : n0 ≤ h0.size) (O2 : Sta Z Z.heap "java/lang/String" "COMPACT_STRINGS" "Z" (.int G1)) (P5 : ¬ G1 = 0) (X00 : Old Z n0 h0) (S : own_Str Z h0 a ta ds) (hl : ds.length ≤ 500) (B : own_SB Z h0 b t cap cs) (hc : cs.length + ds.length ≤ 100) (gb : n0 ≤ b) (gt : n0 ≤ t) :
    MetFree l (⟨"java/lang/AbstractStringBuilder", "append", "(Ljava/lang/String;)Ljava/lang/AbstractStringBuilder;"⟩ : MethodName) (head1 (Jvm.Cond.code (⟨"java/lang/AbstractStringBuilder", "append", "(Ljava/lang/String;)Ljava/lang/AbstractStringBuilder;"⟩ : MethodName) jdk_68_method_22_code 3 (some (.object "java/lang/AbstractStringBuilder")) :: ws) ({ frames := 5, cells := 1, slots := 210, locals := 150 } : Room)) (fun aa UU => aa = #[(.ref b), (.ref a)] ∧ Z.Warmed39 UU.vm ∧ UU.heap = h0) (fun _ _ _ _ _ => True) (fun _ UU oo UT => ∃ vv LL, oo = .returned vv ∧ QAa Z a ta ds b t cap cs G1 h0 n0 vv UT.heap LL ∧ FrameEnd UU oo UT LL ({ frames := 5, cells := 1, slots := 210, locals := 150 } : Room).cells ({ frames := 5, cells := 1, slots := 210, locals := 150 } : Room).slots) := by
  refine MetFree.of_bodySF (by decide +kernel) hisR ?_
  intro p e s m args below meth c s₁ Bd hml0 hP hK
  obtain ⟨rfl, hZ, hh⟩ := hP
  have hx := Bd.exec
  have hby := Bd.bytes
  have hml : c.maxLocals = 3 := hml0
  have hown : s.vm.findClass "java/lang/AbstractStringBuilder" = some m.cls := findClass_of_methodNamed Bd.named
  have hnm := (name_of_methodNamed Bd.named Bd.method).1
  have X0 : Stand p l e ({ frames := 5, cells := 1, slots := 210, locals := 150 } : Room) s m #[(.ref b), (.ref a)] below meth c s₁ [] 0 0 := Stand.of_body Bd
  have e0 : s₁.heap = h0 := by rw [← hh, Bd.state]; rfl
  have N0 := Fr.nil n0
  have c0 : Steps p.tables e below (s₁.setTop (entryFrame m #[(.ref b), (.ref a)] 3)) (s₁.setTop (mkF m 0 #[.val (.ref b), .val (.ref a), .unset] [])) := castTop (efAa m b a) (Steps.refl _)
  show ∃ s₂ oo, Steps p.tables e below (s₁.setTop (entryFrame m #[(.ref b), (.ref a)] 3)) s₂ ∧ _ ∧ _ ∧ _
  generalize s₁.setTop (entryFrame m #[(.ref b), (.ref a)] 3) = S0 at c0 ⊢
  obtain ⟨Eb, Fco, Fcn, Fva, ⟨kt, Vt, Et⟩, hch, hle, hcap⟩ := id B
  have c1 : Steps p.tables e below S0 (s₁.setTop (mkF m 9 #[.val (.ref b), .val (.ref a), .unset] [])) := by
    refine c0.trans ?_
    show Steps p.tables e below (s₁.setTop (mkF m 0 #[.val (.ref b), .val (.ref a), .unset] [])) _
    refine XS.aloadN X0.here hx rfl (hb hby dAa_0) rfl rfl ?_
    show Steps p.tables e below (s₁.setTop (mkF m 1 #[.val (.ref b), .val (.ref a), .unset] [(.ref a)])) _
    refine XS.ifnonnullYes X0.here hx rfl (pc0 := 1) (pc' := 9) rfl (hb hby dAa_1) rfl (by decide) (by decide) ?_
    exact Steps.refl _
  have c2 : Steps p.tables e below S0 (s₁.setTop (mkF m 10 #[.val (.ref b), .val (.ref a), .unset] [(.ref a)])) := by
    refine c1.trans ?_
    show Steps p.tables e below (s₁.setTop (mkF m 9 #[.val (.ref b), .val (.ref a), .unset] [])) _
    refine XS.aloadN X0.here hx rfl (hb hby dAa_9) rfl rfl ?_
    exact Steps.refl _
  obtain ⟨cq3, kq3, q3a, q3b, q3c⟩ := isOf hZ e0 S.1
  obtain ⟨_, _, ⟨T3, L3, k3, n3⟩, -, X3, ⟨Lc3, hQ3, l3, y3, z3⟩, st3⟩ := X0.virtualBack hx (y := (⟨"java/lang/String", "length", "()I"⟩ : MethodName)) (z := (⟨"java/lang/String", "length", "()I"⟩ : MethodName)) hown (mvT hZ (hw _ (List.mem_of_getElem? (i := 87) rfl))) (mvT hZ (hw _ (List.mem_of_getElem? (i := 88) rfl))) (notFace_of_selects (args := #[]) (mvT hZ (hw _ (List.mem_of_getElem? (i := 90) rfl)))) (mvT hZ (hw _ (List.mem_of_getElem? (i := 90) rfl))) (mvT hZ (hw _ (List.mem_of_getElem? (i := 89) rfl))) (by decide) (backOf (W := 0) (rmLe l Z a0 hw [] a ta ds G1 h0 n0 Z0 O2 P5 X00 S (by omega)) hZ (hw _ (List.mem_of_getElem? (i := 91) rfl)) (hw _ (List.mem_of_getElem? (i := 6) rfl)) (by decide) (by decide)) q3a q3c (g := (mkF m 10 #[.val (.ref b), .val (.ref a), .unset] [(.ref a)])) rfl (by rw [hml]; rfl) (Steps.refl _) (argsL := []) (rest := []) (lenOf pd7 rfl) rfl (by show 2 * 0 + _ ≤ _; exact Nat.le_of_eq rfl) (hb hby dAa_10) (fun _ _ => ⟨rfl, e0, (by decide : 0 + 0 ≤ _), (by decide : 0 + 0 ≤ _)⟩)
  dsimp only [Pt.U, Pt.locs, Pt.cells, Pt.slots] at X3 l3 y3 z3 st3 hQ3
  subst l3 y3 z3
  obtain ⟨rfl, N1, e1⟩ := hQ3
  have c3 : Steps p.tables e below S0 (T3.setTop (mkF m 13 #[.val (.ref b), .val (.ref a), .unset] [(.int (Int32.ofNat ds.length))])) := by
    refine c2.trans ?_
    show Steps p.tables e below (s₁.setTop (mkF m 10 #[.val (.ref b), .val (.ref a), .unset] [(.ref a)])) _
    refine st3.trans ?_
    exact Steps.refl _
  have c4 : Steps p.tables e below S0 (T3.setTop (mkF m 16 #[.val (.ref b), .val (.ref a), .val (.int (Int32.ofNat ds.length))] [(.ref b), (.ref b)])) := by
    refine c3.trans ?_
    show Steps p.tables e below (T3.setTop (mkF m 13 #[.val (.ref b), .val (.ref a), .unset] [(.int (Int32.ofNat ds.length))])) _
    refine XS.istoreN X3.here hx rfl (hb hby dAa_13) rfl (l' := #[.val (.ref b), .val (.ref a), .val (.int (Int32.ofNat ds.length))]) rfl ?_
    show Steps p.tables e below (T3.setTop (mkF m 14 #[.val (.ref b), .val (.ref a), .val (.int (Int32.ofNat ds.length))] [])) _
    refine XS.aloadN X3.here hx rfl (hb hby dAa_14) rfl rfl ?_
    show Steps p.tables e below (T3.setTop (mkF m 15 #[.val (.ref b), .val (.ref a), .val (.int (Int32.ofNat ds.length))] [(.ref b)])) _
    refine XS.aloadN X3.here hx rfl (hb hby dAa_15) rfl rfl ?_
    exact Steps.refl _
  obtain ⟨T5, X5, e5, st5⟩ := getF X3 hx hZ hown (host := "") (Or.inl (hw _ (List.mem_of_getElem? (i := 97) rfl))) Via.refl e1 Fcn (g := (mkF m 16 #[.val (.ref b), .val (.ref a), .val (.int (Int32.ofNat ds.length))] [(.ref b), (.ref b)])) rfl rfl (hb hby dAa_16)
  have c5 : Steps p.tables e below S0 (T5.setTop (mkF m 19 #[.val (.ref b), .val (.ref a), .val (.int (Int32.ofNat ds.length))] [(.int (Int32.ofNat cs.length)), (.ref b)])) := by
    refine c4.trans ?_
    show Steps p.tables e below (T3.setTop (mkF m 16 #[.val (.ref b), .val (.ref a), .val (.int (Int32.ofNat ds.length))] [(.ref b), (.ref b)])) _
    refine st5 _ ?_
    exact Steps.refl _
  have c6 : Steps p.tables e below S0 (T5.setTop (mkF m 21 #[.val (.ref b), .val (.ref a), .val (.int (Int32.ofNat ds.length))] [(.int ((Int32.ofNat cs.length) + (Int32.ofNat ds.length))), (.ref b)])) := by
    refine c5.trans ?_
    show Steps p.tables e below (T5.setTop (mkF m 19 #[.val (.ref b), .val (.ref a), .val (.int (Int32.ofNat ds.length))] [(.int (Int32.ofNat cs.length)), (.ref b)])) _
    refine XS.iloadN X5.here hx rfl (hb hby dAa_19) rfl ?_
    show Steps p.tables e below (T5.setTop (mkF m 20 #[.val (.ref b), .val (.ref a), .val (.int (Int32.ofNat ds.length))] [(.int (Int32.ofNat ds.length)), (.int (Int32.ofNat cs.length)), (.ref b)])) _
    refine XS.iadd X5.here hx rfl (hb hby dAa_20) rfl ?_
    exact Steps.refl _
  rw [own_addn (by omega)] at c6
  obtain ⟨cq7, q7, q7'⟩ := (Eb).cell
  obtain ⟨_, _, ⟨T7, L7, k7, n7⟩, -, X7, ⟨Lc7, hQ7, l7, y7, z7⟩, st7⟩ := X5.privateBack hx (y := (⟨"java/lang/AbstractStringBuilder", "ensureCapacityInternal", "(I)V"⟩ : MethodName)) hown (mvT hZ (hw _ (List.mem_of_getElem? (i := 99) rfl))) (mvT hZ (hw _ (List.mem_of_getElem? (i := 100) rfl))) (mvT hZ (own_selself (hw _ (List.mem_of_getElem? (i := 102) rfl)) (hw _ (List.mem_of_getElem? (i := 101) rfl)) (hw _ (List.mem_of_getElem? (i := 100) rfl)) (by decide))) (Cond.privateMethod_at (mvP hZ (hw _ (List.mem_of_getElem? (i := 101) rfl)) (args := #[]))) (mvT hZ (hw _ (List.mem_of_getElem? (i := 103) rfl))) (by decide) (backOf (W := 0) (rmEc l Z a0 hw [] b t cap cs (cs.length + ds.length) G1 h0 n0 Z0 B hc gb) hZ (hw _ (List.mem_of_getElem? (i := 103) rfl)) (hw _ (List.mem_of_getElem? (i := 68) rfl)) (by decide) (by decide)) (g := (mkF m 21 #[.val (.ref b), .val (.ref a), .val (.int (Int32.ofNat ds.length))] [(.int (Int32.ofNat (cs.length + ds.length))), (.ref b)])) rfl (by rw [hml]; rfl) (Steps.refl _) (a := b) (by rw [e5]; exact q7) q7' (argsL := [(.int (Int32.ofNat (cs.length + ds.length)))]) (rest := []) (lenOf pd8 rfl) rfl (by show 2 * 0 + _ ≤ _; exact Nat.le_of_eq rfl) (hb hby dAa_21) (fun _ _ => ⟨rfl, e5, (by decide : 0 + 1 ≤ _), (by decide : 0 + 210 ≤ _)⟩)
  dsimp only [Pt.U, Pt.locs, Pt.cells, Pt.slots] at X7 l7 y7 z7 st7 hQ7
  subst l7 y7 z7
  obtain ⟨rfl, N2, t2, cap2, B2, hc2, ht2, K2⟩ := hQ7
  have c7 : Steps p.tables e below S0 (T7.setTop (mkF m 24 #[.val (.ref b), .val (.ref a), .val (.int (Int32.ofNat ds.length))] [])) := by
    refine c6.trans ?_
    show Steps p.tables e below (T5.setTop (mkF m 21 #[.val (.ref b), .val (.ref a), .val (.int (Int32.ofNat ds.length))] [(.int (Int32.ofNat (cs.length + ds.length))), (.ref b)])) _
    refine st7.trans ?_
    exact Steps.refl _
  have gt2 : n0 ≤ t2 := ht2.elim (fun q => q ▸ gt) (fun q => Nat.le_trans Z0 q)
  have ng : b ≠ a := Eb.ne S.1 (by decide)
  have ng2 : b ≠ ta := Eb.neArv S.2.2.2.1.choose_spec (hw _ (List.mem_of_getElem? (i := 59) rfl))
  have S2 := S.keep K2 (fun q => ng (List.mem_singleton.mp q).symm) (fun q => ng2 (List.mem_singleton.mp q).symm)
  have X02 := X00.keep K2 (fun x hx => by cases List.mem_singleton.mp hx; exact gb)
  obtain ⟨Eb2, Fco2, Fcn2, Fva2, ⟨kt2, Vt2, Et2⟩, -, -, hcap2⟩ := id B2
  have Z2 := Nat.le_trans Z0 K2.1
  have c8 : Steps p.tables e below S0 (T7.setTop (mkF m 26 #[.val (.ref b), .val (.ref a), .val (.int (Int32.ofNat ds.length))] [(.ref b), (.ref b)])) := by
    refine c7.trans ?_
    show Steps p.tables e below (T7.setTop (mkF m 24 #[.val (.ref b), .val (.ref a), .val (.int (Int32.ofNat ds.length))] [])) _
    refine XS.aloadN X7.here hx rfl (hb hby dAa_24) rfl rfl ?_
    show Steps p.tables e below (T7.setTop (mkF m 25 #[.val (.ref b), .val (.ref a), .val (.int (Int32.ofNat ds.length))] [(.ref b)])) _
    refine XS.aloadN X7.here hx rfl (hb hby dAa_25) rfl rfl ?_
    exact Steps.refl _
  obtain ⟨T9, X9, e9, st9⟩ := getF X7 hx hZ hown (host := "") (Or.inl (hw _ (List.mem_of_getElem? (i := 97) rfl))) Via.refl rfl Fcn2 (g := (mkF m 26 #[.val (.ref b), .val (.ref a), .val (.int (Int32.ofNat ds.length))] [(.ref b), (.ref b)])) rfl rfl (hb hby dAa_26)
  have c9 : Steps p.tables e below S0 (T9.setTop (mkF m 29 #[.val (.ref b), .val (.ref a), .val (.int (Int32.ofNat ds.length))] [(.int (Int32.ofNat cs.length)), (.ref b)])) := by
    refine c8.trans ?_
    show Steps p.tables e below (T7.setTop (mkF m 26 #[.val (.ref b), .val (.ref a), .val (.int (Int32.ofNat ds.length))] [(.ref b), (.ref b)])) _
    refine st9 _ ?_
    exact Steps.refl _
  have c10 : Steps p.tables e below S0 (T9.setTop (mkF m 30 #[.val (.ref b), .val (.ref a), .val (.int (Int32.ofNat ds.length))] [(.ref a), (.int (Int32.ofNat cs.length)), (.ref b)])) := by
    refine c9.trans ?_
    show Steps p.tables e below (T9.setTop (mkF m 29 #[.val (.ref b), .val (.ref a), .val (.int (Int32.ofNat ds.length))] [(.int (Int32.ofNat cs.length)), (.ref b)])) _
    refine XS.aloadN X9.here hx rfl (hb hby dAa_29) rfl rfl ?_
    exact Steps.refl _
  obtain ⟨cq11, q11, q11'⟩ := (Eb2).cell
  obtain ⟨_, _, ⟨T11, L11, k11, n11⟩, -, X11, ⟨Lc11, hQ11, l11, y11, z11⟩, st11⟩ := X9.privateBack hx (y := (⟨"java/lang/AbstractStringBuilder", "putStringAt", "(ILjava/lang/String;)V"⟩ : MethodName)) hown (mvT hZ (hw _ (List.mem_of_getElem? (i := 104) rfl))) (mvT hZ (hw _ (List.mem_of_getElem? (i := 105) rfl))) (mvT hZ (own_selself (hw _ (List.mem_of_getElem? (i := 107) rfl)) (hw _ (List.mem_of_getElem? (i := 106) rfl)) (hw _ (List.mem_of_getElem? (i := 105) rfl)) (by decide))) (Cond.privateMethod_at (mvP hZ (hw _ (List.mem_of_getElem? (i := 106) rfl)) (args := #[]))) (mvT hZ (hw _ (List.mem_of_getElem? (i := 108) rfl))) (by decide) (backOf (W := 0) (rmPs l Z a0 hw [] a ta ds b t2 cap2 cs G1 T7.heap n0 Z2 O2 P5 X02 S2 hl B2 hc2 gt2) hZ (hw _ (List.mem_of_getElem? (i := 108) rfl)) (hw _ (List.mem_of_getElem? (i := 68) rfl)) (by decide) (by decide)) (g := (mkF m 30 #[.val (.ref b), .val (.ref a), .val (.int (Int32.ofNat ds.length))] [(.ref a), (.int (Int32.ofNat cs.length)), (.ref b)])) rfl (by rw [hml]; rfl) (Steps.refl _) (a := b) (by rw [e9]; exact q11) q11' (argsL := [(.int (Int32.ofNat cs.length)), (.ref a)]) (rest := []) (lenOf pd9 rfl) rfl (by show 2 * 0 + _ ≤ _; exact Nat.le_of_eq rfl) (hb hby dAa_30) (fun _ _ => ⟨rfl, e9, (by decide : 1 + 0 ≤ _), (by decide : 210 + 0 ≤ _)⟩)
  dsimp only [Pt.U, Pt.locs, Pt.cells, Pt.slots] at X11 l11 y11 z11 st11 hQ11
  subst l11 y11 z11
  obtain ⟨rfl, N3, K3, k3, V3⟩ := hQ11
  have c11 : Steps p.tables e below S0 (T11.setTop (mkF m 33 #[.val (.ref b), .val (.ref a), .val (.int (Int32.ofNat ds.length))] [])) := by
    refine c10.trans ?_
    show Steps p.tables e below (T9.setTop (mkF m 30 #[.val (.ref b), .val (.ref a), .val (.int (Int32.ofNat ds.length))] [(.ref a), (.int (Int32.ofNat cs.length)), (.ref b)])) _
    refine st11.trans ?_
    exact Steps.refl _
  have nbt : b ≠ t2 := Eb2.neArv B2.2.2.2.2.1.choose_spec.1 (hw _ (List.mem_of_getElem? (i := 59) rfl))
  have nb' : b ∉ [t2] := fun q => nbt (List.mem_singleton.mp q)
  have c12 : Steps p.tables e below S0 (T11.setTop (mkF m 35 #[.val (.ref b), .val (.ref a), .val (.int (Int32.ofNat ds.length))] [(.ref b), (.ref b)])) := by
    refine c11.trans ?_
    show Steps p.tables e below (T11.setTop (mkF m 33 #[.val (.ref b), .val (.ref a), .val (.int (Int32.ofNat ds.length))] [])) _
    refine XS.aloadN X11.here hx rfl (hb hby dAa_33) rfl rfl ?_
    show Steps p.tables e below (T11.setTop (mkF m 34 #[.val (.ref b), .val (.ref a), .val (.int (Int32.ofNat ds.length))] [(.ref b)])) _
    refine XS.dup X11.here hx rfl (hb hby dAa_34) rfl rfl ?_
    exact Steps.refl _
  obtain ⟨T13, X13, e13, st13⟩ := getF X11 hx hZ hown (host := "") (Or.inl (hw _ (List.mem_of_getElem? (i := 97) rfl))) Via.refl rfl (Fcn2.keep K3 nb') (g := (mkF m 35 #[.val (.ref b), .val (.ref a), .val (.int (Int32.ofNat ds.length))] [(.ref b), (.ref b)])) rfl rfl (hb hby dAa_35)
  have c13 : Steps p.tables e below S0 (T13.setTop (mkF m 38 #[.val (.ref b), .val (.ref a), .val (.int (Int32.ofNat ds.length))] [(.int (Int32.ofNat cs.length)), (.ref b)])) := by
    refine c12.trans ?_
    show Steps p.tables e below (T11.setTop (mkF m 35 #[.val (.ref b), .val (.ref a), .val (.int (Int32.ofNat ds.length))] [(.ref b), (.ref b)])) _
    refine st13 _ ?_
    exact Steps.refl _
  have c14 : Steps p.tables e below S0 (T13.setTop (mkF m 40 #[.val (.ref b), .val (.ref a), .val (.int (Int32.ofNat ds.length))] [(.int ((Int32.ofNat cs.length) + (Int32.ofNat ds.length))), (.ref b)])) := by
    refine c13.trans ?_
    show Steps p.tables e below (T13.setTop (mkF m 38 #[.val (.ref b), .val (.ref a), .val (.int (Int32.ofNat ds.length))] [(.int (Int32.ofNat cs.length)), (.ref b)])) _
    refine XS.iloadN X13.here hx rfl (hb hby dAa_38) rfl ?_
    show Steps p.tables e below (T13.setTop (mkF m 39 #[.val (.ref b), .val (.ref a), .val (.int (Int32.ofNat ds.length))] [(.int (Int32.ofNat ds.length)), (.int (Int32.ofNat cs.length)), (.ref b)])) _
    refine XS.iadd X13.here hx rfl (hb hby dAa_39) rfl ?_
    exact Steps.refl _
  rw [own_addn (by omega)] at c14
  obtain ⟨T15, h15, X15, e15, W15, st15⟩ := putF X13 hx hZ hown (host := "") (Or.inl (hw _ (List.mem_of_getElem? (i := 97) rfl))) Via.refl e13 (Fcn2.keep K3 nb') (Eb2.keep K3) (Or.inl (hw _ (List.mem_of_getElem? (i := 98) rfl))) (hw _ (List.mem_of_getElem? (i := 59) rfl)) (ty := .int) (by decide) rfl rfl (g := (mkF m 40 #[.val (.ref b), .val (.ref a), .val (.int (Int32.ofNat ds.length))] [(.int (Int32.ofNat (cs.length + ds.length))), (.ref b)])) rfl rfl (hb hby dAa_40)
  have c15 : Steps p.tables e below S0 (T15.setTop (mkF m 43 #[.val (.ref b), .val (.ref a), .val (.int (Int32.ofNat ds.length))] [])) := by
    refine c14.trans ?_
    show Steps p.tables e below (T13.setTop (mkF m 40 #[.val (.ref b), .val (.ref a), .val (.int (Int32.ofNat ds.length))] [(.int (Int32.ofNat (cs.length + ds.length))), (.ref b)])) _
    refine st15 _ ?_
    exact Steps.refl _
  have Kx : Keep h0 h15 [b, t] := by
    have q1 : Keep h0 T7.heap [b, t] := own_Kmono K2 (fun x hx => by cases List.mem_singleton.mp hx; simp)
    have q2 := q1.trans K3 (fun x hx => by cases List.mem_singleton.mp hx; exact ht2.imp (fun q => by rw [q]; simp) id)
    exact q2.wr W15 (Or.inl (List.mem_of_getElem? (i := 0) rfl))
  have Bf : own_SB Z h15 b t2 cap2 (cs ++ ds) := ⟨(Eb2.keep K3).wr W15, (Fco2.keep K3 nb').other W15 (Or.inr (slot_ne (Or.inl (hw _ (List.mem_of_getElem? (i := 75) rfl))) (Or.inl (hw _ (List.mem_of_getElem? (i := 98) rfl))) (by decide) (t := .byte) (t' := .int) (by decide) (by decide))), by rw [List.length_append]; exact (Fcn2.keep K3 nb').same W15, (Fva2.keep K3 nb').other W15 (Or.inr (slot_ne (Or.inl (hw _ (List.mem_of_getElem? (i := 73) rfl))) (Or.inl (hw _ (List.mem_of_getElem? (i := 98) rfl))) (by decide) (t := (.array .byte)) (t' := .int) (by decide) (by decide))), ⟨_, V3.other W15 (Ne.symm nbt), (Et2.keep K3).wr W15⟩, (fun c' hc' => (List.mem_append.mp hc').elim (hch c') (S.2.2.2.2.1 c')), by rw [List.length_append]; exact hc2, hcap2⟩
  have c16 : Steps p.tables e below S0 (T15.setTop (mkF m 44 #[.val (.ref b), .val (.ref a), .val (.int (Int32.ofNat ds.length))] [(.ref b)])) := by
    refine c15.trans ?_
    show Steps p.tables e below (T15.setTop (mkF m 43 #[.val (.ref b), .val (.ref a), .val (.int (Int32.ofNat ds.length))] [])) _
    refine XS.aloadN X15.here hx rfl (hb hby dAa_43) rfl rfl ?_
    exact Steps.refl _
  obtain ⟨fs, hr, hrun, hended, hW, hsame⟩ := X15.leave (v := some (.ref b)) (fun h => by rw [Bd.returns] at h; cases h)
  refine ⟨_, _, c16.trans ?_, hrun, hended, _, _, rfl, ?_, ⟨_, rfl⟩, hW, hsame.mono (by decide) (by decide)⟩
  · show Steps p.tables e below (T15.setTop (mkF m 44 #[.val (.ref b), .val (.ref a), .val (.int (Int32.ofNat ds.length))] [(.ref b)])) _
    exact retA X15 hx Bd.returns rfl rfl (hb hby dAa_44) hr
  · show QAa Z a ta ds b t cap cs G1 h0 n0 _ T15.heap _
    rw [e15]
    exact ⟨rfl, Fr.snoc X15 (Fr.app (Fr.app (Fr.app N0 N1) N2) N3) gb, t2, cap2, Bf, ht2, Kx⟩
def QSa (Z : State) (a : Addr) (ta : Addr) (ds : List Int32) (b : Addr) (t : Addr) (cap : Nat) (cs : List Int32) (G1 : Int32) (h0 : Heap) (n0 : Nat) (v : Option Value) (h : Heap) (L : List Loc) : Prop := v = some (.ref b) ∧ Fr n0 L ∧ ∃ (t' : Addr) (cap' : Nat), own_SB Z h b t' cap' (cs ++ ds) ∧ (t' = t ∨ h0.size ≤ t') ∧ Keep h0 h [b, t]
theorem efSa (m : MethodId) (b : Addr) (a : Addr) : entryFrame m #[(.ref b), (.ref a)] 2 = mkF m 0 #[.val (.ref b), .val (.ref a)] [] := by first | (simp [entryFrame, mkF, argsToLocals, Value.category, List.replicate]; done) | rfl
set_option maxRecDepth 65536 in
set_option maxHeartbeats 40000000 in
theorem rmSa (l : Launch) (Z : State) (a0 : Array Value) (hw : ∀ d ∈ tables_1, d.before a0 Z = true) (ws : List Jvm.Cond) (a : Addr) (ta : Addr) (ds : List Int32) (b : Addr) (t : Addr) (cap : Nat) (cs : List Int32) (G1 : Int32) (h0 : Heap) (n0 : Nat) (Z0 : n0 ≤ h0.size) (O2 : Sta Z Z.heap "java/lang/String" "COMPACT_STRINGS" "Z" (.int G1)) (P5 : ¬ G1 = 0) (X00 : Old Z n0 h0) (S : own_Str Z h0 a ta ds) (hl : ds.length ≤ 500) (B : own_SB Z h0 b t cap cs) (hc : cs.length + ds.length ≤ 100) (gb : n0 ≤ b) (gt : n0 ≤ t) :
    MetFree l (⟨"java/lang/StringBuilder", "append", "(Ljava/lang/String;)Ljava/lang/StringBuilder;"⟩ : MethodName) (head1 (Jvm.Cond.code (⟨"java/lang/StringBuilder", "append", "(Ljava/lang/String;)Ljava/lang/StringBuilder;"⟩ : MethodName) jdk_67_method_7_code 2 (some (.object "java/lang/StringBuilder")) :: ws) ({ frames := 6, cells := 1, slots := 210, locals := 180 } : Room)) (fun aa UU => aa = #[(.ref b), (.ref a)] ∧ Z.Warmed39 UU.vm ∧ UU.heap = h0) (fun _ _ _ _ _ => True) (fun _ UU oo UT => ∃ vv LL, oo = .returned vv ∧ QSa Z a ta ds b t cap cs G1 h0 n0 vv UT.heap LL ∧ FrameEnd UU oo UT LL ({ frames := 6, cells := 1, slots := 210, locals := 180 } : Room).cells ({ frames := 6, cells := 1, slots := 210, locals := 180 } : Room).slots) := by
  refine MetFree.of_bodySF (by decide +kernel) hisR ?_
  intro p e s m args below meth c s₁ Bd hml0 hP hK
  obtain ⟨rfl, hZ, hh⟩ := hP
  have hx := Bd.exec
  have hby := Bd.bytes
  have hml : c.maxLocals = 2 := hml0
  have hown : s.vm.findClass "java/lang/StringBuilder" = some m.cls := findClass_of_methodNamed Bd.named
  have hnm := (name_of_methodNamed Bd.named Bd.method).1
  have X0 : Stand p l e ({ frames := 6, cells := 1, slots := 210, locals := 180 } : Room) s m #[(.ref b), (.ref a)] below meth c s₁ [] 0 0 := Stand.of_body Bd
  have e0 : s₁.heap = h0 := by rw [← hh, Bd.state]; rfl
  have N0 := Fr.nil n0
  have c0 : Steps p.tables e below (s₁.setTop (entryFrame m #[(.ref b), (.ref a)] 2)) (s₁.setTop (mkF m 0 #[.val (.ref b), .val (.ref a)] [])) := castTop (efSa m b a) (Steps.refl _)
  show ∃ s₂ oo, Steps p.tables e below (s₁.setTop (entryFrame m #[(.ref b), (.ref a)] 2)) s₂ ∧ _ ∧ _ ∧ _
  generalize s₁.setTop (entryFrame m #[(.ref b), (.ref a)] 2) = S0 at c0 ⊢
  have c1 : Steps p.tables e below S0 (s₁.setTop (mkF m 2 #[.val (.ref b), .val (.ref a)] [(.ref a), (.ref b)])) := by
    refine c0.trans ?_
    show Steps p.tables e below (s₁.setTop (mkF m 0 #[.val (.ref b), .val (.ref a)] [])) _
    refine XS.aloadN X0.here hx rfl (hb hby dSa_0) rfl rfl ?_
    show Steps p.tables e below (s₁.setTop (mkF m 1 #[.val (.ref b), .val (.ref a)] [(.ref b)])) _
    refine XS.aloadN X0.here hx rfl (hb hby dSa_1) rfl rfl ?_
    exact Steps.refl _
  obtain ⟨_, _, ⟨T2, L2, k2, n2⟩, -, X2, ⟨Lc2, hQ2, l2, y2, z2⟩, st2⟩ := superBack X0 hx hZ (y := (⟨"java/lang/AbstractStringBuilder", "append", "(Ljava/lang/String;)Ljava/lang/AbstractStringBuilder;"⟩ : MethodName)) hown (hw _ (List.mem_of_getElem? (i := 82) rfl)) (own_same (hw _ (List.mem_of_getElem? (i := 83) rfl)) ⟨own_NI_of (y := (⟨"java/lang/AbstractStringBuilder", "putStringAt", "(ILjava/lang/String;)V"⟩ : MethodName)) (hw _ (List.mem_of_getElem? (i := 107) rfl)), by decide⟩) (hw _ (List.mem_of_getElem? (i := 83) rfl)) (hw _ (List.mem_of_getElem? (i := 84) rfl)) (by decide) (backOf (W := 0) (rmAa l Z a0 hw [] a ta ds b t cap cs G1 h0 n0 Z0 O2 P5 X00 S hl B hc gb gt) hZ (hw _ (List.mem_of_getElem? (i := 86) rfl)) (hw _ (List.mem_of_getElem? (i := 68) rfl)) (by decide) (by decide)) e0 (Ins.self (B.1)) (g := (mkF m 2 #[.val (.ref b), .val (.ref a)] [(.ref a), (.ref b)])) rfl (by rw [hml]; rfl) (hw _ (List.mem_of_getElem? (i := 86) rfl)) (argsL := [(.ref a)]) (rest := []) (lenOf pd10 rfl) rfl (by show 2 * 0 + _ ≤ _; exact Nat.le_of_eq rfl) (hb hby dSa_2) (fun _ _ => ⟨rfl, e0, (by decide : 0 + 1 ≤ _), (by decide : 0 + 210 ≤ _)⟩)
  dsimp only [Pt.U, Pt.locs, Pt.cells, Pt.slots] at X2 l2 y2 z2 st2 hQ2
  subst l2 y2 z2
  obtain ⟨rfl, N1, D1⟩ := hQ2
  have c2 : Steps p.tables e below S0 (T2.setTop (mkF m 5 #[.val (.ref b), .val (.ref a)] [(.ref b)])) := by
    refine c1.trans ?_
    show Steps p.tables e below (s₁.setTop (mkF m 2 #[.val (.ref b), .val (.ref a)] [(.ref a), (.ref b)])) _
    refine st2.trans ?_
    exact Steps.refl _
  have c3 : Steps p.tables e below S0 (T2.setTop (mkF m 7 #[.val (.ref b), .val (.ref a)] [(.ref b)])) := by
    refine c2.trans ?_
    show Steps p.tables e below (T2.setTop (mkF m 5 #[.val (.ref b), .val (.ref a)] [(.ref b)])) _
    refine XS.pop X2.here hx rfl (hb hby dSa_5) rfl rfl ?_
    show Steps p.tables e below (T2.setTop (mkF m 6 #[.val (.ref b), .val (.ref a)] [])) _
    refine XS.aloadN X2.here hx rfl (hb hby dSa_6) rfl rfl ?_
    exact Steps.refl _
  obtain ⟨fs, hr, hrun, hended, hW, hsame⟩ := X2.leave (v := some (.ref b)) (fun h => by rw [Bd.returns] at h; cases h)
  refine ⟨_, _, c3.trans ?_, hrun, hended, _, _, rfl, ?_, ⟨_, rfl⟩, hW, hsame.mono (by decide) (by decide)⟩
  · show Steps p.tables e below (T2.setTop (mkF m 7 #[.val (.ref b), .val (.ref a)] [(.ref b)])) _
    exact retA X2 hx Bd.returns rfl rfl (hb hby dSa_7) hr
  · show QSa Z a ta ds b t cap cs G1 h0 n0 _ T2.heap _
    exact ⟨rfl, Fr.app N0 N1, D1⟩
def QAi (Z : State) (b : Addr) (G1 : Int32) (h0 : Heap) (n0 : Nat) (v : Option Value) (h : Heap) (L : List Loc) : Prop := v = none ∧ Fr n0 L ∧ Keep h0 h [b] ∧ ∃ t : Addr, h0.size ≤ t ∧ own_SB Z h b t 16 []
theorem efAi (m : MethodId) (b : Addr) : entryFrame m #[(.ref b), (.int (16 : Int32))] 2 = mkF m 0 #[.val (.ref b), .val (.int (16 : Int32))] [] := by first | (simp [entryFrame, mkF, argsToLocals, Value.category, List.replicate]; done) | rfl
set_option maxRecDepth 65536 in
set_option maxHeartbeats 40000000 in
theorem rmAi (l : Launch) (Z : State) (a0 : Array Value) (hw : ∀ d ∈ tables_1, d.before a0 Z = true) (ws : List Jvm.Cond) (b : Addr) (G1 : Int32) (h0 : Heap) (n0 : Nat) (Z0 : n0 ≤ h0.size) (O2 : Sta Z Z.heap "java/lang/String" "COMPACT_STRINGS" "Z" (.int G1)) (P5 : ¬ G1 = 0) (X00 : Old Z n0 h0) (Eb : Exa Z h0 b "java/lang/StringBuilder") (Fva : Fld Z h0 b "java/lang/AbstractStringBuilder" "value" "[B" .null) (Fco : Fld Z h0 b "java/lang/AbstractStringBuilder" "coder" "B" (.int 0)) (Fcn : Fld Z h0 b "java/lang/AbstractStringBuilder" "count" "I" (.int 0)) (gb : n0 ≤ b) :
    MetFree l (⟨"java/lang/AbstractStringBuilder", "<init>", "(I)V"⟩ : MethodName) (head1 (Jvm.Cond.code (⟨"java/lang/AbstractStringBuilder", "<init>", "(I)V"⟩ : MethodName) jdk_68_method_2_code 2 none :: ws) ({ frames := 1, cells := 1, slots := 16, locals := 13 } : Room)) (fun aa UU => aa = #[(.ref b), (.int (16 : Int32))] ∧ Z.Warmed39 UU.vm ∧ UU.heap = h0) (fun _ _ _ _ _ => True) (fun _ UU oo UT => ∃ vv LL, oo = .returned vv ∧ QAi Z b G1 h0 n0 vv UT.heap LL ∧ FrameEnd UU oo UT LL ({ frames := 1, cells := 1, slots := 16, locals := 13 } : Room).cells ({ frames := 1, cells := 1, slots := 16, locals := 13 } : Room).slots) := by
  refine MetFree.of_bodySF (by decide +kernel) hisR ?_
  intro p e s m args below meth c s₁ Bd hml0 hP hK
  obtain ⟨rfl, hZ, hh⟩ := hP
  have hx := Bd.exec
  have hby := Bd.bytes
  have hml : c.maxLocals = 2 := hml0
  have hown : s.vm.findClass "java/lang/AbstractStringBuilder" = some m.cls := findClass_of_methodNamed Bd.named
  have hnm := (name_of_methodNamed Bd.named Bd.method).1
  have X0 : Stand p l e ({ frames := 1, cells := 1, slots := 16, locals := 13 } : Room) s m #[(.ref b), (.int (16 : Int32))] below meth c s₁ [] 0 0 := Stand.of_body Bd
  have e0 : s₁.heap = h0 := by rw [← hh, Bd.state]; rfl
  have N0 := Fr.nil n0
  have c0 : Steps p.tables e below (s₁.setTop (entryFrame m #[(.ref b), (.int (16 : Int32))] 2)) (s₁.setTop (mkF m 0 #[.val (.ref b), .val (.int (16 : Int32))] [])) := castTop (efAi m b) (Steps.refl _)
  show ∃ s₂ oo, Steps p.tables e below (s₁.setTop (entryFrame m #[(.ref b), (.int (16 : Int32))] 2)) s₂ ∧ _ ∧ _ ∧ _
  generalize s₁.setTop (entryFrame m #[(.ref b), (.int (16 : Int32))] 2) = S0 at c0 ⊢
  have c1 : Steps p.tables e below S0 (s₁.setTop (mkF m 1 #[.val (.ref b), .val (.int (16 : Int32))] [(.ref b)])) := by
    refine c0.trans ?_
    show Steps p.tables e below (s₁.setTop (mkF m 0 #[.val (.ref b), .val (.int (16 : Int32))] [])) _
    refine XS.aloadN X0.here hx rfl (hb hby dAi_0) rfl rfl ?_
    exact Steps.refl _
  obtain ⟨T2, X2, e2, st2⟩ := initO X0 hx hZ hown (hw _ (List.mem_of_getElem? (i := 70) rfl)) (hw _ (List.mem_of_getElem? (i := 16) rfl)) (hw _ (List.mem_of_getElem? (i := 17) rfl)) e0 (g := (mkF m 1 #[.val (.ref b), .val (.int (16 : Int32))] [(.ref b)])) rfl (by rw [hml]; rfl) rfl (hb hby dAi_1) (by decide) (W := 0) (by show 2 * 0 + _ ≤ _; exact Nat.le_of_eq rfl) (by decide)
  have c2 : Steps p.tables e below S0 (T2.setTop (mkF m 4 #[.val (.ref b), .val (.int (16 : Int32))] [])) := by
    refine c1.trans ?_
    show Steps p.tables e below (s₁.setTop (mkF m 1 #[.val (.ref b), .val (.int (16 : Int32))] [(.ref b)])) _
    refine st2 _ ?_
    exact Steps.refl _
  obtain ⟨T3, X3, e3, st3⟩ := getS X2 hx hZ hown (host := "") (hw _ (List.mem_of_getElem? (i := 71) rfl)) Via.refl e2 (O2.ext X00.2) (g := (mkF m 4 #[.val (.ref b), .val (.int (16 : Int32))] [])) rfl (hb hby dAi_4)
  have c3 : Steps p.tables e below S0 (T3.setTop (mkF m 7 #[.val (.ref b), .val (.int (16 : Int32))] [(.int G1)])) := by
    refine c2.trans ?_
    show Steps p.tables e below (T2.setTop (mkF m 4 #[.val (.ref b), .val (.int (16 : Int32))] [])) _
    refine st3 _ ?_
    exact Steps.refl _
  have c4 : Steps p.tables e below S0 (T3.setTop (mkF m 10 #[.val (.ref b), .val (.int (16 : Int32))] [])) := by
    refine c3.trans ?_
    show Steps p.tables e below (T3.setTop (mkF m 7 #[.val (.ref b), .val (.int (16 : Int32))] [(.int G1)])) _
    refine XS.ifNo X3.here hx rfl (hb hby dAi_7) rfl ((if0 _ _).trans (feq P5).1) ?_
    exact Steps.refl _
  have c5 : Steps p.tables e below S0 (T3.setTop (mkF m 12 #[.val (.ref b), .val (.int (16 : Int32))] [(.int (16 : Int32)), (.ref b)])) := by
    refine c4.trans ?_
    show Steps p.tables e below (T3.setTop (mkF m 10 #[.val (.ref b), .val (.int (16 : Int32))] [])) _
    refine XS.aloadN X3.here hx rfl (hb hby dAi_10) rfl rfl ?_
    show Steps p.tables e below (T3.setTop (mkF m 11 #[.val (.ref b), .val (.int (16 : Int32))] [(.ref b)])) _
    refine XS.iloadN X3.here hx rfl (hb hby dAi_11) rfl ?_
    exact Steps.refl _
  obtain ⟨T6, h6, kA6, X6, e6, E6, A6, A6x, st6⟩ := newPE X3 hx hZ (hw _ (List.mem_of_getElem? (i := 23) rfl)) e3 (g := (mkF m 12 #[.val (.ref b), .val (.int (16 : Int32))] [(.int (16 : Int32)), (.ref b)])) rfl (hb hby dAi_12) rfl (by decide) (cap := 16) (by decide) (by decide) (by decide) (by decide) (ad := "[B") (by decide +kernel)
  obtain ⟨b6, g6⟩ : ∃ z, z = h0.size := ⟨_, rfl⟩
  rw [← g6] at A6 A6x st6
  have c6 : Steps p.tables e below S0 (T6.setTop (mkF m 14 #[.val (.ref b), .val (.int (16 : Int32))] [(.ref b6), (.ref b)])) := by
    refine c5.trans ?_
    show Steps p.tables e below (T3.setTop (mkF m 12 #[.val (.ref b), .val (.int (16 : Int32))] [(.int (16 : Int32)), (.ref b)])) _
    refine st6 _ ?_
    exact Steps.refl _
  have V6 := Arv.new A6 (by decide)
  have zb : h0.size ≤ b6 := Nat.le_of_eq g6.symm
  obtain ⟨T7, h7, X7, e7, W7, st7⟩ := putF X6 hx hZ hown (host := "") (Or.inl (hw _ (List.mem_of_getElem? (i := 72) rfl))) Via.refl e6 (Fva.ext E6) (Eb.ext E6) (Or.inl (hw _ (List.mem_of_getElem? (i := 73) rfl))) (hw _ (List.mem_of_getElem? (i := 59) rfl)) (ty := (.array .byte)) (by decide) rfl rfl (g := (mkF m 14 #[.val (.ref b), .val (.int (16 : Int32))] [(.ref b6), (.ref b)])) rfl rfl (hb hby dAi_14)
  have c7 : Steps p.tables e below S0 (T7.setTop (mkF m 17 #[.val (.ref b), .val (.int (16 : Int32))] [])) := by
    refine c6.trans ?_
    show Steps p.tables e below (T6.setTop (mkF m 14 #[.val (.ref b), .val (.int (16 : Int32))] [(.ref b6), (.ref b)])) _
    refine st7 _ ?_
    exact Steps.refl _
  have Na := Fr.snoc X7 N0 gb
  have Eb1 := (Eb.ext E6).wr W7
  have Fc1 := (Fco.ext E6).other W7 (Or.inr (slot_ne (Or.inl (hw _ (List.mem_of_getElem? (i := 75) rfl))) (Or.inl (hw _ (List.mem_of_getElem? (i := 73) rfl))) (by decide) (t := .byte) (t' := (.array .byte)) (by decide) (by decide)))
  have Fv1 := (Fva.ext E6).same W7
  have Fn1 := (Fcn.ext E6).other W7 (Or.inr (slot_ne (Or.inl (hw _ (List.mem_of_getElem? (i := 98) rfl))) (Or.inl (hw _ (List.mem_of_getElem? (i := 73) rfl))) (by decide) (t := .int) (t' := (.array .byte)) (by decide) (by decide)))
  have nbt : b ≠ b6 := (Eb.ext E6).neArv V6 (hw _ (List.mem_of_getElem? (i := 59) rfl))
  have V1 := V6.other W7 (Ne.symm nbt)
  have c8 : Steps p.tables e below S0 (T7.setTop (mkF m 19 #[.val (.ref b), .val (.int (16 : Int32))] [(.int (0 : Int32)), (.ref b)])) := by
    refine c7.trans ?_
    show Steps p.tables e below (T7.setTop (mkF m 17 #[.val (.ref b), .val (.int (16 : Int32))] [])) _
    refine XS.aloadN X7.here hx rfl (hb hby dAi_17) rfl rfl ?_
    show Steps p.tables e below (T7.setTop (mkF m 18 #[.val (.ref b), .val (.int (16 : Int32))] [(.ref b)])) _
    refine XS.iconst X7.here hx rfl (hb hby dAi_18) ?_
    exact Steps.refl _
  obtain ⟨T9, h9, X9, e9, W9, st9⟩ := putFN X7 hx hZ hown (hw _ (List.mem_of_getElem? (i := 74) rfl)) Via.refl e7 Fc1 Eb1 (Or.inl (hw _ (List.mem_of_getElem? (i := 75) rfl))) (hw _ (List.mem_of_getElem? (i := 59) rfl)) (ty := .byte) (v' := (.int (0 : Int32))) (by decide) rfl rfl (g := (mkF m 19 #[.val (.ref b), .val (.int (16 : Int32))] [(.int (0 : Int32)), (.ref b)])) rfl rfl (hb hby dAi_19)
  have c9 : Steps p.tables e below S0 (T9.setTop (mkF m 22 #[.val (.ref b), .val (.int (16 : Int32))] [])) := by
    refine c8.trans ?_
    show Steps p.tables e below (T7.setTop (mkF m 19 #[.val (.ref b), .val (.int (16 : Int32))] [(.int (0 : Int32)), (.ref b)])) _
    refine st9 _ ?_
    exact Steps.refl _
  have c10 : Steps p.tables e below S0 (T9.setTop (mkF m 38 #[.val (.ref b), .val (.int (16 : Int32))] [])) := by
    refine c9.trans ?_
    show Steps p.tables e below (T9.setTop (mkF m 22 #[.val (.ref b), .val (.int (16 : Int32))] [])) _
    refine XS.goto X9.here hx rfl (pc0 := 22) (pc' := 38) rfl (hb hby dAi_22) (by decide) (by decide) ?_
    exact Steps.refl _
  obtain ⟨fs, hr, hrun, hended, hW, hsame⟩ := X9.leave (v := none) (fun _ => rfl)
  refine ⟨_, _, c10.trans ?_, hrun, hended, _, _, rfl, ?_, ⟨_, rfl⟩, hW, hsame.mono (by decide) (by decide)⟩
  · show Steps p.tables e below (T9.setTop (mkF m 38 #[.val (.ref b), .val (.int (16 : Int32))] [])) _
    exact X9.returnOut hx Bd.returns (hb hby dAi_38) hr
  · show QAi Z b G1 h0 n0 _ T9.heap _
    rw [e9]
    exact ⟨rfl, Fr.snoc X9 Na gb, (((Keep.refl h0 [b]).ext E6).wr W7 (Or.inl (List.mem_of_getElem? (i := 0) rfl))).wr W9 (Or.inl (List.mem_of_getElem? (i := 0) rfl)), b6, zb, Eb1.wr W9, Fc1.same W9, Fn1.other W9 (Or.inr (slot_ne (Or.inl (hw _ (List.mem_of_getElem? (i := 98) rfl))) (Or.inl (hw _ (List.mem_of_getElem? (i := 75) rfl))) (by decide) (t := .int) (t' := .byte) (by decide) (by decide))), Fv1.other W9 (Or.inr (slot_ne (Or.inl (hw _ (List.mem_of_getElem? (i := 73) rfl))) (Or.inl (hw _ (List.mem_of_getElem? (i := 75) rfl))) (by decide) (t := (.array .byte)) (t' := .byte) (by decide) (by decide))), ⟨_, V1.other W9 (Ne.symm nbt), (A6x.wr W7).wr W9⟩, (fun c hc => by cases hc), Nat.zero_le _, Nat.le_of_ble_eq_true rfl⟩
def QSi (Z : State) (b : Addr) (G1 : Int32) (h0 : Heap) (n0 : Nat) (v : Option Value) (h : Heap) (L : List Loc) : Prop := v = none ∧ Fr n0 L ∧ Keep h0 h [b] ∧ ∃ t : Addr, h0.size ≤ t ∧ own_SB Z h b t 16 []
theorem efSi (m : MethodId) (b : Addr) : entryFrame m #[(.ref b)] 1 = mkF m 0 #[.val (.ref b)] [] := by first | (simp [entryFrame, mkF, argsToLocals, Value.category, List.replicate]; done) | rfl
set_option maxRecDepth 65536 in
set_option maxHeartbeats 40000000 in
theorem rmSi (l : Launch) (Z : State) (a0 : Array Value) (hw : ∀ d ∈ tables_1, d.before a0 Z = true) (ws : List Jvm.Cond) (b : Addr) (G1 : Int32) (h0 : Heap) (n0 : Nat) (Z0 : n0 ≤ h0.size) (O2 : Sta Z Z.heap "java/lang/String" "COMPACT_STRINGS" "Z" (.int G1)) (P5 : ¬ G1 = 0) (X00 : Old Z n0 h0) (Eb : Exa Z h0 b "java/lang/StringBuilder") (Fva : Fld Z h0 b "java/lang/AbstractStringBuilder" "value" "[B" .null) (Fco : Fld Z h0 b "java/lang/AbstractStringBuilder" "coder" "B" (.int 0)) (Fcn : Fld Z h0 b "java/lang/AbstractStringBuilder" "count" "I" (.int 0)) (gb : n0 ≤ b) :
    MetFree l (⟨"java/lang/StringBuilder", "<init>", "()V"⟩ : MethodName) (head1 (Jvm.Cond.code (⟨"java/lang/StringBuilder", "<init>", "()V"⟩ : MethodName) jdk_67_method_1_code 1 none :: ws) ({ frames := 2, cells := 1, slots := 16, locals := 28 } : Room)) (fun aa UU => aa = #[(.ref b)] ∧ Z.Warmed39 UU.vm ∧ UU.heap = h0) (fun _ _ _ _ _ => True) (fun _ UU oo UT => ∃ vv LL, oo = .returned vv ∧ QSi Z b G1 h0 n0 vv UT.heap LL ∧ FrameEnd UU oo UT LL ({ frames := 2, cells := 1, slots := 16, locals := 28 } : Room).cells ({ frames := 2, cells := 1, slots := 16, locals := 28 } : Room).slots) := by
  refine MetFree.of_bodySF (by decide +kernel) hisR ?_
  intro p e s m args below meth c s₁ Bd hml0 hP hK
  obtain ⟨rfl, hZ, hh⟩ := hP
  have hx := Bd.exec
  have hby := Bd.bytes
  have hml : c.maxLocals = 1 := hml0
  have hown : s.vm.findClass "java/lang/StringBuilder" = some m.cls := findClass_of_methodNamed Bd.named
  have hnm := (name_of_methodNamed Bd.named Bd.method).1
  have X0 : Stand p l e ({ frames := 2, cells := 1, slots := 16, locals := 28 } : Room) s m #[(.ref b)] below meth c s₁ [] 0 0 := Stand.of_body Bd
  have e0 : s₁.heap = h0 := by rw [← hh, Bd.state]; rfl
  have N0 := Fr.nil n0
  have c0 : Steps p.tables e below (s₁.setTop (entryFrame m #[(.ref b)] 1)) (s₁.setTop (mkF m 0 #[.val (.ref b)] [])) := castTop (efSi m b) (Steps.refl _)
  show ∃ s₂ oo, Steps p.tables e below (s₁.setTop (entryFrame m #[(.ref b)] 1)) s₂ ∧ _ ∧ _ ∧ _
  generalize s₁.setTop (entryFrame m #[(.ref b)] 1) = S0 at c0 ⊢
  have c1 : Steps p.tables e below S0 (s₁.setTop (mkF m 3 #[.val (.ref b)] [(.int (16 : Int32)), (.ref b)])) := by
    refine c0.trans ?_
    show Steps p.tables e below (s₁.setTop (mkF m 0 #[.val (.ref b)] [])) _
    refine XS.aloadN X0.here hx rfl (hb hby dSi_0) rfl rfl ?_
    show Steps p.tables e below (s₁.setTop (mkF m 1 #[.val (.ref b)] [(.ref b)])) _
    refine XS.bipush X0.here hx rfl (hb hby dSi_1) ?_
    exact Steps.refl _
  obtain ⟨_, _, ⟨T2, L2, k2, n2⟩, -, X2, ⟨Lc2, hQ2, l2, y2, z2⟩, st2⟩ := X0.specialBack hx (y := (⟨"java/lang/AbstractStringBuilder", "<init>", "(I)V"⟩ : MethodName)) rfl hown (mvT hZ (hw _ (List.mem_of_getElem? (i := 64) rfl))) (mvT hZ (hw _ (List.mem_of_getElem? (i := 65) rfl))) (mvT hZ (hw _ (List.mem_of_getElem? (i := 69) rfl))) (by decide) (backOf (W := 0) (rmAi l Z a0 hw [] b G1 h0 n0 Z0 O2 P5 X00 Eb Fva Fco Fcn gb) hZ (hw _ (List.mem_of_getElem? (i := 69) rfl)) (hw _ (List.mem_of_getElem? (i := 68) rfl)) (by decide) (by decide)) (g := (mkF m 3 #[.val (.ref b)] [(.int (16 : Int32)), (.ref b)])) rfl (by rw [hml]; rfl) (Steps.refl _) (a := b) (argsL := [(.int (16 : Int32))]) (rest := []) (lenOf pd8 rfl) rfl (by show 2 * 0 + _ ≤ _; exact Nat.le_of_eq rfl) (hb hby dSi_3) (fun _ _ => ⟨rfl, e0, (by decide : 0 + 1 ≤ _), (by decide : 0 + 16 ≤ _)⟩)
  dsimp only [Pt.U, Pt.locs, Pt.cells, Pt.slots] at X2 l2 y2 z2 st2 hQ2
  subst l2 y2 z2
  obtain ⟨rfl, N1, D1⟩ := hQ2
  have c2 : Steps p.tables e below S0 (T2.setTop (mkF m 6 #[.val (.ref b)] [])) := by
    refine c1.trans ?_
    show Steps p.tables e below (s₁.setTop (mkF m 3 #[.val (.ref b)] [(.int (16 : Int32)), (.ref b)])) _
    refine st2.trans ?_
    exact Steps.refl _
  obtain ⟨fs, hr, hrun, hended, hW, hsame⟩ := X2.leave (v := none) (fun _ => rfl)
  refine ⟨_, _, c2.trans ?_, hrun, hended, _, _, rfl, ?_, ⟨_, rfl⟩, hW, hsame.mono (by decide) (by decide)⟩
  · show Steps p.tables e below (T2.setTop (mkF m 6 #[.val (.ref b)] [])) _
    exact X2.returnOut hx Bd.returns (hb hby dSi_6) hr
  · show QSi Z b G1 h0 n0 _ T2.heap _
    exact ⟨rfl, Fr.app N0 N1, D1⟩
def QGv (Z : State) (b : Addr) (t : Addr) (cap : Nat) (cs : List Int32) (h0 : Heap) (n0 : Nat) (v : Option Value) (h : Heap) (L : List Loc) : Prop := v = some (.ref t) ∧ Fr n0 L ∧ h = h0
theorem efGv (m : MethodId) (b : Addr) : entryFrame m #[(.ref b)] 1 = mkF m 0 #[.val (.ref b)] [] := by first | (simp [entryFrame, mkF, argsToLocals, Value.category, List.replicate]; done) | rfl
set_option maxRecDepth 65536 in
set_option maxHeartbeats 40000000 in
theorem rmGv (l : Launch) (Z : State) (a0 : Array Value) (hw : ∀ d ∈ tables_1, d.before a0 Z = true) (ws : List Jvm.Cond) (b : Addr) (t : Addr) (cap : Nat) (cs : List Int32) (h0 : Heap) (n0 : Nat) (Z0 : n0 ≤ h0.size) (B : own_SB Z h0 b t cap cs) :
    MetFree l (⟨"java/lang/AbstractStringBuilder", "getValue", "()[B"⟩ : MethodName) (head1 (Jvm.Cond.code (⟨"java/lang/AbstractStringBuilder", "getValue", "()[B"⟩ : MethodName) jdk_68_method_64_code 1 (some (.array .byte)) :: ws) ({ frames := 0, cells := 0, slots := 0, locals := 0 } : Room)) (fun aa UU => aa = #[(.ref b)] ∧ Z.Warmed39 UU.vm ∧ UU.heap = h0) (fun _ _ _ _ _ => True) (fun _ UU oo UT => ∃ vv LL, oo = .returned vv ∧ QGv Z b t cap cs h0 n0 vv UT.heap LL ∧ FrameEnd UU oo UT LL ({ frames := 0, cells := 0, slots := 0, locals := 0 } : Room).cells ({ frames := 0, cells := 0, slots := 0, locals := 0 } : Room).slots) := by
  refine MetFree.of_bodySF (by decide +kernel) hisR ?_
  intro p e s m args below meth c s₁ Bd hml0 hP hK
  obtain ⟨rfl, hZ, hh⟩ := hP
  have hx := Bd.exec
  have hby := Bd.bytes
  have hml : c.maxLocals = 1 := hml0
  have hown : s.vm.findClass "java/lang/AbstractStringBuilder" = some m.cls := findClass_of_methodNamed Bd.named
  have hnm := (name_of_methodNamed Bd.named Bd.method).1
  have X0 : Stand p l e ({ frames := 0, cells := 0, slots := 0, locals := 0 } : Room) s m #[(.ref b)] below meth c s₁ [] 0 0 := Stand.of_body Bd
  have e0 : s₁.heap = h0 := by rw [← hh, Bd.state]; rfl
  have N0 := Fr.nil n0
  have c0 : Steps p.tables e below (s₁.setTop (entryFrame m #[(.ref b)] 1)) (s₁.setTop (mkF m 0 #[.val (.ref b)] [])) := castTop (efGv m b) (Steps.refl _)
  show ∃ s₂ oo, Steps p.tables e below (s₁.setTop (entryFrame m #[(.ref b)] 1)) s₂ ∧ _ ∧ _ ∧ _
  generalize s₁.setTop (entryFrame m #[(.ref b)] 1) = S0 at c0 ⊢
  have c1 : Steps p.tables e below S0 (s₁.setTop (mkF m 1 #[.val (.ref b)] [(.ref b)])) := by
    refine c0.trans ?_
    show Steps p.tables e below (s₁.setTop (mkF m 0 #[.val (.ref b)] [])) _
    refine XS.aloadN X0.here hx rfl (hb hby dGv_0) rfl rfl ?_
    exact Steps.refl _
  obtain ⟨T2, X2, e2, st2⟩ := getF X0 hx hZ hown (host := "") (Or.inl (hw _ (List.mem_of_getElem? (i := 72) rfl))) Via.refl e0 B.2.2.2.1 (g := (mkF m 1 #[.val (.ref b)] [(.ref b)])) rfl rfl (hb hby dGv_1)
  have c2 : Steps p.tables e below S0 (T2.setTop (mkF m 4 #[.val (.ref b)] [(.ref t)])) := by
    refine c1.trans ?_
    show Steps p.tables e below (s₁.setTop (mkF m 1 #[.val (.ref b)] [(.ref b)])) _
    refine st2 _ ?_
    exact Steps.refl _
  obtain ⟨fs, hr, hrun, hended, hW, hsame⟩ := X2.leave (v := some (.ref t)) (fun h => by rw [Bd.returns] at h; cases h)
  refine ⟨_, _, c2.trans ?_, hrun, hended, _, _, rfl, ?_, ⟨_, rfl⟩, hW, hsame.mono (by decide) (by decide)⟩
  · show Steps p.tables e below (T2.setTop (mkF m 4 #[.val (.ref b)] [(.ref t)])) _
    exact retA X2 hx Bd.returns rfl rfl (hb hby dGv_4) hr
  · show QGv Z b t cap cs h0 n0 _ T2.heap _
    rw [e2]
    exact ⟨rfl, N0, rfl⟩
def QAl (Z : State) (b : Addr) (t : Addr) (cap : Nat) (cs : List Int32) (h0 : Heap) (n0 : Nat) (v : Option Value) (h : Heap) (L : List Loc) : Prop := v = some (.int (Int32.ofNat cs.length)) ∧ Fr n0 L ∧ h = h0
theorem efAl (m : MethodId) (b : Addr) : entryFrame m #[(.ref b)] 1 = mkF m 0 #[.val (.ref b)] [] := by first | (simp [entryFrame, mkF, argsToLocals, Value.category, List.replicate]; done) | rfl
set_option maxRecDepth 65536 in
set_option maxHeartbeats 40000000 in
theorem rmAl (l : Launch) (Z : State) (a0 : Array Value) (hw : ∀ d ∈ tables_1, d.before a0 Z = true) (ws : List Jvm.Cond) (b : Addr) (t : Addr) (cap : Nat) (cs : List Int32) (h0 : Heap) (n0 : Nat) (Z0 : n0 ≤ h0.size) (B : own_SB Z h0 b t cap cs) :
    MetFree l (⟨"java/lang/AbstractStringBuilder", "length", "()I"⟩ : MethodName) (head1 (Jvm.Cond.code (⟨"java/lang/AbstractStringBuilder", "length", "()I"⟩ : MethodName) jdk_68_method_6_code 1 (some .int) :: ws) ({ frames := 0, cells := 0, slots := 0, locals := 0 } : Room)) (fun aa UU => aa = #[(.ref b)] ∧ Z.Warmed39 UU.vm ∧ UU.heap = h0) (fun _ _ _ _ _ => True) (fun _ UU oo UT => ∃ vv LL, oo = .returned vv ∧ QAl Z b t cap cs h0 n0 vv UT.heap LL ∧ FrameEnd UU oo UT LL ({ frames := 0, cells := 0, slots := 0, locals := 0 } : Room).cells ({ frames := 0, cells := 0, slots := 0, locals := 0 } : Room).slots) := by
  refine MetFree.of_bodySF (by decide +kernel) hisR ?_
  intro p e s m args below meth c s₁ Bd hml0 hP hK
  obtain ⟨rfl, hZ, hh⟩ := hP
  have hx := Bd.exec
  have hby := Bd.bytes
  have hml : c.maxLocals = 1 := hml0
  have hown : s.vm.findClass "java/lang/AbstractStringBuilder" = some m.cls := findClass_of_methodNamed Bd.named
  have hnm := (name_of_methodNamed Bd.named Bd.method).1
  have X0 : Stand p l e ({ frames := 0, cells := 0, slots := 0, locals := 0 } : Room) s m #[(.ref b)] below meth c s₁ [] 0 0 := Stand.of_body Bd
  have e0 : s₁.heap = h0 := by rw [← hh, Bd.state]; rfl
  have N0 := Fr.nil n0
  have c0 : Steps p.tables e below (s₁.setTop (entryFrame m #[(.ref b)] 1)) (s₁.setTop (mkF m 0 #[.val (.ref b)] [])) := castTop (efAl m b) (Steps.refl _)
  show ∃ s₂ oo, Steps p.tables e below (s₁.setTop (entryFrame m #[(.ref b)] 1)) s₂ ∧ _ ∧ _ ∧ _
  generalize s₁.setTop (entryFrame m #[(.ref b)] 1) = S0 at c0 ⊢
  have c1 : Steps p.tables e below S0 (s₁.setTop (mkF m 1 #[.val (.ref b)] [(.ref b)])) := by
    refine c0.trans ?_
    show Steps p.tables e below (s₁.setTop (mkF m 0 #[.val (.ref b)] [])) _
    refine XS.aloadN X0.here hx rfl (hb hby dAl_0) rfl rfl ?_
    exact Steps.refl _
  obtain ⟨T2, X2, e2, st2⟩ := getF X0 hx hZ hown (host := "") (Or.inl (hw _ (List.mem_of_getElem? (i := 97) rfl))) Via.refl e0 B.2.2.1 (g := (mkF m 1 #[.val (.ref b)] [(.ref b)])) rfl rfl (hb hby dAl_1)
  have c2 : Steps p.tables e below S0 (T2.setTop (mkF m 4 #[.val (.ref b)] [(.int (Int32.ofNat cs.length))])) := by
    refine c1.trans ?_
    show Steps p.tables e below (s₁.setTop (mkF m 1 #[.val (.ref b)] [(.ref b)])) _
    refine st2 _ ?_
    exact Steps.refl _
  obtain ⟨fs, hr, hrun, hended, hW, hsame⟩ := X2.leave (v := some (.int (Int32.ofNat cs.length))) (fun h => by rw [Bd.returns] at h; cases h)
  refine ⟨_, _, c2.trans ?_, hrun, hended, _, _, rfl, ?_, ⟨_, rfl⟩, hW, hsame.mono (by decide) (by decide)⟩
  · show Steps p.tables e below (T2.setTop (mkF m 4 #[.val (.ref b)] [(.int (Int32.ofNat cs.length))])) _
    exact retI X2 hx Bd.returns (hb hby dAl_4) hr
  · show QAl Z b t cap cs h0 n0 _ T2.heap _
    rw [e2]
    exact ⟨rfl, N0, rfl⟩
def QSl (Z : State) (b : Addr) (t : Addr) (cap : Nat) (cs : List Int32) (h0 : Heap) (n0 : Nat) (v : Option Value) (h : Heap) (L : List Loc) : Prop := v = some (.int (Int32.ofNat cs.length)) ∧ Fr n0 L ∧ h = h0
theorem efSl (m : MethodId) (b : Addr) : entryFrame m #[(.ref b)] 1 = mkF m 0 #[.val (.ref b)] [] := by first | (simp [entryFrame, mkF, argsToLocals, Value.category, List.replicate]; done) | rfl
set_option maxRecDepth 65536 in
set_option maxHeartbeats 40000000 in
theorem rmSl (l : Launch) (Z : State) (a0 : Array Value) (hw : ∀ d ∈ tables_1, d.before a0 Z = true) (ws : List Jvm.Cond) (b : Addr) (t : Addr) (cap : Nat) (cs : List Int32) (h0 : Heap) (n0 : Nat) (Z0 : n0 ≤ h0.size) (B : own_SB Z h0 b t cap cs) :
    MetFree l (⟨"java/lang/StringBuilder", "length", "()I"⟩ : MethodName) (head1 (Jvm.Cond.code (⟨"java/lang/StringBuilder", "length", "()I"⟩ : MethodName) jdk_67_method_93_code 1 (some .int) :: ws) ({ frames := 1, cells := 0, slots := 0, locals := 13 } : Room)) (fun aa UU => aa = #[(.ref b)] ∧ Z.Warmed39 UU.vm ∧ UU.heap = h0) (fun _ _ _ _ _ => True) (fun _ UU oo UT => ∃ vv LL, oo = .returned vv ∧ QSl Z b t cap cs h0 n0 vv UT.heap LL ∧ FrameEnd UU oo UT LL ({ frames := 1, cells := 0, slots := 0, locals := 13 } : Room).cells ({ frames := 1, cells := 0, slots := 0, locals := 13 } : Room).slots) := by
  refine MetFree.of_bodySF (by decide +kernel) hisR ?_
  intro p e s m args below meth c s₁ Bd hml0 hP hK
  obtain ⟨rfl, hZ, hh⟩ := hP
  have hx := Bd.exec
  have hby := Bd.bytes
  have hml : c.maxLocals = 1 := hml0
  have hown : s.vm.findClass "java/lang/StringBuilder" = some m.cls := findClass_of_methodNamed Bd.named
  have hnm := (name_of_methodNamed Bd.named Bd.method).1
  have X0 : Stand p l e ({ frames := 1, cells := 0, slots := 0, locals := 13 } : Room) s m #[(.ref b)] below meth c s₁ [] 0 0 := Stand.of_body Bd
  have e0 : s₁.heap = h0 := by rw [← hh, Bd.state]; rfl
  have N0 := Fr.nil n0
  have c0 : Steps p.tables e below (s₁.setTop (entryFrame m #[(.ref b)] 1)) (s₁.setTop (mkF m 0 #[.val (.ref b)] [])) := castTop (efSl m b) (Steps.refl _)
  show ∃ s₂ oo, Steps p.tables e below (s₁.setTop (entryFrame m #[(.ref b)] 1)) s₂ ∧ _ ∧ _ ∧ _
  generalize s₁.setTop (entryFrame m #[(.ref b)] 1) = S0 at c0 ⊢
  have c1 : Steps p.tables e below S0 (s₁.setTop (mkF m 1 #[.val (.ref b)] [(.ref b)])) := by
    refine c0.trans ?_
    show Steps p.tables e below (s₁.setTop (mkF m 0 #[.val (.ref b)] [])) _
    refine XS.aloadN X0.here hx rfl (hb hby dSl_0) rfl rfl ?_
    exact Steps.refl _
  obtain ⟨_, _, ⟨T2, L2, k2, n2⟩, -, X2, ⟨Lc2, hQ2, l2, y2, z2⟩, st2⟩ := superBack X0 hx hZ (y := (⟨"java/lang/AbstractStringBuilder", "length", "()I"⟩ : MethodName)) hown (hw _ (List.mem_of_getElem? (i := 148) rfl)) (own_same (hw _ (List.mem_of_getElem? (i := 144) rfl)) ⟨own_NI_of (y := (⟨"java/lang/AbstractStringBuilder", "getValue", "()[B"⟩ : MethodName)) (hw _ (List.mem_of_getElem? (i := 140) rfl)), by decide⟩) (hw _ (List.mem_of_getElem? (i := 144) rfl)) (hw _ (List.mem_of_getElem? (i := 84) rfl)) (by decide) (backOf (W := 0) (rmAl l Z a0 hw [] b t cap cs h0 n0 Z0 B) hZ (hw _ (List.mem_of_getElem? (i := 149) rfl)) (hw _ (List.mem_of_getElem? (i := 68) rfl)) (by decide) (by decide)) e0 (Ins.self (B.1)) (g := (mkF m 1 #[.val (.ref b)] [(.ref b)])) rfl (by rw [hml]; rfl) (hw _ (List.mem_of_getElem? (i := 149) rfl)) (argsL := []) (rest := []) (lenOf pd7 rfl) rfl (by show 2 * 0 + _ ≤ _; exact Nat.le_of_eq rfl) (hb hby dSl_1) (fun _ _ => ⟨rfl, e0, (by decide : 0 + 0 ≤ _), (by decide : 0 + 0 ≤ _)⟩)
  dsimp only [Pt.U, Pt.locs, Pt.cells, Pt.slots] at X2 l2 y2 z2 st2 hQ2
  subst l2 y2 z2
  obtain ⟨rfl, N1, e1⟩ := hQ2
  have c2 : Steps p.tables e below S0 (T2.setTop (mkF m 4 #[.val (.ref b)] [(.int (Int32.ofNat cs.length))])) := by
    refine c1.trans ?_
    show Steps p.tables e below (s₁.setTop (mkF m 1 #[.val (.ref b)] [(.ref b)])) _
    refine st2.trans ?_
    exact Steps.refl _
  obtain ⟨fs, hr, hrun, hended, hW, hsame⟩ := X2.leave (v := some (.int (Int32.ofNat cs.length))) (fun h => by rw [Bd.returns] at h; cases h)
  refine ⟨_, _, c2.trans ?_, hrun, hended, _, _, rfl, ?_, ⟨_, rfl⟩, hW, hsame.mono (by decide) (by decide)⟩
  · show Steps p.tables e below (T2.setTop (mkF m 4 #[.val (.ref b)] [(.int (Int32.ofNat cs.length))])) _
    exact retI X2 hx Bd.returns (hb hby dSl_4) hr
  · show QSl Z b t cap cs h0 n0 _ T2.heap _
    rw [e1]
    exact ⟨rfl, Fr.app N0 N1, rfl⟩
def QIl (Z : State) (b : Addr) (t : Addr) (cap : Nat) (cs : List Int32) (G1 : Int32) (h0 : Heap) (n0 : Nat) (v : Option Value) (h : Heap) (L : List Loc) : Prop := v = some (.int 1) ∧ Fr n0 L ∧ h = h0
theorem efIl (m : MethodId) (b : Addr) : entryFrame m #[(.ref b)] 1 = mkF m 0 #[.val (.ref b)] [] := by first | (simp [entryFrame, mkF, argsToLocals, Value.category, List.replicate]; done) | rfl
set_option maxRecDepth 65536 in
set_option maxHeartbeats 40000000 in
theorem rmIl (l : Launch) (Z : State) (a0 : Array Value) (hw : ∀ d ∈ tables_1, d.before a0 Z = true) (ws : List Jvm.Cond) (b : Addr) (t : Addr) (cap : Nat) (cs : List Int32) (G1 : Int32) (h0 : Heap) (n0 : Nat) (Z0 : n0 ≤ h0.size) (O2 : Sta Z Z.heap "java/lang/String" "COMPACT_STRINGS" "Z" (.int G1)) (P5 : ¬ G1 = 0) (X00 : Old Z n0 h0) (B : own_SB Z h0 b t cap cs) :
    MetFree l (⟨"java/lang/AbstractStringBuilder", "isLatin1", "()Z"⟩ : MethodName) (head1 (Jvm.Cond.code (⟨"java/lang/AbstractStringBuilder", "isLatin1", "()Z"⟩ : MethodName) jdk_68_method_68_code 1 (some .boolean) :: ws) ({ frames := 0, cells := 0, slots := 0, locals := 0 } : Room)) (fun aa UU => aa = #[(.ref b)] ∧ Z.Warmed39 UU.vm ∧ UU.heap = h0) (fun _ _ _ _ _ => True) (fun _ UU oo UT => ∃ vv LL, oo = .returned vv ∧ QIl Z b t cap cs G1 h0 n0 vv UT.heap LL ∧ FrameEnd UU oo UT LL ({ frames := 0, cells := 0, slots := 0, locals := 0 } : Room).cells ({ frames := 0, cells := 0, slots := 0, locals := 0 } : Room).slots) := by
  refine MetFree.of_bodySF (by decide +kernel) hisR ?_
  intro p e s m args below meth c s₁ Bd hml0 hP hK
  obtain ⟨rfl, hZ, hh⟩ := hP
  have hx := Bd.exec
  have hby := Bd.bytes
  have hml : c.maxLocals = 1 := hml0
  have hown : s.vm.findClass "java/lang/AbstractStringBuilder" = some m.cls := findClass_of_methodNamed Bd.named
  have hnm := (name_of_methodNamed Bd.named Bd.method).1
  have X0 : Stand p l e ({ frames := 0, cells := 0, slots := 0, locals := 0 } : Room) s m #[(.ref b)] below meth c s₁ [] 0 0 := Stand.of_body Bd
  have e0 : s₁.heap = h0 := by rw [← hh, Bd.state]; rfl
  have N0 := Fr.nil n0
  have c0 : Steps p.tables e below (s₁.setTop (entryFrame m #[(.ref b)] 1)) (s₁.setTop (mkF m 0 #[.val (.ref b)] [])) := castTop (efIl m b) (Steps.refl _)
  show ∃ s₂ oo, Steps p.tables e below (s₁.setTop (entryFrame m #[(.ref b)] 1)) s₂ ∧ _ ∧ _ ∧ _
  generalize s₁.setTop (entryFrame m #[(.ref b)] 1) = S0 at c0 ⊢
  obtain ⟨T1, X1, e1, st1⟩ := getS X0 hx hZ hown (host := "") (hw _ (List.mem_of_getElem? (i := 71) rfl)) Via.refl e0 (O2.ext X00.2) (g := (mkF m 0 #[.val (.ref b)] [])) rfl (hb hby dIl_0)
  have c1 : Steps p.tables e below S0 (T1.setTop (mkF m 3 #[.val (.ref b)] [(.int G1)])) := by
    refine c0.trans ?_
    show Steps p.tables e below (s₁.setTop (mkF m 0 #[.val (.ref b)] [])) _
    refine st1 _ ?_
    exact Steps.refl _
  have c2 : Steps p.tables e below S0 (T1.setTop (mkF m 6 #[.val (.ref b)] [])) := by
    refine c1.trans ?_
    show Steps p.tables e below (T1.setTop (mkF m 3 #[.val (.ref b)] [(.int G1)])) _
    refine XS.ifNo X1.here hx rfl (hb hby dIl_3) rfl ((if0 _ _).trans (feq P5).1) ?_
    exact Steps.refl _
  have c3 : Steps p.tables e below S0 (T1.setTop (mkF m 7 #[.val (.ref b)] [(.ref b)])) := by
    refine c2.trans ?_
    show Steps p.tables e below (T1.setTop (mkF m 6 #[.val (.ref b)] [])) _
    refine XS.aloadN X1.here hx rfl (hb hby dIl_6) rfl rfl ?_
    exact Steps.refl _
  obtain ⟨T4, X4, e4, st4⟩ := getF X1 hx hZ hown (host := "") (Or.inl (hw _ (List.mem_of_getElem? (i := 74) rfl))) Via.refl e1 B.2.1 (g := (mkF m 7 #[.val (.ref b)] [(.ref b)])) rfl rfl (hb hby dIl_7)
  have c4 : Steps p.tables e below S0 (T4.setTop (mkF m 10 #[.val (.ref b)] [(.int (0 : Int32))])) := by
    refine c3.trans ?_
    show Steps p.tables e below (T1.setTop (mkF m 7 #[.val (.ref b)] [(.ref b)])) _
    refine st4 _ ?_
    exact Steps.refl _
  have c5 : Steps p.tables e below S0 (T4.setTop (mkF m 18 #[.val (.ref b)] [(.int (1 : Int32))])) := by
    refine c4.trans ?_
    show Steps p.tables e below (T4.setTop (mkF m 10 #[.val (.ref b)] [(.int (0 : Int32))])) _
    refine XS.ifNo X4.here hx rfl (hb hby dIl_10) rfl ((if0 _ _).trans (teq rfl).2) ?_
    show Steps p.tables e below (T4.setTop (mkF m 13 #[.val (.ref b)] [])) _
    refine XS.iconst X4.here hx rfl (hb hby dIl_13) ?_
    show Steps p.tables e below (T4.setTop (mkF m 14 #[.val (.ref b)] [(.int (1 : Int32))])) _
    refine XS.goto X4.here hx rfl (pc0 := 14) (pc' := 18) rfl (hb hby dIl_14) (by decide) (by decide) ?_
    exact Steps.refl _
  obtain ⟨fs, hr, hrun, hended, hW, hsame⟩ := X4.leave (v := some (.int 1)) (fun h => by rw [Bd.returns] at h; cases h)
  refine ⟨_, _, c5.trans ?_, hrun, hended, _, _, rfl, ?_, ⟨_, rfl⟩, hW, hsame.mono (by decide) (by decide)⟩
  · show Steps p.tables e below (T4.setTop (mkF m 18 #[.val (.ref b)] [(.int (1 : Int32))])) _
    exact retN X4 hx (t := .boolean) Bd.returns (by simp) (hb hby dIl_18) hr
  · show QIl Z b t cap cs G1 h0 n0 _ T4.heap _
    rw [e4]
    exact ⟨rfl, N0, rfl⟩
def QCl (Z : State) (n : Nat) (h0 : Heap) (n0 : Nat) (v : Option Value) (h : Heap) (L : List Loc) : Prop := v = none ∧ Fr n0 L ∧ h = h0
theorem efCl (m : MethodId) (n : Nat) : entryFrame m #[(.int (0 : Int32)), (.int (Int32.ofNat n))] 2 = mkF m 0 #[.val (.int (0 : Int32)), .val (.int (Int32.ofNat n))] [] := by first | (simp [entryFrame, mkF, argsToLocals, Value.category, List.replicate]; done) | rfl
set_option maxRecDepth 65536 in
set_option maxHeartbeats 40000000 in
theorem rmCl (l : Launch) (Z : State) (a0 : Array Value) (hw : ∀ d ∈ tables_1, d.before a0 Z = true) (ws : List Jvm.Cond) (n : Nat) (h0 : Heap) (n0 : Nat) (Z0 : n0 ≤ h0.size) (hn : n ≤ 100) :
    MetFree l (⟨"java/util/Arrays", "checkLength", "(II)V"⟩ : MethodName) (head1 (Jvm.Cond.code (⟨"java/util/Arrays", "checkLength", "(II)V"⟩ : MethodName) jdk_65_method_131_code 2 none :: ws) ({ frames := 0, cells := 0, slots := 0, locals := 0 } : Room)) (fun aa UU => aa = #[(.int (0 : Int32)), (.int (Int32.ofNat n))] ∧ Z.Warmed39 UU.vm ∧ UU.heap = h0) (fun _ _ _ _ _ => True) (fun _ UU oo UT => ∃ vv LL, oo = .returned vv ∧ QCl Z n h0 n0 vv UT.heap LL ∧ FrameEnd UU oo UT LL ({ frames := 0, cells := 0, slots := 0, locals := 0 } : Room).cells ({ frames := 0, cells := 0, slots := 0, locals := 0 } : Room).slots) := by
  refine MetFree.of_bodySF (by decide +kernel) hisR ?_
  intro p e s m args below meth c s₁ Bd hml0 hP hK
  obtain ⟨rfl, hZ, hh⟩ := hP
  have hx := Bd.exec
  have hby := Bd.bytes
  have hml : c.maxLocals = 2 := hml0
  have hown : s.vm.findClass "java/util/Arrays" = some m.cls := findClass_of_methodNamed Bd.named
  have hnm := (name_of_methodNamed Bd.named Bd.method).1
  have X0 : Stand p l e ({ frames := 0, cells := 0, slots := 0, locals := 0 } : Room) s m #[(.int (0 : Int32)), (.int (Int32.ofNat n))] below meth c s₁ [] 0 0 := Stand.of_body Bd
  have e0 : s₁.heap = h0 := by rw [← hh, Bd.state]; rfl
  have N0 := Fr.nil n0
  have c0 : Steps p.tables e below (s₁.setTop (entryFrame m #[(.int (0 : Int32)), (.int (Int32.ofNat n))] 2)) (s₁.setTop (mkF m 0 #[.val (.int (0 : Int32)), .val (.int (Int32.ofNat n))] [])) := castTop (efCl m n) (Steps.refl _)
  show ∃ s₂ oo, Steps p.tables e below (s₁.setTop (entryFrame m #[(.int (0 : Int32)), (.int (Int32.ofNat n))] 2)) s₂ ∧ _ ∧ _ ∧ _
  generalize s₁.setTop (entryFrame m #[(.int (0 : Int32)), (.int (Int32.ofNat n))] 2) = S0 at c0 ⊢
  have c1 : Steps p.tables e below S0 (s₁.setTop (mkF m 37 #[.val (.int (0 : Int32)), .val (.int (Int32.ofNat n))] [])) := by
    refine c0.trans ?_
    show Steps p.tables e below (s₁.setTop (mkF m 0 #[.val (.int (0 : Int32)), .val (.int (Int32.ofNat n))] [])) _
    refine XS.iloadN X0.here hx rfl (hb hby dCl_0) rfl ?_
    show Steps p.tables e below (s₁.setTop (mkF m 1 #[.val (.int (0 : Int32)), .val (.int (Int32.ofNat n))] [(.int (Int32.ofNat n))])) _
    refine XS.iloadN X0.here hx rfl (hb hby dCl_1) rfl ?_
    show Steps p.tables e below (s₁.setTop (mkF m 2 #[.val (.int (0 : Int32)), .val (.int (Int32.ofNat n))] [(.int (0 : Int32)), (.int (Int32.ofNat n))])) _
    refine XS.icmpYes X0.here hx rfl (pc0 := 2) (pc' := 37) rfl (hb hby dCl_2) rfl (flt (own_nn (by omega))).2.1 (by decide) (by decide) ?_
    exact Steps.refl _
  obtain ⟨fs, hr, hrun, hended, hW, hsame⟩ := X0.leave (v := none) (fun _ => rfl)
  refine ⟨_, _, c1.trans ?_, hrun, hended, _, _, rfl, ?_, ⟨_, rfl⟩, hW, hsame.mono (by decide) (by decide)⟩
  · show Steps p.tables e below (s₁.setTop (mkF m 37 #[.val (.int (0 : Int32)), .val (.int (Int32.ofNat n))] [])) _
    exact X0.returnOut hx Bd.returns (hb hby dCl_37) hr
  · show QCl Z n h0 n0 _ s₁.heap _
    rw [e0]
    exact ⟨rfl, N0, rfl⟩
def QCb (Z : State) (t : Addr) (kt : ClassId) (cap : Nat) (cs : List Int32) (h0 : Heap) (n0 : Nat) (v : Option Value) (h : Heap) (L : List Loc) : Prop := (∃ (t2 : Addr) (k2 : ClassId), v = some (.ref t2) ∧ h0.size ≤ t2 ∧ Arv Z h t2 k2 .byte (Int32.ofNat cs.length) (own_by cs) (.int 0)) ∧ Fr n0 L ∧ Keep h0 h []
theorem efCb (m : MethodId) (t : Addr) (cs : List Int32) : entryFrame m #[(.ref t), (.int (0 : Int32)), (.int (Int32.ofNat cs.length))] 5 = mkF m 0 #[.val (.ref t), .val (.int (0 : Int32)), .val (.int (Int32.ofNat cs.length)), .unset, .unset] [] := by first | (simp [entryFrame, mkF, argsToLocals, Value.category, List.replicate]; done) | rfl
set_option maxRecDepth 65536 in
set_option maxHeartbeats 40000000 in
theorem rmCb (l : Launch) (Z : State) (a0 : Array Value) (hw : ∀ d ∈ tables_1, d.before a0 Z = true) (ws : List Jvm.Cond) (t : Addr) (kt : ClassId) (cap : Nat) (cs : List Int32) (h0 : Heap) (n0 : Nat) (Z0 : n0 ≤ h0.size) (Vt : Arv Z h0 t kt .byte (Int32.ofNat cap) (own_by cs) (.int 0)) (hcap : cap ≤ 1000) (hn : cs.length ≤ 100) (hle : cs.length ≤ cap) :
    MetFree l (⟨"java/util/Arrays", "copyOfRangeByte", "([BII)[B"⟩ : MethodName) (head1 (Jvm.Cond.code (⟨"java/util/Arrays", "copyOfRangeByte", "([BII)[B"⟩ : MethodName) jdk_65_method_133_code 5 (some (.array .byte)) :: ws) ({ frames := 1, cells := 1, slots := 100, locals := 34 } : Room)) (fun aa UU => aa = #[(.ref t), (.int (0 : Int32)), (.int (Int32.ofNat cs.length))] ∧ Z.Warmed39 UU.vm ∧ UU.heap = h0) (fun _ _ _ _ _ => True) (fun _ UU oo UT => ∃ vv LL, oo = .returned vv ∧ QCb Z t kt cap cs h0 n0 vv UT.heap LL ∧ FrameEnd UU oo UT LL ({ frames := 1, cells := 1, slots := 100, locals := 34 } : Room).cells ({ frames := 1, cells := 1, slots := 100, locals := 34 } : Room).slots) := by
  refine MetFree.of_bodySF (by decide +kernel) hisR ?_
  intro p e s m args below meth c s₁ Bd hml0 hP hK
  obtain ⟨rfl, hZ, hh⟩ := hP
  have hx := Bd.exec
  have hby := Bd.bytes
  have hml : c.maxLocals = 5 := hml0
  have hown : s.vm.findClass "java/util/Arrays" = some m.cls := findClass_of_methodNamed Bd.named
  have hnm := (name_of_methodNamed Bd.named Bd.method).1
  have X0 : Stand p l e ({ frames := 1, cells := 1, slots := 100, locals := 34 } : Room) s m #[(.ref t), (.int (0 : Int32)), (.int (Int32.ofNat cs.length))] below meth c s₁ [] 0 0 := Stand.of_body Bd
  have e0 : s₁.heap = h0 := by rw [← hh, Bd.state]; rfl
  have N0 := Fr.nil n0
  have c0 : Steps p.tables e below (s₁.setTop (entryFrame m #[(.ref t), (.int (0 : Int32)), (.int (Int32.ofNat cs.length))] 5)) (s₁.setTop (mkF m 0 #[.val (.ref t), .val (.int (0 : Int32)), .val (.int (Int32.ofNat cs.length)), .unset, .unset] [])) := castTop (efCb m t cs) (Steps.refl _)
  show ∃ s₂ oo, Steps p.tables e below (s₁.setTop (entryFrame m #[(.ref t), (.int (0 : Int32)), (.int (Int32.ofNat cs.length))] 5)) s₂ ∧ _ ∧ _ ∧ _
  generalize s₁.setTop (entryFrame m #[(.ref t), (.int (0 : Int32)), (.int (Int32.ofNat cs.length))] 5) = S0 at c0 ⊢
  have c1 : Steps p.tables e below S0 (s₁.setTop (mkF m 2 #[.val (.ref t), .val (.int (0 : Int32)), .val (.int (Int32.ofNat cs.length)), .unset, .unset] [(.int (Int32.ofNat cs.length)), (.int (0 : Int32))])) := by
    refine c0.trans ?_
    show Steps p.tables e below (s₁.setTop (mkF m 0 #[.val (.ref t), .val (.int (0 : Int32)), .val (.int (Int32.ofNat cs.length)), .unset, .unset] [])) _
    refine XS.iloadN X0.here hx rfl (hb hby dCb_0) rfl ?_
    show Steps p.tables e below (s₁.setTop (mkF m 1 #[.val (.ref t), .val (.int (0 : Int32)), .val (.int (Int32.ofNat cs.length)), .unset, .unset] [(.int (0 : Int32))])) _
    refine XS.iloadN X0.here hx rfl (hb hby dCb_1) rfl ?_
    exact Steps.refl _
  obtain ⟨_, _, ⟨T2, L2, k2, n2⟩, -, X2, ⟨Lc2, hQ2, l2, y2, z2⟩, st2⟩ := Jvm.LawKit.callS X0 hx (y := (⟨"java/util/Arrays", "checkLength", "(II)V"⟩ : MethodName)) hown (mvT hZ (hw _ (List.mem_of_getElem? (i := 162) rfl))) (mvT hZ (hw _ (List.mem_of_getElem? (i := 163) rfl))) (mvT hZ (hw _ (List.mem_of_getElem? (i := 157) rfl))) (mvT hZ (hw _ (List.mem_of_getElem? (i := 164) rfl))) (by decide) (backOf (W := 0) (rmCl l Z a0 hw [] cs.length h0 n0 Z0 hn) hZ (hw _ (List.mem_of_getElem? (i := 164) rfl)) (hw _ (List.mem_of_getElem? (i := 157) rfl)) (by decide) (by decide)) (g := (mkF m 2 #[.val (.ref t), .val (.int (0 : Int32)), .val (.int (Int32.ofNat cs.length)), .unset, .unset] [(.int (Int32.ofNat cs.length)), (.int (0 : Int32))])) rfl (by rw [hml]; rfl) (argsL := [(.int (0 : Int32)), (.int (Int32.ofNat cs.length))]) (rest := []) (lenOf pd11 rfl) rfl (by show 2 * 0 + _ ≤ _; exact Nat.le_of_eq rfl) (hb hby dCb_2) (fun _ _ => ⟨rfl, e0, (by decide : 0 + 0 ≤ _), (by decide : 0 + 0 ≤ _)⟩)
  dsimp only [Pt.U, Pt.locs, Pt.cells, Pt.slots] at X2 l2 y2 z2 st2 hQ2
  subst l2 y2 z2
  obtain ⟨rfl, N1, e1⟩ := hQ2
  have c2 : Steps p.tables e below S0 (T2.setTop (mkF m 5 #[.val (.ref t), .val (.int (0 : Int32)), .val (.int (Int32.ofNat cs.length)), .unset, .unset] [])) := by
    refine c1.trans ?_
    show Steps p.tables e below (s₁.setTop (mkF m 2 #[.val (.ref t), .val (.int (0 : Int32)), .val (.int (Int32.ofNat cs.length)), .unset, .unset] [(.int (Int32.ofNat cs.length)), (.int (0 : Int32))])) _
    refine st2 _ ?_
    exact Steps.refl _
  have c3 : Steps p.tables e below S0 (T2.setTop (mkF m 8 #[.val (.ref t), .val (.int (0 : Int32)), .val (.int (Int32.ofNat cs.length)), .unset, .unset] [(.int ((Int32.ofNat cs.length) - (0 : Int32)))])) := by
    refine c2.trans ?_
    show Steps p.tables e below (T2.setTop (mkF m 5 #[.val (.ref t), .val (.int (0 : Int32)), .val (.int (Int32.ofNat cs.length)), .unset, .unset] [])) _
    refine XS.iloadN X2.here hx rfl (hb hby dCb_5) rfl ?_
    show Steps p.tables e below (T2.setTop (mkF m 6 #[.val (.ref t), .val (.int (0 : Int32)), .val (.int (Int32.ofNat cs.length)), .unset, .unset] [(.int (Int32.ofNat cs.length))])) _
    refine XS.iloadN X2.here hx rfl (hb hby dCb_6) rfl ?_
    show Steps p.tables e below (T2.setTop (mkF m 7 #[.val (.ref t), .val (.int (0 : Int32)), .val (.int (Int32.ofNat cs.length)), .unset, .unset] [(.int (0 : Int32)), (.int (Int32.ofNat cs.length))])) _
    refine XS.isub X2.here hx rfl (hb hby dCb_7) rfl ?_
    exact Steps.refl _
  rw [Int32.sub_zero] at c3
  have c4 : Steps p.tables e below S0 (T2.setTop (mkF m 10 #[.val (.ref t), .val (.int (0 : Int32)), .val (.int (Int32.ofNat cs.length)), .val (.int (Int32.ofNat cs.length)), .unset] [(.int (Int32.ofNat cs.length))])) := by
    refine c3.trans ?_
    show Steps p.tables e below (T2.setTop (mkF m 8 #[.val (.ref t), .val (.int (0 : Int32)), .val (.int (Int32.ofNat cs.length)), .unset, .unset] [(.int (Int32.ofNat cs.length))])) _
    refine XS.istoreN X2.here hx rfl (hb hby dCb_8) rfl (l' := #[.val (.ref t), .val (.int (0 : Int32)), .val (.int (Int32.ofNat cs.length)), .val (.int (Int32.ofNat cs.length)), .unset]) rfl ?_
    show Steps p.tables e below (T2.setTop (mkF m 9 #[.val (.ref t), .val (.int (0 : Int32)), .val (.int (Int32.ofNat cs.length)), .val (.int (Int32.ofNat cs.length)), .unset] [])) _
    refine XS.iloadN X2.here hx rfl (hb hby dCb_9) rfl ?_
    exact Steps.refl _
  obtain ⟨T5, h5, kA5, X5, e5, E5, A5, A5x, st5⟩ := newPE X2 hx hZ (hw _ (List.mem_of_getElem? (i := 23) rfl)) e1 (g := (mkF m 10 #[.val (.ref t), .val (.int (0 : Int32)), .val (.int (Int32.ofNat cs.length)), .val (.int (Int32.ofNat cs.length)), .unset] [(.int (Int32.ofNat cs.length))])) rfl (hb hby dCb_10) rfl (own_nn (by omega)) (cap := 100) (by rw [own_nat (by omega)]; exact hn) (by decide) (by decide) (by decide) (ad := "[B") (by decide +kernel)
  obtain ⟨b5, g5⟩ : ∃ z, z = h0.size := ⟨_, rfl⟩
  rw [← g5] at A5 A5x st5
  have c5 : Steps p.tables e below S0 (T5.setTop (mkF m 12 #[.val (.ref t), .val (.int (0 : Int32)), .val (.int (Int32.ofNat cs.length)), .val (.int (Int32.ofNat cs.length)), .unset] [(.ref b5)])) := by
    refine c4.trans ?_
    show Steps p.tables e below (T2.setTop (mkF m 10 #[.val (.ref t), .val (.int (0 : Int32)), .val (.int (Int32.ofNat cs.length)), .val (.int (Int32.ofNat cs.length)), .unset] [(.int (Int32.ofNat cs.length))])) _
    refine st5 _ ?_
    exact Steps.refl _
  have V5 := Arv.new A5 (own_nn (by omega))
  have gb : n0 ≤ b5 := Nat.le_trans Z0 (Nat.le_of_eq g5.symm)
  have zb : h0.size ≤ b5 := Nat.le_of_eq g5.symm
  have Zk := Nat.le_trans Z0 E5.1
  have c6 : Steps p.tables e below S0 (T5.setTop (mkF m 20 #[.val (.ref t), .val (.int (0 : Int32)), .val (.int (Int32.ofNat cs.length)), .val (.int (Int32.ofNat cs.length)), .val (.ref b5)] [(.ref t), (.int (0 : Int32)), (.ref b5), (.int (0 : Int32)), (.ref t)])) := by
    refine c5.trans ?_
    show Steps p.tables e below (T5.setTop (mkF m 12 #[.val (.ref t), .val (.int (0 : Int32)), .val (.int (Int32.ofNat cs.length)), .val (.int (Int32.ofNat cs.length)), .unset] [(.ref b5)])) _
    refine XS.astore X5.here hx rfl (hb hby dCb_12) rfl rfl (l' := #[.val (.ref t), .val (.int (0 : Int32)), .val (.int (Int32.ofNat cs.length)), .val (.int (Int32.ofNat cs.length)), .val (.ref b5)]) rfl ?_
    show Steps p.tables e below (T5.setTop (mkF m 14 #[.val (.ref t), .val (.int (0 : Int32)), .val (.int (Int32.ofNat cs.length)), .val (.int (Int32.ofNat cs.length)), .val (.ref b5)] [])) _
    refine XS.aloadN X5.here hx rfl (hb hby dCb_14) rfl rfl ?_
    show Steps p.tables e below (T5.setTop (mkF m 15 #[.val (.ref t), .val (.int (0 : Int32)), .val (.int (Int32.ofNat cs.length)), .val (.int (Int32.ofNat cs.length)), .val (.ref b5)] [(.ref t)])) _
    refine XS.iloadN X5.here hx rfl (hb hby dCb_15) rfl ?_
    show Steps p.tables e below (T5.setTop (mkF m 16 #[.val (.ref t), .val (.int (0 : Int32)), .val (.int (Int32.ofNat cs.length)), .val (.int (Int32.ofNat cs.length)), .val (.ref b5)] [(.int (0 : Int32)), (.ref t)])) _
    refine XS.aload X5.here hx rfl (hb hby dCb_16) rfl rfl ?_
    show Steps p.tables e below (T5.setTop (mkF m 18 #[.val (.ref t), .val (.int (0 : Int32)), .val (.int (Int32.ofNat cs.length)), .val (.int (Int32.ofNat cs.length)), .val (.ref b5)] [(.ref b5), (.int (0 : Int32)), (.ref t)])) _
    refine XS.iconst X5.here hx rfl (hb hby dCb_18) ?_
    show Steps p.tables e below (T5.setTop (mkF m 19 #[.val (.ref t), .val (.int (0 : Int32)), .val (.int (Int32.ofNat cs.length)), .val (.int (Int32.ofNat cs.length)), .val (.ref b5)] [(.int (0 : Int32)), (.ref b5), (.int (0 : Int32)), (.ref t)])) _
    refine XS.aloadN X5.here hx rfl (hb hby dCb_19) rfl rfl ?_
    exact Steps.refl _
  have Vt1 := Vt.ext E5
  obtain ⟨cl1, Ar1, -, Sz1, Mz1, -, -⟩ := id Vt1
  have c7 : Steps p.tables e below S0 (T5.setTop (mkF m 21 #[.val (.ref t), .val (.int (0 : Int32)), .val (.int (Int32.ofNat cs.length)), .val (.int (Int32.ofNat cs.length)), .val (.ref b5)] [(.int (Int32.ofNat cap)), (.int (0 : Int32)), (.ref b5), (.int (0 : Int32)), (.ref t)])) := by
    refine c6.trans ?_
    show Steps p.tables e below (T5.setTop (mkF m 20 #[.val (.ref t), .val (.int (0 : Int32)), .val (.int (Int32.ofNat cs.length)), .val (.int (Int32.ofNat cs.length)), .val (.ref b5)] [(.ref t), (.int (0 : Int32)), (.ref b5), (.int (0 : Int32)), (.ref t)])) _
    refine X5.arraylength hx (by rw [e5]; exact Ar1.1) (State.isArrayOf_alike hZ.alike Ar1.2.1) (g := (mkF m 20 #[.val (.ref t), .val (.int (0 : Int32)), .val (.int (Int32.ofNat cs.length)), .val (.int (Int32.ofNat cs.length)), .val (.ref b5)] [(.ref t), (.int (0 : Int32)), (.ref b5), (.int (0 : Int32)), (.ref t)])) rfl rfl (hb hby dCb_20) _ ?_
    rw [len_of Sz1 Mz1]
    exact Steps.refl _
  have c8 : Steps p.tables e below S0 (T5.setTop (mkF m 23 #[.val (.ref t), .val (.int (0 : Int32)), .val (.int (Int32.ofNat cs.length)), .val (.int (Int32.ofNat cs.length)), .val (.ref b5)] [(.int ((Int32.ofNat cap) - (0 : Int32))), (.int (0 : Int32)), (.ref b5), (.int (0 : Int32)), (.ref t)])) := by
    refine c7.trans ?_
    show Steps p.tables e below (T5.setTop (mkF m 21 #[.val (.ref t), .val (.int (0 : Int32)), .val (.int (Int32.ofNat cs.length)), .val (.int (Int32.ofNat cs.length)), .val (.ref b5)] [(.int (Int32.ofNat cap)), (.int (0 : Int32)), (.ref b5), (.int (0 : Int32)), (.ref t)])) _
    refine XS.iloadN X5.here hx rfl (hb hby dCb_21) rfl ?_
    show Steps p.tables e below (T5.setTop (mkF m 22 #[.val (.ref t), .val (.int (0 : Int32)), .val (.int (Int32.ofNat cs.length)), .val (.int (Int32.ofNat cs.length)), .val (.ref b5)] [(.int (0 : Int32)), (.int (Int32.ofNat cap)), (.int (0 : Int32)), (.ref b5), (.int (0 : Int32)), (.ref t)])) _
    refine XS.isub X5.here hx rfl (hb hby dCb_22) rfl ?_
    exact Steps.refl _
  rw [Int32.sub_zero] at c8
  have c9 : Steps p.tables e below S0 (T5.setTop (mkF m 24 #[.val (.ref t), .val (.int (0 : Int32)), .val (.int (Int32.ofNat cs.length)), .val (.int (Int32.ofNat cs.length)), .val (.ref b5)] [(.int (Int32.ofNat cs.length)), (.int (Int32.ofNat cap)), (.int (0 : Int32)), (.ref b5), (.int (0 : Int32)), (.ref t)])) := by
    refine c8.trans ?_
    show Steps p.tables e below (T5.setTop (mkF m 23 #[.val (.ref t), .val (.int (0 : Int32)), .val (.int (Int32.ofNat cs.length)), .val (.int (Int32.ofNat cs.length)), .val (.ref b5)] [(.int (Int32.ofNat cap)), (.int (0 : Int32)), (.ref b5), (.int (0 : Int32)), (.ref t)])) _
    refine XS.iloadN X5.here hx rfl (hb hby dCb_23) rfl ?_
    exact Steps.refl _
  obtain ⟨_, _, ⟨T10, L10, k10, n10⟩, -, X10, ⟨Lc10, hQ10, l10, y10, z10⟩, st10⟩ := Jvm.LawKit.callS X5 hx (y := (⟨"java/lang/Math", "min", "(II)I"⟩ : MethodName)) hown (mvT hZ (hw _ (List.mem_of_getElem? (i := 165) rfl))) (mvT hZ (hw _ (List.mem_of_getElem? (i := 166) rfl))) (mvT hZ (hw _ (List.mem_of_getElem? (i := 167) rfl))) (mvT hZ (hw _ (List.mem_of_getElem? (i := 168) rfl))) (by decide) (backOf (W := 4) (rmMi l Z a0 hw [] (Int32.ofNat cap) (Int32.ofNat cs.length) h5 n0 Zk) hZ (hw _ (List.mem_of_getElem? (i := 168) rfl)) (hw _ (List.mem_of_getElem? (i := 167) rfl)) (by decide) (by decide)) (g := (mkF m 24 #[.val (.ref t), .val (.int (0 : Int32)), .val (.int (Int32.ofNat cs.length)), .val (.int (Int32.ofNat cs.length)), .val (.ref b5)] [(.int (Int32.ofNat cs.length)), (.int (Int32.ofNat cap)), (.int (0 : Int32)), (.ref b5), (.int (0 : Int32)), (.ref t)])) rfl (by rw [hml]; rfl) (argsL := [(.int (Int32.ofNat cap)), (.int (Int32.ofNat cs.length))]) (rest := [(.int (0 : Int32)), (.ref b5), (.int (0 : Int32)), (.ref t)]) (lenOf pd3 rfl) rfl (by show 2 * 0 + _ ≤ _; exact Nat.le_of_eq rfl) (hb hby dCb_24) (fun _ _ => ⟨rfl, e5, (by decide : 1 + 0 ≤ _), (by decide : 100 + 0 ≤ _)⟩)
  dsimp only [Pt.U, Pt.locs, Pt.cells, Pt.slots] at X10 l10 y10 z10 st10 hQ10
  subst l10 y10 z10
  obtain ⟨rfl, N2, e2⟩ := hQ10
  have c10 : Steps p.tables e below S0 (T10.setTop (mkF m 27 #[.val (.ref t), .val (.int (0 : Int32)), .val (.int (Int32.ofNat cs.length)), .val (.int (Int32.ofNat cs.length)), .val (.ref b5)] [(.int (if (Int32.ofNat cs.length) < Int32.ofNat cap then (Int32.ofNat cs.length) else Int32.ofNat cap)), (.int (0 : Int32)), (.ref b5), (.int (0 : Int32)), (.ref t)])) := by
    refine c9.trans ?_
    show Steps p.tables e below (T5.setTop (mkF m 24 #[.val (.ref t), .val (.int (0 : Int32)), .val (.int (Int32.ofNat cs.length)), .val (.int (Int32.ofNat cs.length)), .val (.ref b5)] [(.int (Int32.ofNat cs.length)), (.int (Int32.ofNat cap)), (.int (0 : Int32)), (.ref b5), (.int (0 : Int32)), (.ref t)])) _
    refine st10 _ ?_
    exact Steps.refl _
  have hmin : (if (Int32.ofNat cs.length) < Int32.ofNat cap then (Int32.ofNat cs.length) else Int32.ofNat cap) = (Int32.ofNat cs.length) := by
    by_cases hc : (Int32.ofNat cs.length) < Int32.ofNat cap
    · exact if_pos hc
    · rw [if_neg hc]; have := (not_congr (own_ltn (by omega) (by omega))).mp hc; rw [show cap = cs.length by omega]
  rw [hmin] at c10
  have zc := own_nat (n := cs.length) (by omega)
  have zn := own_nat (n := cap) (by omega)
  have z0 : (0 : Int32).toNatClampNeg = 0 := rfl
  have Vd : Arv Z h5 b5 kA5 .byte (Int32.ofNat cs.length) ([] ++ List.replicate cs.length (.int 0)) (.int 0) := V5.pad (pad_rep [] (.int 0) cs.length)
  obtain ⟨T11, h11, L11, X11, e11, N11, K11, V11, st11⟩ := cpA X10 hx hZ hown (hw _ (List.mem_of_getElem? (i := 169) rfl)) (hw _ (List.mem_of_getElem? (i := 123) rfl)) (hw _ (List.mem_of_getElem? (i := 121) rfl)) (hw _ (List.mem_of_getElem? (i := 122) rfl)) e2 (us := own_by cs) Vt1 Vd (Or.inl ⟨rfl, rfl⟩) (by decide) (by decide) (own_nn (by omega)) (by rw [z0, zc, zn]; omega) (by rw [z0, zc]; omega) (by rw [z0, zc, ← own_bylen cs]; exact (own_rangeget _ _).symm) (by rw [z0, zc]; simp) (Fr.app (Fr.app N0 N1) N2) gb (g := (mkF m 27 #[.val (.ref t), .val (.int (0 : Int32)), .val (.int (Int32.ofNat cs.length)), .val (.int (Int32.ofNat cs.length)), .val (.ref b5)] [(.int (Int32.ofNat cs.length)), (.int (0 : Int32)), (.ref b5), (.int (0 : Int32)), (.ref t)])) rfl (by rw [hml]; rfl) rfl (hb hby dCb_27) (by decide) (W := 0) (by show 2 * 0 + _ ≤ _; exact Nat.le_of_eq rfl) (by decide)
  have c11 : Steps p.tables e below S0 (T11.setTop (mkF m 30 #[.val (.ref t), .val (.int (0 : Int32)), .val (.int (Int32.ofNat cs.length)), .val (.int (Int32.ofNat cs.length)), .val (.ref b5)] [])) := by
    refine c10.trans ?_
    show Steps p.tables e below (T10.setTop (mkF m 27 #[.val (.ref t), .val (.int (0 : Int32)), .val (.int (Int32.ofNat cs.length)), .val (.int (Int32.ofNat cs.length)), .val (.ref b5)] [(.int (Int32.ofNat cs.length)), (.int (0 : Int32)), (.ref b5), (.int (0 : Int32)), (.ref t)])) _
    refine st11 _ ?_
    exact Steps.refl _
  have Vf : Arv Z h11 b5 kA5 .byte (Int32.ofNat cs.length) (own_by cs) (.int 0) := by
    have := V11
    rw [z0, zc, List.take_zero, List.nil_append, List.nil_append, List.drop_of_length_le (by simp), List.append_nil] at this
    exact this
  have c12 : Steps p.tables e below S0 (T11.setTop (mkF m 32 #[.val (.ref t), .val (.int (0 : Int32)), .val (.int (Int32.ofNat cs.length)), .val (.int (Int32.ofNat cs.length)), .val (.ref b5)] [(.ref b5)])) := by
    refine c11.trans ?_
    show Steps p.tables e below (T11.setTop (mkF m 30 #[.val (.ref t), .val (.int (0 : Int32)), .val (.int (Int32.ofNat cs.length)), .val (.int (Int32.ofNat cs.length)), .val (.ref b5)] [])) _
    refine XS.aload X11.here hx rfl (hb hby dCb_30) rfl rfl ?_
    exact Steps.refl _
  obtain ⟨fs, hr, hrun, hended, hW, hsame⟩ := X11.leave (v := some (.ref b5)) (fun h => by rw [Bd.returns] at h; cases h)
  refine ⟨_, _, c12.trans ?_, hrun, hended, _, _, rfl, ?_, ⟨_, rfl⟩, hW, hsame.mono (by decide) (by decide)⟩
  · show Steps p.tables e below (T11.setTop (mkF m 32 #[.val (.ref t), .val (.int (0 : Int32)), .val (.int (Int32.ofNat cs.length)), .val (.int (Int32.ofNat cs.length)), .val (.ref b5)] [(.ref b5)])) _
    exact retA X11 hx Bd.returns rfl rfl (hb hby dCb_32) hr
  · show QCb Z t kt cap cs h0 n0 _ T11.heap _
    rw [e11]
    exact ⟨⟨_, _, rfl, zb, Vf⟩, N11, ((Keep.refl h0 []).ext E5).trans K11 (fun x hx => by cases List.mem_singleton.mp hx; exact Or.inr zb)⟩
def QCr (Z : State) (t : Addr) (kt : ClassId) (cap : Nat) (cs : List Int32) (h0 : Heap) (n0 : Nat) (v : Option Value) (h : Heap) (L : List Loc) : Prop := (∃ (t2 : Addr) (k2 : ClassId), v = some (.ref t2) ∧ h0.size ≤ t2 ∧ Arv Z h t2 k2 .byte (Int32.ofNat cs.length) (own_by cs) (.int 0)) ∧ Fr n0 L ∧ Keep h0 h []
theorem efCr (m : MethodId) (t : Addr) (cs : List Int32) : entryFrame m #[(.ref t), (.int (0 : Int32)), (.int (Int32.ofNat cs.length))] 3 = mkF m 0 #[.val (.ref t), .val (.int (0 : Int32)), .val (.int (Int32.ofNat cs.length))] [] := by first | (simp [entryFrame, mkF, argsToLocals, Value.category, List.replicate]; done) | rfl
set_option maxRecDepth 65536 in
set_option maxHeartbeats 40000000 in
theorem rmCr (l : Launch) (Z : State) (a0 : Array Value) (hw : ∀ d ∈ tables_1, d.before a0 Z = true) (ws : List Jvm.Cond) (t : Addr) (kt : ClassId) (cap : Nat) (cs : List Int32) (h0 : Heap) (n0 : Nat) (Z0 : n0 ≤ h0.size) (Vt : Arv Z h0 t kt .byte (Int32.ofNat cap) (own_by cs) (.int 0)) (hcap : cap ≤ 1000) (hn : cs.length ≤ 100) (hle : cs.length ≤ cap) (Et : Exa Z h0 t "[B") :
    MetFree l (⟨"java/util/Arrays", "copyOfRange", "([BII)[B"⟩ : MethodName) (head1 (Jvm.Cond.code (⟨"java/util/Arrays", "copyOfRange", "([BII)[B"⟩ : MethodName) jdk_65_method_132_code 3 (some (.array .byte)) :: ws) ({ frames := 2, cells := 1, slots := 100, locals := 52 } : Room)) (fun aa UU => aa = #[(.ref t), (.int (0 : Int32)), (.int (Int32.ofNat cs.length))] ∧ Z.Warmed39 UU.vm ∧ UU.heap = h0) (fun _ _ _ _ _ => True) (fun _ UU oo UT => ∃ vv LL, oo = .returned vv ∧ QCr Z t kt cap cs h0 n0 vv UT.heap LL ∧ FrameEnd UU oo UT LL ({ frames := 2, cells := 1, slots := 100, locals := 52 } : Room).cells ({ frames := 2, cells := 1, slots := 100, locals := 52 } : Room).slots) := by
  refine MetFree.of_bodySF (by decide +kernel) hisR ?_
  intro p e s m args below meth c s₁ Bd hml0 hP hK
  obtain ⟨rfl, hZ, hh⟩ := hP
  have hx := Bd.exec
  have hby := Bd.bytes
  have hml : c.maxLocals = 3 := hml0
  have hown : s.vm.findClass "java/util/Arrays" = some m.cls := findClass_of_methodNamed Bd.named
  have hnm := (name_of_methodNamed Bd.named Bd.method).1
  have X0 : Stand p l e ({ frames := 2, cells := 1, slots := 100, locals := 52 } : Room) s m #[(.ref t), (.int (0 : Int32)), (.int (Int32.ofNat cs.length))] below meth c s₁ [] 0 0 := Stand.of_body Bd
  have e0 : s₁.heap = h0 := by rw [← hh, Bd.state]; rfl
  have N0 := Fr.nil n0
  have c0 : Steps p.tables e below (s₁.setTop (entryFrame m #[(.ref t), (.int (0 : Int32)), (.int (Int32.ofNat cs.length))] 3)) (s₁.setTop (mkF m 0 #[.val (.ref t), .val (.int (0 : Int32)), .val (.int (Int32.ofNat cs.length))] [])) := castTop (efCr m t cs) (Steps.refl _)
  show ∃ s₂ oo, Steps p.tables e below (s₁.setTop (entryFrame m #[(.ref t), (.int (0 : Int32)), (.int (Int32.ofNat cs.length))] 3)) s₂ ∧ _ ∧ _ ∧ _
  generalize s₁.setTop (entryFrame m #[(.ref t), (.int (0 : Int32)), (.int (Int32.ofNat cs.length))] 3) = S0 at c0 ⊢
  obtain ⟨cl, Ar, -, Sz, Mz, -, -⟩ := id Vt
  have c1 : Steps p.tables e below S0 (s₁.setTop (mkF m 4 #[.val (.ref t), .val (.int (0 : Int32)), .val (.int (Int32.ofNat cs.length))] [])) := by
    refine c0.trans ?_
    show Steps p.tables e below (s₁.setTop (mkF m 0 #[.val (.ref t), .val (.int (0 : Int32)), .val (.int (Int32.ofNat cs.length))] [])) _
    refine XS.iloadN X0.here hx rfl (hb hby dCr_0) rfl ?_
    show Steps p.tables e below (s₁.setTop (mkF m 1 #[.val (.ref t), .val (.int (0 : Int32)), .val (.int (Int32.ofNat cs.length))] [(.int (0 : Int32))])) _
    refine XS.ifNo X0.here hx rfl (hb hby dCr_1) rfl ((if0 _ _).trans (teq rfl).2) ?_
    exact Steps.refl _
  have c2 : Steps p.tables e below S0 (s₁.setTop (mkF m 6 #[.val (.ref t), .val (.int (0 : Int32)), .val (.int (Int32.ofNat cs.length))] [(.ref t), (.int (Int32.ofNat cs.length))])) := by
    refine c1.trans ?_
    show Steps p.tables e below (s₁.setTop (mkF m 4 #[.val (.ref t), .val (.int (0 : Int32)), .val (.int (Int32.ofNat cs.length))] [])) _
    refine XS.iloadN X0.here hx rfl (hb hby dCr_4) rfl ?_
    show Steps p.tables e below (s₁.setTop (mkF m 5 #[.val (.ref t), .val (.int (0 : Int32)), .val (.int (Int32.ofNat cs.length))] [(.int (Int32.ofNat cs.length))])) _
    refine XS.aloadN X0.here hx rfl (hb hby dCr_5) rfl rfl ?_
    exact Steps.refl _
  have c3 : Steps p.tables e below S0 (s₁.setTop (mkF m 7 #[.val (.ref t), .val (.int (0 : Int32)), .val (.int (Int32.ofNat cs.length))] [(.int (Int32.ofNat cap)), (.int (Int32.ofNat cs.length))])) := by
    refine c2.trans ?_
    show Steps p.tables e below (s₁.setTop (mkF m 6 #[.val (.ref t), .val (.int (0 : Int32)), .val (.int (Int32.ofNat cs.length))] [(.ref t), (.int (Int32.ofNat cs.length))])) _
    refine X0.arraylength hx (by rw [e0]; exact Ar.1) (State.isArrayOf_alike hZ.alike Ar.2.1) (g := (mkF m 6 #[.val (.ref t), .val (.int (0 : Int32)), .val (.int (Int32.ofNat cs.length))] [(.ref t), (.int (Int32.ofNat cs.length))])) rfl rfl (hb hby dCr_6) _ ?_
    rw [len_of Sz Mz]
    exact Steps.refl _
  by_cases hq : cs.length = cap
  · have c4 : Steps p.tables e below S0 (s₁.setTop (mkF m 17 #[.val (.ref t), .val (.int (0 : Int32)), .val (.int (Int32.ofNat cs.length))] [])) := by
      refine c3.trans ?_
      show Steps p.tables e below (s₁.setTop (mkF m 7 #[.val (.ref t), .val (.int (0 : Int32)), .val (.int (Int32.ofNat cs.length))] [(.int (Int32.ofNat cap)), (.int (Int32.ofNat cs.length))])) _
      refine XS.icmpYes X0.here hx rfl (pc0 := 7) (pc' := 17) rfl (hb hby dCr_7) rfl (teq ((own_eqn (by omega) (by omega)).mpr hq)).1 (by decide) (by decide) ?_
      exact Steps.refl _
    have c5 : Steps p.tables e below S0 (s₁.setTop (mkF m 18 #[.val (.ref t), .val (.int (0 : Int32)), .val (.int (Int32.ofNat cs.length))] [(.ref t)])) := by
      refine c4.trans ?_
      show Steps p.tables e below (s₁.setTop (mkF m 17 #[.val (.ref t), .val (.int (0 : Int32)), .val (.int (Int32.ofNat cs.length))] [])) _
      refine XS.aloadN X0.here hx rfl (hb hby dCr_17) rfl rfl ?_
      exact Steps.refl _
    obtain ⟨T6, h6, X6, e6, E6, V6, A6x, st6⟩ := own_cloneV X0 hx hZ hown (hw _ (List.mem_of_getElem? (i := 197) rfl)) (hw _ (List.mem_of_getElem? (i := 198) rfl)) (hw _ (List.mem_of_getElem? (i := 202) rfl)) (hw _ (List.mem_of_getElem? (i := 200) rfl)) (hw _ (List.mem_of_getElem? (i := 201) rfl)) (hw _ (List.mem_of_getElem? (i := 203) rfl)) e0 Vt Et (g := (mkF m 18 #[.val (.ref t), .val (.int (0 : Int32)), .val (.int (Int32.ofNat cs.length))] [(.ref t)])) rfl (by rw [hml]; rfl) rfl (hb hby dCr_18) (by decide) (W := 0) (cap := 100) (by show 2 * 0 + _ ≤ _; exact Nat.le_of_eq rfl) (by decide) (by rw [own_nat (by omega)]; omega) (by decide) (by decide)
    obtain ⟨b6, g6⟩ : ∃ z, z = h0.size := ⟨_, rfl⟩
    rw [← g6] at V6 A6x st6
    have c6 : Steps p.tables e below S0 (T6.setTop (mkF m 21 #[.val (.ref t), .val (.int (0 : Int32)), .val (.int (Int32.ofNat cs.length))] [(.ref b6)])) := by
      refine c5.trans ?_
      show Steps p.tables e below (s₁.setTop (mkF m 18 #[.val (.ref t), .val (.int (0 : Int32)), .val (.int (Int32.ofNat cs.length))] [(.ref t)])) _
      refine st6 _ ?_
      exact Steps.refl _
    obtain ⟨T7, X7, e7, st7⟩ := castY X6 hx hZ hown (hw _ (List.mem_of_getElem? (i := 204) rfl)) e6 (Ins.self A6x) (g := (mkF m 21 #[.val (.ref t), .val (.int (0 : Int32)), .val (.int (Int32.ofNat cs.length))] [(.ref b6)])) rfl rfl (hb hby dCr_21)
    have c7 : Steps p.tables e below S0 (T7.setTop (mkF m 24 #[.val (.ref t), .val (.int (0 : Int32)), .val (.int (Int32.ofNat cs.length))] [(.ref b6)])) := by
      refine c6.trans ?_
      show Steps p.tables e below (T6.setTop (mkF m 21 #[.val (.ref t), .val (.int (0 : Int32)), .val (.int (Int32.ofNat cs.length))] [(.ref b6)])) _
      refine st7 _ ?_
      exact Steps.refl _
    rw [← hq] at V6
    obtain ⟨fs, hr, hrun, hended, hW, hsame⟩ := X7.leave (v := some (.ref b6)) (fun h => by rw [Bd.returns] at h; cases h)
    refine ⟨_, _, c7.trans ?_, hrun, hended, _, _, rfl, ?_, ⟨_, rfl⟩, hW, hsame.mono (by decide) (by decide)⟩
    · show Steps p.tables e below (T7.setTop (mkF m 24 #[.val (.ref t), .val (.int (0 : Int32)), .val (.int (Int32.ofNat cs.length))] [(.ref b6)])) _
      exact retA X7 hx Bd.returns rfl rfl (hb hby dCr_24) hr
    · show QCr Z t kt cap cs h0 n0 _ T7.heap _
      rw [e7]
      exact ⟨⟨_, _, rfl, Nat.le_of_eq g6.symm, V6⟩, N0, (Keep.refl h0 []).ext E6⟩
  · have c8 : Steps p.tables e below S0 (s₁.setTop (mkF m 10 #[.val (.ref t), .val (.int (0 : Int32)), .val (.int (Int32.ofNat cs.length))] [])) := by
      refine c3.trans ?_
      show Steps p.tables e below (s₁.setTop (mkF m 7 #[.val (.ref t), .val (.int (0 : Int32)), .val (.int (Int32.ofNat cs.length))] [(.int (Int32.ofNat cap)), (.int (Int32.ofNat cs.length))])) _
      refine XS.icmpNo X0.here hx rfl (hb hby dCr_7) rfl (feq (fun q => hq ((own_eqn (by omega) (by omega)).mp q))).1 ?_
      exact Steps.refl _
    have c9 : Steps p.tables e below S0 (s₁.setTop (mkF m 13 #[.val (.ref t), .val (.int (0 : Int32)), .val (.int (Int32.ofNat cs.length))] [(.int (Int32.ofNat cs.length)), (.int (0 : Int32)), (.ref t)])) := by
      refine c8.trans ?_
      show Steps p.tables e below (s₁.setTop (mkF m 10 #[.val (.ref t), .val (.int (0 : Int32)), .val (.int (Int32.ofNat cs.length))] [])) _
      refine XS.aloadN X0.here hx rfl (hb hby dCr_10) rfl rfl ?_
      show Steps p.tables e below (s₁.setTop (mkF m 11 #[.val (.ref t), .val (.int (0 : Int32)), .val (.int (Int32.ofNat cs.length))] [(.ref t)])) _
      refine XS.iloadN X0.here hx rfl (hb hby dCr_11) rfl ?_
      show Steps p.tables e below (s₁.setTop (mkF m 12 #[.val (.ref t), .val (.int (0 : Int32)), .val (.int (Int32.ofNat cs.length))] [(.int (0 : Int32)), (.ref t)])) _
      refine XS.iloadN X0.here hx rfl (hb hby dCr_12) rfl ?_
      exact Steps.refl _
    obtain ⟨_, _, ⟨T10, L10, k10, n10⟩, -, X10, ⟨Lc10, hQ10, l10, y10, z10⟩, st10⟩ := Jvm.LawKit.callS X0 hx (y := (⟨"java/util/Arrays", "copyOfRangeByte", "([BII)[B"⟩ : MethodName)) hown (mvT hZ (hw _ (List.mem_of_getElem? (i := 159) rfl))) (mvT hZ (hw _ (List.mem_of_getElem? (i := 160) rfl))) (mvT hZ (hw _ (List.mem_of_getElem? (i := 157) rfl))) (mvT hZ (hw _ (List.mem_of_getElem? (i := 161) rfl))) (by decide) (backOf (W := 0) (rmCb l Z a0 hw [] t kt cap cs h0 n0 Z0 Vt hcap hn hle) hZ (hw _ (List.mem_of_getElem? (i := 161) rfl)) (hw _ (List.mem_of_getElem? (i := 157) rfl)) (by decide) (by decide)) (g := (mkF m 13 #[.val (.ref t), .val (.int (0 : Int32)), .val (.int (Int32.ofNat cs.length))] [(.int (Int32.ofNat cs.length)), (.int (0 : Int32)), (.ref t)])) rfl (by rw [hml]; rfl) (argsL := [(.ref t), (.int (0 : Int32)), (.int (Int32.ofNat cs.length))]) (rest := []) (lenOf pd12 rfl) rfl (by show 2 * 0 + _ ≤ _; exact Nat.le_of_eq rfl) (hb hby dCr_13) (fun _ _ => ⟨rfl, e0, (by decide : 0 + 1 ≤ _), (by decide : 0 + 100 ≤ _)⟩)
    dsimp only [Pt.U, Pt.locs, Pt.cells, Pt.slots] at X10 l10 y10 z10 st10 hQ10
    subst l10 y10 z10
    obtain ⟨⟨t2, k2, rfl, zt2, V2⟩, N1, K1⟩ := hQ10
    have c10 : Steps p.tables e below S0 (T10.setTop (mkF m 16 #[.val (.ref t), .val (.int (0 : Int32)), .val (.int (Int32.ofNat cs.length))] [(.ref t2)])) := by
      refine c9.trans ?_
      show Steps p.tables e below (s₁.setTop (mkF m 13 #[.val (.ref t), .val (.int (0 : Int32)), .val (.int (Int32.ofNat cs.length))] [(.int (Int32.ofNat cs.length)), (.int (0 : Int32)), (.ref t)])) _
      refine st10 _ ?_
      exact Steps.refl _
    obtain ⟨fs, hr, hrun, hended, hW, hsame⟩ := X10.leave (v := some (.ref t2)) (fun h => by rw [Bd.returns] at h; cases h)
    refine ⟨_, _, c10.trans ?_, hrun, hended, _, _, rfl, ?_, ⟨_, rfl⟩, hW, hsame.mono (by decide) (by decide)⟩
    · show Steps p.tables e below (T10.setTop (mkF m 16 #[.val (.ref t), .val (.int (0 : Int32)), .val (.int (Int32.ofNat cs.length))] [(.ref t2)])) _
      exact retA X10 hx Bd.returns rfl rfl (hb hby dCr_16) hr
    · show QCr Z t kt cap cs h0 n0 _ T10.heap _
      exact ⟨⟨_, _, rfl, zt2, V2⟩, Fr.app N0 N1, K1⟩
def QSb (Z : State) (a : Addr) (b : Addr) (t : Addr) (cap : Nat) (cs : List Int32) (G1 : Int32) (h0 : Heap) (n0 : Nat) (v : Option Value) (h : Heap) (L : List Loc) : Prop := v = none ∧ Fr n0 L ∧ Keep h0 h [a] ∧ ∃ t2 : Addr, own_Str Z h a t2 cs
theorem efSb (m : MethodId) (a : Addr) (b : Addr) : entryFrame m #[(.ref a), (.ref b), .null] 5 = mkF m 0 #[.val (.ref a), .val (.ref b), .val .null, .unset, .unset] [] := by first | (simp [entryFrame, mkF, argsToLocals, Value.category, List.replicate]; done) | rfl
set_option maxRecDepth 65536 in
set_option maxHeartbeats 40000000 in
theorem rmSb (l : Launch) (Z : State) (a0 : Array Value) (hw : ∀ d ∈ tables_1, d.before a0 Z = true) (ws : List Jvm.Cond) (a : Addr) (b : Addr) (t : Addr) (cap : Nat) (cs : List Int32) (G1 : Int32) (h0 : Heap) (n0 : Nat) (Z0 : n0 ≤ h0.size) (O2 : Sta Z Z.heap "java/lang/String" "COMPACT_STRINGS" "Z" (.int G1)) (P5 : ¬ G1 = 0) (X00 : Old Z n0 h0) (Ea : Exa Z h0 a "java/lang/String") (Fv : Fld Z h0 a "java/lang/String" "value" "[B" .null) (Fc : Fld Z h0 a "java/lang/String" "coder" "B" (.int 0)) (ga : n0 ≤ a) (B : own_SB Z h0 b t cap cs) (hn : cs.length ≤ 100) :
    MetFree l (⟨"java/lang/String", "<init>", "(Ljava/lang/AbstractStringBuilder;Ljava/lang/Void;)V"⟩ : MethodName) (head1 (Jvm.Cond.code (⟨"java/lang/String", "<init>", "(Ljava/lang/AbstractStringBuilder;Ljava/lang/Void;)V"⟩ : MethodName) jdk_42_method_150_code 5 none :: ws) ({ frames := 3, cells := 1, slots := 100, locals := 70 } : Room)) (fun aa UU => aa = #[(.ref a), (.ref b), .null] ∧ Z.Warmed39 UU.vm ∧ UU.heap = h0) (fun _ _ _ _ _ => True) (fun _ UU oo UT => ∃ vv LL, oo = .returned vv ∧ QSb Z a b t cap cs G1 h0 n0 vv UT.heap LL ∧ FrameEnd UU oo UT LL ({ frames := 3, cells := 1, slots := 100, locals := 70 } : Room).cells ({ frames := 3, cells := 1, slots := 100, locals := 70 } : Room).slots) := by
  refine MetFree.of_bodySF (by decide +kernel) hisR ?_
  intro p e s m args below meth c s₁ Bd hml0 hP hK
  obtain ⟨rfl, hZ, hh⟩ := hP
  have hx := Bd.exec
  have hby := Bd.bytes
  have hml : c.maxLocals = 5 := hml0
  have hown : s.vm.findClass "java/lang/String" = some m.cls := findClass_of_methodNamed Bd.named
  have hnm := (name_of_methodNamed Bd.named Bd.method).1
  have X0 : Stand p l e ({ frames := 3, cells := 1, slots := 100, locals := 70 } : Room) s m #[(.ref a), (.ref b), .null] below meth c s₁ [] 0 0 := Stand.of_body Bd
  have e0 : s₁.heap = h0 := by rw [← hh, Bd.state]; rfl
  have N0 := Fr.nil n0
  have c0 : Steps p.tables e below (s₁.setTop (entryFrame m #[(.ref a), (.ref b), .null] 5)) (s₁.setTop (mkF m 0 #[.val (.ref a), .val (.ref b), .val .null, .unset, .unset] [])) := castTop (efSb m a b) (Steps.refl _)
  show ∃ s₂ oo, Steps p.tables e below (s₁.setTop (entryFrame m #[(.ref a), (.ref b), .null] 5)) s₂ ∧ _ ∧ _ ∧ _
  generalize s₁.setTop (entryFrame m #[(.ref a), (.ref b), .null] 5) = S0 at c0 ⊢
  obtain ⟨Eb, Fco, Fcn, Fva, ⟨kt, Vt, Et⟩, hch, hle, hcap⟩ := id B
  have c1 : Steps p.tables e below S0 (s₁.setTop (mkF m 1 #[.val (.ref a), .val (.ref b), .val .null, .unset, .unset] [(.ref a)])) := by
    refine c0.trans ?_
    show Steps p.tables e below (s₁.setTop (mkF m 0 #[.val (.ref a), .val (.ref b), .val .null, .unset, .unset] [])) _
    refine XS.aloadN X0.here hx rfl (hb hby dSb_0) rfl rfl ?_
    exact Steps.refl _
  obtain ⟨T2, X2, e2, st2⟩ := initO X0 hx hZ hown (hw _ (List.mem_of_getElem? (i := 15) rfl)) (hw _ (List.mem_of_getElem? (i := 16) rfl)) (hw _ (List.mem_of_getElem? (i := 17) rfl)) e0 (g := (mkF m 1 #[.val (.ref a), .val (.ref b), .val .null, .unset, .unset] [(.ref a)])) rfl (by rw [hml]; rfl) rfl (hb hby dSb_1) (by decide) (W := 0) (by show 2 * 0 + _ ≤ _; exact Nat.le_of_eq rfl) (by decide)
  have c2 : Steps p.tables e below S0 (T2.setTop (mkF m 4 #[.val (.ref a), .val (.ref b), .val .null, .unset, .unset] [])) := by
    refine c1.trans ?_
    show Steps p.tables e below (s₁.setTop (mkF m 1 #[.val (.ref a), .val (.ref b), .val .null, .unset, .unset] [(.ref a)])) _
    refine st2 _ ?_
    exact Steps.refl _
  have c3 : Steps p.tables e below S0 (T2.setTop (mkF m 5 #[.val (.ref a), .val (.ref b), .val .null, .unset, .unset] [(.ref b)])) := by
    refine c2.trans ?_
    show Steps p.tables e below (T2.setTop (mkF m 4 #[.val (.ref a), .val (.ref b), .val .null, .unset, .unset] [])) _
    refine XS.aloadN X2.here hx rfl (hb hby dSb_4) rfl rfl ?_
    exact Steps.refl _
  obtain ⟨cq4, kq4, q4a, q4b, q4c⟩ := isOf hZ e2 Eb
  obtain ⟨_, _, ⟨T4, L4, k4, n4⟩, -, X4, ⟨Lc4, hQ4, l4, y4, z4⟩, st4⟩ := X2.virtualBack hx (y := (⟨"java/lang/AbstractStringBuilder", "getValue", "()[B"⟩ : MethodName)) (z := (⟨"java/lang/AbstractStringBuilder", "getValue", "()[B"⟩ : MethodName)) hown (mvT hZ (hw _ (List.mem_of_getElem? (i := 137) rfl))) (mvT hZ (hw _ (List.mem_of_getElem? (i := 138) rfl))) (notFace_of_selects (args := #[]) (mvT hZ (hw _ (List.mem_of_getElem? (i := 140) rfl)))) (mvT hZ (hw _ (List.mem_of_getElem? (i := 140) rfl))) (mvT hZ (hw _ (List.mem_of_getElem? (i := 139) rfl))) (by decide) (backOf (W := 0) (rmGv l Z a0 hw [] b t cap cs h0 n0 Z0 B) hZ (hw _ (List.mem_of_getElem? (i := 141) rfl)) (hw _ (List.mem_of_getElem? (i := 68) rfl)) (by decide) (by decide)) q4a q4c (g := (mkF m 5 #[.val (.ref a), .val (.ref b), .val .null, .unset, .unset] [(.ref b)])) rfl (by rw [hml]; rfl) (Steps.refl _) (argsL := []) (rest := []) (lenOf pd13 rfl) rfl (by show 2 * 0 + _ ≤ _; exact Nat.le_of_eq rfl) (hb hby dSb_5) (fun _ _ => ⟨rfl, e2, (by decide : 0 + 0 ≤ _), (by decide : 0 + 0 ≤ _)⟩)
  dsimp only [Pt.U, Pt.locs, Pt.cells, Pt.slots] at X4 l4 y4 z4 st4 hQ4
  subst l4 y4 z4
  obtain ⟨rfl, N1, e1⟩ := hQ4
  have c4 : Steps p.tables e below S0 (T4.setTop (mkF m 8 #[.val (.ref a), .val (.ref b), .val .null, .unset, .unset] [(.ref t)])) := by
    refine c3.trans ?_
    show Steps p.tables e below (T2.setTop (mkF m 5 #[.val (.ref a), .val (.ref b), .val .null, .unset, .unset] [(.ref b)])) _
    refine st4.trans ?_
    exact Steps.refl _
  have c5 : Steps p.tables e below S0 (T4.setTop (mkF m 10 #[.val (.ref a), .val (.ref b), .val .null, .val (.ref t), .unset] [(.ref b)])) := by
    refine c4.trans ?_
    show Steps p.tables e below (T4.setTop (mkF m 8 #[.val (.ref a), .val (.ref b), .val .null, .unset, .unset] [(.ref t)])) _
    refine XS.astoreN X4.here hx rfl (hb hby dSb_8) rfl rfl (l' := #[.val (.ref a), .val (.ref b), .val .null, .val (.ref t), .unset]) rfl ?_
    show Steps p.tables e below (T4.setTop (mkF m 9 #[.val (.ref a), .val (.ref b), .val .null, .val (.ref t), .unset] [])) _
    refine XS.aloadN X4.here hx rfl (hb hby dSb_9) rfl rfl ?_
    exact Steps.refl _
  obtain ⟨cq6, kq6, q6a, q6b, q6c⟩ := isOf hZ e1 Eb
  obtain ⟨_, _, ⟨T6, L6, k6, n6⟩, -, X6, ⟨Lc6, hQ6, l6, y6, z6⟩, st6⟩ := X4.virtualBack hx (y := (⟨"java/lang/AbstractStringBuilder", "length", "()I"⟩ : MethodName)) (z := (⟨"java/lang/StringBuilder", "length", "()I"⟩ : MethodName)) hown (mvT hZ (hw _ (List.mem_of_getElem? (i := 142) rfl))) (mvT hZ (hw _ (List.mem_of_getElem? (i := 143) rfl))) (own_nf hZ (own_NI_of (y := (⟨"java/lang/AbstractStringBuilder", "getValue", "()[B"⟩ : MethodName)) (hw _ (List.mem_of_getElem? (i := 140) rfl)))) (mvT hZ (hw _ (List.mem_of_getElem? (i := 145) rfl))) (mvT hZ (hw _ (List.mem_of_getElem? (i := 146) rfl))) (by decide) (backOf (W := 0) (rmSl l Z a0 hw [] b t cap cs h0 n0 Z0 B) hZ (hw _ (List.mem_of_getElem? (i := 147) rfl)) (hw _ (List.mem_of_getElem? (i := 60) rfl)) (by decide) (by decide)) q6a q6c (g := (mkF m 10 #[.val (.ref a), .val (.ref b), .val .null, .val (.ref t), .unset] [(.ref b)])) rfl (by rw [hml]; rfl) (Steps.refl _) (argsL := []) (rest := []) (lenOf pd7 rfl) rfl (by show 2 * 0 + _ ≤ _; exact Nat.le_of_eq rfl) (hb hby dSb_10) (fun _ _ => ⟨rfl, e1, (by decide : 0 + 0 ≤ _), (by decide : 0 + 0 ≤ _)⟩)
  dsimp only [Pt.U, Pt.locs, Pt.cells, Pt.slots] at X6 l6 y6 z6 st6 hQ6
  subst l6 y6 z6
  obtain ⟨rfl, N2, e2⟩ := hQ6
  have c6 : Steps p.tables e below S0 (T6.setTop (mkF m 13 #[.val (.ref a), .val (.ref b), .val .null, .val (.ref t), .unset] [(.int (Int32.ofNat cs.length))])) := by
    refine c5.trans ?_
    show Steps p.tables e below (T4.setTop (mkF m 10 #[.val (.ref a), .val (.ref b), .val .null, .val (.ref t), .unset] [(.ref b)])) _
    refine st6.trans ?_
    exact Steps.refl _
  have c7 : Steps p.tables e below S0 (T6.setTop (mkF m 16 #[.val (.ref a), .val (.ref b), .val .null, .val (.ref t), .val (.int (Int32.ofNat cs.length))] [(.ref b)])) := by
    refine c6.trans ?_
    show Steps p.tables e below (T6.setTop (mkF m 13 #[.val (.ref a), .val (.ref b), .val .null, .val (.ref t), .unset] [(.int (Int32.ofNat cs.length))])) _
    refine XS.istore X6.here hx rfl (hb hby dSb_13) rfl (l' := #[.val (.ref a), .val (.ref b), .val .null, .val (.ref t), .val (.int (Int32.ofNat cs.length))]) rfl ?_
    show Steps p.tables e below (T6.setTop (mkF m 15 #[.val (.ref a), .val (.ref b), .val .null, .val (.ref t), .val (.int (Int32.ofNat cs.length))] [])) _
    refine XS.aloadN X6.here hx rfl (hb hby dSb_15) rfl rfl ?_
    exact Steps.refl _
  obtain ⟨cq8, kq8, q8a, q8b, q8c⟩ := isOf hZ e2 Eb
  obtain ⟨_, _, ⟨T8, L8, k8, n8⟩, -, X8, ⟨Lc8, hQ8, l8, y8, z8⟩, st8⟩ := X6.virtualBack hx (y := (⟨"java/lang/AbstractStringBuilder", "isLatin1", "()Z"⟩ : MethodName)) (z := (⟨"java/lang/AbstractStringBuilder", "isLatin1", "()Z"⟩ : MethodName)) hown (mvT hZ (hw _ (List.mem_of_getElem? (i := 150) rfl))) (mvT hZ (hw _ (List.mem_of_getElem? (i := 151) rfl))) (notFace_of_selects (args := #[]) (mvT hZ (hw _ (List.mem_of_getElem? (i := 153) rfl)))) (mvT hZ (hw _ (List.mem_of_getElem? (i := 153) rfl))) (mvT hZ (hw _ (List.mem_of_getElem? (i := 152) rfl))) (by decide) (backOf (W := 0) (rmIl l Z a0 hw [] b t cap cs G1 h0 n0 Z0 O2 P5 X00 B) hZ (hw _ (List.mem_of_getElem? (i := 154) rfl)) (hw _ (List.mem_of_getElem? (i := 68) rfl)) (by decide) (by decide)) q8a q8c (g := (mkF m 16 #[.val (.ref a), .val (.ref b), .val .null, .val (.ref t), .val (.int (Int32.ofNat cs.length))] [(.ref b)])) rfl (by rw [hml]; rfl) (Steps.refl _) (argsL := []) (rest := []) (lenOf pd14 rfl) rfl (by show 2 * 0 + _ ≤ _; exact Nat.le_of_eq rfl) (hb hby dSb_16) (fun _ _ => ⟨rfl, e2, (by decide : 0 + 0 ≤ _), (by decide : 0 + 0 ≤ _)⟩)
  dsimp only [Pt.U, Pt.locs, Pt.cells, Pt.slots] at X8 l8 y8 z8 st8 hQ8
  subst l8 y8 z8
  obtain ⟨rfl, N3, e3⟩ := hQ8
  have c8 : Steps p.tables e below S0 (T8.setTop (mkF m 19 #[.val (.ref a), .val (.ref b), .val .null, .val (.ref t), .val (.int (Int32.ofNat cs.length))] [(.int (1 : Int32))])) := by
    refine c7.trans ?_
    show Steps p.tables e below (T6.setTop (mkF m 16 #[.val (.ref a), .val (.ref b), .val .null, .val (.ref t), .val (.int (Int32.ofNat cs.length))] [(.ref b)])) _
    refine st8.trans ?_
    exact Steps.refl _
  have c9 : Steps p.tables e below S0 (T8.setTop (mkF m 22 #[.val (.ref a), .val (.ref b), .val .null, .val (.ref t), .val (.int (Int32.ofNat cs.length))] [])) := by
    refine c8.trans ?_
    show Steps p.tables e below (T8.setTop (mkF m 19 #[.val (.ref a), .val (.ref b), .val .null, .val (.ref t), .val (.int (Int32.ofNat cs.length))] [(.int (1 : Int32))])) _
    refine XS.ifNo X8.here hx rfl (hb hby dSb_19) rfl ((if0 _ _).trans (feq (by decide)).1) ?_
    exact Steps.refl _
  have c10 : Steps p.tables e below S0 (T8.setTop (mkF m 24 #[.val (.ref a), .val (.ref b), .val .null, .val (.ref t), .val (.int (Int32.ofNat cs.length))] [(.int (0 : Int32)), (.ref a)])) := by
    refine c9.trans ?_
    show Steps p.tables e below (T8.setTop (mkF m 22 #[.val (.ref a), .val (.ref b), .val .null, .val (.ref t), .val (.int (Int32.ofNat cs.length))] [])) _
    refine XS.aloadN X8.here hx rfl (hb hby dSb_22) rfl rfl ?_
    show Steps p.tables e below (T8.setTop (mkF m 23 #[.val (.ref a), .val (.ref b), .val .null, .val (.ref t), .val (.int (Int32.ofNat cs.length))] [(.ref a)])) _
    refine XS.iconst X8.here hx rfl (hb hby dSb_23) ?_
    exact Steps.refl _
  obtain ⟨T11, h11, X11, e11, W11, st11⟩ := putFN X8 hx hZ hown (hw _ (List.mem_of_getElem? (i := 30) rfl)) Via.refl e3 Fc Ea (Or.inr ⟨(hw _ (List.mem_of_getElem? (i := 31) rfl)), rfl, hnm⟩) (hw _ (List.mem_of_getElem? (i := 5) rfl)) (ty := .byte) (v' := (.int (0 : Int32))) (by decide) rfl rfl (g := (mkF m 24 #[.val (.ref a), .val (.ref b), .val .null, .val (.ref t), .val (.int (Int32.ofNat cs.length))] [(.int (0 : Int32)), (.ref a)])) rfl rfl (hb hby dSb_24)
  have c11 : Steps p.tables e below S0 (T11.setTop (mkF m 27 #[.val (.ref a), .val (.ref b), .val .null, .val (.ref t), .val (.int (Int32.ofNat cs.length))] [])) := by
    refine c10.trans ?_
    show Steps p.tables e below (T8.setTop (mkF m 24 #[.val (.ref a), .val (.ref b), .val .null, .val (.ref t), .val (.int (Int32.ofNat cs.length))] [(.int (0 : Int32)), (.ref a)])) _
    refine st11 _ ?_
    exact Steps.refl _
  have Na := Fr.snoc X11 (Fr.app (Fr.app (Fr.app N0 N1) N2) N3) ga
  have Ea1 := Ea.wr W11
  have Fc1 := Fc.same W11
  have Fv1 := Fv.other W11 (Or.inr (slot_ne (Or.inr (hw _ (List.mem_of_getElem? (i := 33) rfl))) (Or.inr (hw _ (List.mem_of_getElem? (i := 31) rfl))) (by decide) (t := (.array .byte)) (t' := .byte) (by decide) (by decide)))
  have nat : a ≠ t := Ea.neArv Vt (hw _ (List.mem_of_getElem? (i := 5) rfl))
  have Vt1 := Vt.other W11 (Ne.symm nat)
  have Z1 := Nat.le_trans Z0 (Nat.le_of_eq (own_wsz W11).symm)
  have c12 : Steps p.tables e below S0 (T11.setTop (mkF m 32 #[.val (.ref a), .val (.ref b), .val .null, .val (.ref t), .val (.int (Int32.ofNat cs.length))] [(.int (Int32.ofNat cs.length)), (.int (0 : Int32)), (.ref t), (.ref a)])) := by
    refine c11.trans ?_
    show Steps p.tables e below (T11.setTop (mkF m 27 #[.val (.ref a), .val (.ref b), .val .null, .val (.ref t), .val (.int (Int32.ofNat cs.length))] [])) _
    refine XS.aloadN X11.here hx rfl (hb hby dSb_27) rfl rfl ?_
    show Steps p.tables e below (T11.setTop (mkF m 28 #[.val (.ref a), .val (.ref b), .val .null, .val (.ref t), .val (.int (Int32.ofNat cs.length))] [(.ref a)])) _
    refine XS.aloadN X11.here hx rfl (hb hby dSb_28) rfl rfl ?_
    show Steps p.tables e below (T11.setTop (mkF m 29 #[.val (.ref a), .val (.ref b), .val .null, .val (.ref t), .val (.int (Int32.ofNat cs.length))] [(.ref t), (.ref a)])) _
    refine XS.iconst X11.here hx rfl (hb hby dSb_29) ?_
    show Steps p.tables e below (T11.setTop (mkF m 30 #[.val (.ref a), .val (.ref b), .val .null, .val (.ref t), .val (.int (Int32.ofNat cs.length))] [(.int (0 : Int32)), (.ref t), (.ref a)])) _
    refine XS.iload X11.here hx rfl (hb hby dSb_30) rfl ?_
    exact Steps.refl _
  obtain ⟨_, _, ⟨T13, L13, k13, n13⟩, -, X13, ⟨Lc13, hQ13, l13, y13, z13⟩, st13⟩ := Jvm.LawKit.callS X11 hx (y := (⟨"java/util/Arrays", "copyOfRange", "([BII)[B"⟩ : MethodName)) hown (mvT hZ (hw _ (List.mem_of_getElem? (i := 155) rfl))) (mvT hZ (hw _ (List.mem_of_getElem? (i := 156) rfl))) (mvT hZ (hw _ (List.mem_of_getElem? (i := 157) rfl))) (mvT hZ (hw _ (List.mem_of_getElem? (i := 158) rfl))) (by decide) (backOf (W := 1) (rmCr l Z a0 hw [] t kt cap cs h11 n0 Z1 Vt1 hcap hn hle (Et.wr W11)) hZ (hw _ (List.mem_of_getElem? (i := 158) rfl)) (hw _ (List.mem_of_getElem? (i := 157) rfl)) (by decide) (by decide)) (g := (mkF m 32 #[.val (.ref a), .val (.ref b), .val .null, .val (.ref t), .val (.int (Int32.ofNat cs.length))] [(.int (Int32.ofNat cs.length)), (.int (0 : Int32)), (.ref t), (.ref a)])) rfl (by rw [hml]; rfl) (argsL := [(.ref t), (.int (0 : Int32)), (.int (Int32.ofNat cs.length))]) (rest := [(.ref a)]) (lenOf pd12 rfl) rfl (by show 2 * 0 + _ ≤ _; exact Nat.le_of_eq rfl) (hb hby dSb_32) (fun _ _ => ⟨rfl, e11, (by decide : 0 + 1 ≤ _), (by decide : 0 + 100 ≤ _)⟩)
  dsimp only [Pt.U, Pt.locs, Pt.cells, Pt.slots] at X13 l13 y13 z13 st13 hQ13
  subst l13 y13 z13
  obtain ⟨⟨t2, k2, rfl, zt2, V2⟩, N4, K4⟩ := hQ13
  have c13 : Steps p.tables e below S0 (T13.setTop (mkF m 35 #[.val (.ref a), .val (.ref b), .val .null, .val (.ref t), .val (.int (Int32.ofNat cs.length))] [(.ref t2), (.ref a)])) := by
    refine c12.trans ?_
    show Steps p.tables e below (T11.setTop (mkF m 32 #[.val (.ref a), .val (.ref b), .val .null, .val (.ref t), .val (.int (Int32.ofNat cs.length))] [(.int (Int32.ofNat cs.length)), (.int (0 : Int32)), (.ref t), (.ref a)])) _
    refine st13 _ ?_
    exact Steps.refl _
  obtain ⟨T14, h14, X14, e14, W14, st14⟩ := putF X13 hx hZ hown (host := "") (Or.inl (hw _ (List.mem_of_getElem? (i := 32) rfl))) Via.refl rfl (Fv1.keep K4 (fun q => by cases q)) (Ea1.keep K4) (Or.inr ⟨(hw _ (List.mem_of_getElem? (i := 33) rfl)), rfl, hnm⟩) (hw _ (List.mem_of_getElem? (i := 5) rfl)) (ty := (.array .byte)) (by decide) rfl rfl (g := (mkF m 35 #[.val (.ref a), .val (.ref b), .val .null, .val (.ref t), .val (.int (Int32.ofNat cs.length))] [(.ref t2), (.ref a)])) rfl rfl (hb hby dSb_35)
  have c14 : Steps p.tables e below S0 (T14.setTop (mkF m 38 #[.val (.ref a), .val (.ref b), .val .null, .val (.ref t), .val (.int (Int32.ofNat cs.length))] [])) := by
    refine c13.trans ?_
    show Steps p.tables e below (T13.setTop (mkF m 35 #[.val (.ref a), .val (.ref b), .val .null, .val (.ref t), .val (.int (Int32.ofNat cs.length))] [(.ref t2), (.ref a)])) _
    refine st14 _ ?_
    exact Steps.refl _
  have nat2 : a ≠ t2 := (Ea1.keep K4).neArv V2 (hw _ (List.mem_of_getElem? (i := 5) rfl))
  have c15 : Steps p.tables e below S0 (T14.setTop (mkF m 97 #[.val (.ref a), .val (.ref b), .val .null, .val (.ref t), .val (.int (Int32.ofNat cs.length))] [])) := by
    refine c14.trans ?_
    show Steps p.tables e below (T14.setTop (mkF m 38 #[.val (.ref a), .val (.ref b), .val .null, .val (.ref t), .val (.int (Int32.ofNat cs.length))] [])) _
    refine XS.goto X14.here hx rfl (pc0 := 38) (pc' := 97) rfl (hb hby dSb_38) (by decide) (by decide) ?_
    exact Steps.refl _
  obtain ⟨fs, hr, hrun, hended, hW, hsame⟩ := X14.leave (v := none) (fun _ => rfl)
  refine ⟨_, _, c15.trans ?_, hrun, hended, _, _, rfl, ?_, ⟨_, rfl⟩, hW, hsame.mono (by decide) (by decide)⟩
  · show Steps p.tables e below (T14.setTop (mkF m 97 #[.val (.ref a), .val (.ref b), .val .null, .val (.ref t), .val (.int (Int32.ofNat cs.length))] [])) _
    exact X14.returnOut hx Bd.returns (hb hby dSb_97) hr
  · show QSb Z a b t cap cs G1 h0 n0 _ T14.heap _
    rw [e14]
    exact ⟨rfl, Fr.snoc X14 (Fr.app Na N4) ga, (((Keep.refl h0 [a]).wr W11 (Or.inl (List.mem_of_getElem? (i := 0) rfl))).trans K4 (fun x hx => by cases hx)).wr W14 (Or.inl (List.mem_of_getElem? (i := 0) rfl)), t2, (Ea1.keep K4).wr W14, (Fc1.keep K4 (fun q => by cases q)).other W14 (Or.inr (slot_ne (Or.inr (hw _ (List.mem_of_getElem? (i := 31) rfl))) (Or.inr (hw _ (List.mem_of_getElem? (i := 33) rfl))) (by decide) (t := .byte) (t' := (.array .byte)) (by decide) (by decide))), (Fv1.keep K4 (fun q => by cases q)).same W14, ⟨_, V2.other W14 (Ne.symm nat2)⟩, hch, by omega⟩
def QSc (Z : State) (a : Addr) (b : Addr) (t : Addr) (cap : Nat) (cs : List Int32) (G1 : Int32) (h0 : Heap) (n0 : Nat) (v : Option Value) (h : Heap) (L : List Loc) : Prop := v = none ∧ Fr n0 L ∧ Keep h0 h [a] ∧ ∃ t2 : Addr, own_Str Z h a t2 cs
theorem efSc (m : MethodId) (a : Addr) (b : Addr) : entryFrame m #[(.ref a), (.ref b)] 2 = mkF m 0 #[.val (.ref a), .val (.ref b)] [] := by first | (simp [entryFrame, mkF, argsToLocals, Value.category, List.replicate]; done) | rfl
set_option maxRecDepth 65536 in
set_option maxHeartbeats 40000000 in
theorem rmSc (l : Launch) (Z : State) (a0 : Array Value) (hw : ∀ d ∈ tables_1, d.before a0 Z = true) (ws : List Jvm.Cond) (a : Addr) (b : Addr) (t : Addr) (cap : Nat) (cs : List Int32) (G1 : Int32) (h0 : Heap) (n0 : Nat) (Z0 : n0 ≤ h0.size) (O2 : Sta Z Z.heap "java/lang/String" "COMPACT_STRINGS" "Z" (.int G1)) (P5 : ¬ G1 = 0) (X00 : Old Z n0 h0) (Ea : Exa Z h0 a "java/lang/String") (Fv : Fld Z h0 a "java/lang/String" "value" "[B" .null) (Fc : Fld Z h0 a "java/lang/String" "coder" "B" (.int 0)) (ga : n0 ≤ a) (B : own_SB Z h0 b t cap cs) (hn : cs.length ≤ 100) :
    MetFree l (⟨"java/lang/String", "<init>", "(Ljava/lang/StringBuilder;)V"⟩ : MethodName) (head1 (Jvm.Cond.code (⟨"java/lang/String", "<init>", "(Ljava/lang/StringBuilder;)V"⟩ : MethodName) jdk_42_method_53_code 2 none :: ws) ({ frames := 4, cells := 1, slots := 100, locals := 88 } : Room)) (fun aa UU => aa = #[(.ref a), (.ref b)] ∧ Z.Warmed39 UU.vm ∧ UU.heap = h0) (fun _ _ _ _ _ => True) (fun _ UU oo UT => ∃ vv LL, oo = .returned vv ∧ QSc Z a b t cap cs G1 h0 n0 vv UT.heap LL ∧ FrameEnd UU oo UT LL ({ frames := 4, cells := 1, slots := 100, locals := 88 } : Room).cells ({ frames := 4, cells := 1, slots := 100, locals := 88 } : Room).slots) := by
  refine MetFree.of_bodySF (by decide +kernel) hisR ?_
  intro p e s m args below meth c s₁ Bd hml0 hP hK
  obtain ⟨rfl, hZ, hh⟩ := hP
  have hx := Bd.exec
  have hby := Bd.bytes
  have hml : c.maxLocals = 2 := hml0
  have hown : s.vm.findClass "java/lang/String" = some m.cls := findClass_of_methodNamed Bd.named
  have hnm := (name_of_methodNamed Bd.named Bd.method).1
  have X0 : Stand p l e ({ frames := 4, cells := 1, slots := 100, locals := 88 } : Room) s m #[(.ref a), (.ref b)] below meth c s₁ [] 0 0 := Stand.of_body Bd
  have e0 : s₁.heap = h0 := by rw [← hh, Bd.state]; rfl
  have N0 := Fr.nil n0
  have c0 : Steps p.tables e below (s₁.setTop (entryFrame m #[(.ref a), (.ref b)] 2)) (s₁.setTop (mkF m 0 #[.val (.ref a), .val (.ref b)] [])) := castTop (efSc m a b) (Steps.refl _)
  show ∃ s₂ oo, Steps p.tables e below (s₁.setTop (entryFrame m #[(.ref a), (.ref b)] 2)) s₂ ∧ _ ∧ _ ∧ _
  generalize s₁.setTop (entryFrame m #[(.ref a), (.ref b)] 2) = S0 at c0 ⊢
  have c1 : Steps p.tables e below S0 (s₁.setTop (mkF m 3 #[.val (.ref a), .val (.ref b)] [.null, (.ref b), (.ref a)])) := by
    refine c0.trans ?_
    show Steps p.tables e below (s₁.setTop (mkF m 0 #[.val (.ref a), .val (.ref b)] [])) _
    refine XS.aloadN X0.here hx rfl (hb hby dSc_0) rfl rfl ?_
    show Steps p.tables e below (s₁.setTop (mkF m 1 #[.val (.ref a), .val (.ref b)] [(.ref a)])) _
    refine XS.aloadN X0.here hx rfl (hb hby dSc_1) rfl rfl ?_
    show Steps p.tables e below (s₁.setTop (mkF m 2 #[.val (.ref a), .val (.ref b)] [(.ref b), (.ref a)])) _
    refine XS.aconstNull X0.here hx rfl (hb hby dSc_2) ?_
    exact Steps.refl _
  obtain ⟨_, _, ⟨T2, L2, k2, n2⟩, -, X2, ⟨Lc2, hQ2, l2, y2, z2⟩, st2⟩ := X0.specialBack hx (y := (⟨"java/lang/String", "<init>", "(Ljava/lang/AbstractStringBuilder;Ljava/lang/Void;)V"⟩ : MethodName)) rfl hown (mvT hZ (hw _ (List.mem_of_getElem? (i := 134) rfl))) (mvT hZ (hw _ (List.mem_of_getElem? (i := 135) rfl))) (mvT hZ (hw _ (List.mem_of_getElem? (i := 136) rfl))) (by decide) (backOf (W := 0) (rmSb l Z a0 hw [] a b t cap cs G1 h0 n0 Z0 O2 P5 X00 Ea Fv Fc ga B hn) hZ (hw _ (List.mem_of_getElem? (i := 136) rfl)) (hw _ (List.mem_of_getElem? (i := 6) rfl)) (by decide) (by decide)) (g := (mkF m 3 #[.val (.ref a), .val (.ref b)] [.null, (.ref b), (.ref a)])) rfl (by rw [hml]; rfl) (Steps.refl _) (a := a) (argsL := [(.ref b), .null]) (rest := []) (lenOf pd15 rfl) rfl (by show 2 * 0 + _ ≤ _; exact Nat.le_of_eq rfl) (hb hby dSc_3) (fun _ _ => ⟨rfl, e0, (by decide : 0 + 1 ≤ _), (by decide : 0 + 100 ≤ _)⟩)
  dsimp only [Pt.U, Pt.locs, Pt.cells, Pt.slots] at X2 l2 y2 z2 st2 hQ2
  subst l2 y2 z2
  obtain ⟨rfl, N1, D1⟩ := hQ2
  have c2 : Steps p.tables e below S0 (T2.setTop (mkF m 6 #[.val (.ref a), .val (.ref b)] [])) := by
    refine c1.trans ?_
    show Steps p.tables e below (s₁.setTop (mkF m 3 #[.val (.ref a), .val (.ref b)] [.null, (.ref b), (.ref a)])) _
    refine st2.trans ?_
    exact Steps.refl _
  obtain ⟨fs, hr, hrun, hended, hW, hsame⟩ := X2.leave (v := none) (fun _ => rfl)
  refine ⟨_, _, c2.trans ?_, hrun, hended, _, _, rfl, ?_, ⟨_, rfl⟩, hW, hsame.mono (by decide) (by decide)⟩
  · show Steps p.tables e below (T2.setTop (mkF m 6 #[.val (.ref a), .val (.ref b)] [])) _
    exact X2.returnOut hx Bd.returns (hb hby dSc_6) hr
  · show QSc Z a b t cap cs G1 h0 n0 _ T2.heap _
    exact ⟨rfl, Fr.app N0 N1, D1⟩
def QTs (Z : State) (b : Addr) (t : Addr) (cap : Nat) (cs : List Int32) (G1 : Int32) (h0 : Heap) (n0 : Nat) (v : Option Value) (h : Heap) (L : List Loc) : Prop := (∃ a t2 : Addr, v = some (.ref a) ∧ h0.size ≤ a ∧ own_Str Z h a t2 cs) ∧ Fr n0 L ∧ Keep h0 h []
theorem efTs (m : MethodId) (b : Addr) : entryFrame m #[(.ref b)] 1 = mkF m 0 #[.val (.ref b)] [] := by first | (simp [entryFrame, mkF, argsToLocals, Value.category, List.replicate]; done) | rfl
set_option maxRecDepth 65536 in
set_option maxHeartbeats 40000000 in
theorem rmTs (l : Launch) (Z : State) (a0 : Array Value) (hw : ∀ d ∈ tables_1, d.before a0 Z = true) (ws : List Jvm.Cond) (b : Addr) (t : Addr) (cap : Nat) (cs : List Int32) (G1 : Int32) (h0 : Heap) (n0 : Nat) (Z0 : n0 ≤ h0.size) (O2 : Sta Z Z.heap "java/lang/String" "COMPACT_STRINGS" "Z" (.int G1)) (P5 : ¬ G1 = 0) (X00 : Old Z n0 h0) (B : own_SB Z h0 b t cap cs) (hn : cs.length ≤ 100) :
    MetFree l (⟨"java/lang/StringBuilder", "toString", "()Ljava/lang/String;"⟩ : MethodName) (head1 (Jvm.Cond.code (⟨"java/lang/StringBuilder", "toString", "()Ljava/lang/String;"⟩ : MethodName) jdk_67_method_42_code 1 (some (.object "java/lang/String")) :: ws) ({ frames := 5, cells := 2, slots := 104, locals := 104 } : Room)) (fun aa UU => aa = #[(.ref b)] ∧ Z.Warmed39 UU.vm ∧ UU.heap = h0) (fun _ _ _ _ _ => True) (fun _ UU oo UT => ∃ vv LL, oo = .returned vv ∧ QTs Z b t cap cs G1 h0 n0 vv UT.heap LL ∧ FrameEnd UU oo UT LL ({ frames := 5, cells := 2, slots := 104, locals := 104 } : Room).cells ({ frames := 5, cells := 2, slots := 104, locals := 104 } : Room).slots) := by
  refine MetFree.of_bodySF (by decide +kernel) hisR ?_
  intro p e s m args below meth c s₁ Bd hml0 hP hK
  obtain ⟨rfl, hZ, hh⟩ := hP
  have hx := Bd.exec
  have hby := Bd.bytes
  have hml : c.maxLocals = 1 := hml0
  have hown : s.vm.findClass "java/lang/StringBuilder" = some m.cls := findClass_of_methodNamed Bd.named
  have hnm := (name_of_methodNamed Bd.named Bd.method).1
  have X0 : Stand p l e ({ frames := 5, cells := 2, slots := 104, locals := 104 } : Room) s m #[(.ref b)] below meth c s₁ [] 0 0 := Stand.of_body Bd
  have e0 : s₁.heap = h0 := by rw [← hh, Bd.state]; rfl
  have N0 := Fr.nil n0
  have c0 : Steps p.tables e below (s₁.setTop (entryFrame m #[(.ref b)] 1)) (s₁.setTop (mkF m 0 #[.val (.ref b)] [])) := castTop (efTs m b) (Steps.refl _)
  show ∃ s₂ oo, Steps p.tables e below (s₁.setTop (entryFrame m #[(.ref b)] 1)) s₂ ∧ _ ∧ _ ∧ _
  generalize s₁.setTop (entryFrame m #[(.ref b)] 1) = S0 at c0 ⊢
  obtain ⟨T1, h1, X1, e1, E1, A1, D1, -, st1⟩ := newO X0 hx hZ hown (hw _ (List.mem_of_getElem? (i := 130) rfl)) (hw _ (List.mem_of_getElem? (i := 5) rfl)) (hw _ (List.mem_of_getElem? (i := 6) rfl)) e0 (g := (mkF m 0 #[.val (.ref b)] [])) rfl (hb hby dTs_0) (by decide) (by decide)
  obtain ⟨b1, g1⟩ : ∃ z, z = h0.size := ⟨_, rfl⟩
  rw [← g1] at A1 D1 st1
  have c1 : Steps p.tables e below S0 (T1.setTop (mkF m 3 #[.val (.ref b)] [(.ref b1)])) := by
    refine c0.trans ?_
    show Steps p.tables e below (s₁.setTop (mkF m 0 #[.val (.ref b)] [])) _
    refine st1 _ ?_
    exact Steps.refl _
  have Fv : Fld Z h1 b1 "java/lang/String" "value" "[B" .null := D1 (Or.inr (hw _ (List.mem_of_getElem? (i := 33) rfl))) (ty := (.array .byte)) (by decide)
  have Fc : Fld Z h1 b1 "java/lang/String" "coder" "B" (.int 0) := D1 (Or.inr (hw _ (List.mem_of_getElem? (i := 31) rfl))) (ty := .byte) (by decide)
  have gs : n0 ≤ b1 := Nat.le_trans Z0 (Nat.le_of_eq g1.symm)
  have zs : h0.size ≤ b1 := Nat.le_of_eq g1.symm
  have c2 : Steps p.tables e below S0 (T1.setTop (mkF m 5 #[.val (.ref b)] [(.ref b), (.ref b1), (.ref b1)])) := by
    refine c1.trans ?_
    show Steps p.tables e below (T1.setTop (mkF m 3 #[.val (.ref b)] [(.ref b1)])) _
    refine XS.dup X1.here hx rfl (hb hby dTs_3) rfl rfl ?_
    show Steps p.tables e below (T1.setTop (mkF m 4 #[.val (.ref b)] [(.ref b1), (.ref b1)])) _
    refine XS.aloadN X1.here hx rfl (hb hby dTs_4) rfl rfl ?_
    exact Steps.refl _
  obtain ⟨_, _, ⟨T3, L3, k3, n3⟩, -, X3, ⟨Lc3, hQ3, l3, y3, z3⟩, st3⟩ := X1.specialBack hx (y := (⟨"java/lang/String", "<init>", "(Ljava/lang/StringBuilder;)V"⟩ : MethodName)) rfl hown (mvT hZ (hw _ (List.mem_of_getElem? (i := 131) rfl))) (mvT hZ (hw _ (List.mem_of_getElem? (i := 132) rfl))) (mvT hZ (hw _ (List.mem_of_getElem? (i := 133) rfl))) (by decide) (backOf (W := 1) (rmSc l Z a0 hw [] b1 b t cap cs G1 h1 n0 (Nat.le_trans Z0 E1.1) O2 P5 (X00.ext E1) A1 Fv Fc gs (B.ext E1) hn) hZ (hw _ (List.mem_of_getElem? (i := 133) rfl)) (hw _ (List.mem_of_getElem? (i := 6) rfl)) (by decide) (by decide)) (g := (mkF m 5 #[.val (.ref b)] [(.ref b), (.ref b1), (.ref b1)])) rfl (by rw [hml]; rfl) (Steps.refl _) (a := b1) (argsL := [(.ref b)]) (rest := [(.ref b1)]) (lenOf pd16 rfl) rfl (by show 2 * 0 + _ ≤ _; exact Nat.le_of_eq rfl) (hb hby dTs_5) (fun _ _ => ⟨rfl, e1, (by decide : 1 + 1 ≤ _), (by decide : 4 + 100 ≤ _)⟩)
  dsimp only [Pt.U, Pt.locs, Pt.cells, Pt.slots] at X3 l3 y3 z3 st3 hQ3
  subst l3 y3 z3
  obtain ⟨rfl, N1, K1, t2, S2⟩ := hQ3
  have c3 : Steps p.tables e below S0 (T3.setTop (mkF m 8 #[.val (.ref b)] [(.ref b1)])) := by
    refine c2.trans ?_
    show Steps p.tables e below (T1.setTop (mkF m 5 #[.val (.ref b)] [(.ref b), (.ref b1), (.ref b1)])) _
    refine st3.trans ?_
    exact Steps.refl _
  obtain ⟨fs, hr, hrun, hended, hW, hsame⟩ := X3.leave (v := some (.ref b1)) (fun h => by rw [Bd.returns] at h; cases h)
  refine ⟨_, _, c3.trans ?_, hrun, hended, _, _, rfl, ?_, ⟨_, rfl⟩, hW, hsame.mono (by decide) (by decide)⟩
  · show Steps p.tables e below (T3.setTop (mkF m 8 #[.val (.ref b)] [(.ref b1)])) _
    exact retA X3 hx Bd.returns rfl rfl (hb hby dTs_8) hr
  · show QTs Z b t cap cs G1 h0 n0 _ T3.heap _
    exact ⟨⟨_, t2, rfl, zs, S2⟩, Fr.app N0 N1, ((Keep.refl h0 []).ext E1).trans K1 (fun x hx => by cases List.mem_singleton.mp hx; exact Or.inr zs)⟩
def Q149 (Z : State) (a : Addr) (b : Addr) (h0 : Heap) (n0 : Nat) (v : Option Value) (h : Heap) (L : List Loc) : Prop := v = none ∧ Fr n0 L ∧ Keep h0 h [a] ∧ ∃ t : Addr, own_Str Z h a t []
theorem ef149 (m : MethodId) (a : Addr) (b : Addr) : entryFrame m #[(.ref a), (.ref b), (.int (0 : Int32)), (.int (0 : Int32)), .null] 6 = mkF m 0 #[.val (.ref a), .val (.ref b), .val (.int (0 : Int32)), .val (.int (0 : Int32)), .val .null, .unset] [] := by first | (simp [entryFrame, mkF, argsToLocals, Value.category, List.replicate]; done) | rfl
set_option maxRecDepth 65536 in
set_option maxHeartbeats 40000000 in
theorem rm149 (l : Launch) (Z : State) (a0 : Array Value) (hw : ∀ d ∈ tables_1, d.before a0 Z = true) (ws : List Jvm.Cond) (a : Addr) (b : Addr) (h0 : Heap) (n0 : Nat) (Z0 : n0 ≤ h0.size) (Ea : Exa Z h0 a "java/lang/String") (Fv : Fld Z h0 a "java/lang/String" "value" "[B" .null) (Fc : Fld Z h0 a "java/lang/String" "coder" "B" (.int 0)) (ga : n0 ≤ a) :
    MetFree l (⟨"java/lang/String", "<init>", "([CIILjava/lang/Void;)V"⟩ : MethodName) (head1 (Jvm.Cond.code (⟨"java/lang/String", "<init>", "([CIILjava/lang/Void;)V"⟩ : MethodName) jdk_42_method_149_code 6 none :: ws) ({ frames := 1, cells := 4, slots := 8, locals := 20 } : Room)) (fun aa UU => aa = #[(.ref a), (.ref b), (.int (0 : Int32)), (.int (0 : Int32)), .null] ∧ Z.Warmed39 UU.vm ∧ UU.heap = h0 ∧ CHv Z consts_1 UU.vm h0 ∧ ∀ x ∈ ([a] : List Addr), Safe Z consts_1 UU.vm h0 x) (fun _ _ _ _ _ => True) (fun _ UU oo UT => ∃ vv LL, oo = .returned vv ∧ Q149 Z a b h0 n0 vv UT.heap LL ∧ CHr Z consts_1 UU.vm UU.heap UT.vm UT.heap ∧ ReturnedEndW UU oo UT LL ({ frames := 1, cells := 4, slots := 8, locals := 20 } : Room).cells ({ frames := 1, cells := 4, slots := 8, locals := 20 } : Room).slots) := by
  refine MetFree.of_bodySF (by decide +kernel) hisR ?_
  intro p e s m args below meth c s₁ Bd hml0 hP hK
  obtain ⟨rfl, hZ, hh, hC, hX⟩ := hP
  have hx := Bd.exec
  have hby := Bd.bytes
  have hml : c.maxLocals = 6 := hml0
  have hown : s.vm.findClass "java/lang/String" = some m.cls := findClass_of_methodNamed Bd.named
  have hnm := (name_of_methodNamed Bd.named Bd.method).1
  have X0 : Stand p l e ({ frames := 1, cells := 4, slots := 8, locals := 20 } : Room) s m #[(.ref a), (.ref b), (.int (0 : Int32)), (.int (0 : Int32)), .null] below meth c s₁ [] 0 0 := Stand.of_body Bd
  have e0 : s₁.heap = h0 := by rw [← hh, Bd.state]; rfl
  have N0 := Fr.nil n0
  have c0 : Steps p.tables e below (s₁.setTop (entryFrame m #[(.ref a), (.ref b), (.int (0 : Int32)), (.int (0 : Int32)), .null] 6)) (s₁.setTop (mkF m 0 #[.val (.ref a), .val (.ref b), .val (.int (0 : Int32)), .val (.int (0 : Int32)), .val .null, .unset] [])) := castTop (ef149 m a b) (Steps.refl _)
  show ∃ s₂ oo, Steps p.tables e below (s₁.setTop (entryFrame m #[(.ref a), (.ref b), (.int (0 : Int32)), (.int (0 : Int32)), .null] 6)) s₂ ∧ _ ∧ _ ∧ _
  generalize s₁.setTop (entryFrame m #[(.ref a), (.ref b), (.int (0 : Int32)), (.int (0 : Int32)), .null] 6) = S0 at c0 ⊢
  obtain ⟨V0, hV0⟩ : ∃ V, V = s.vm := ⟨_, rfl⟩
  have Xs : Stand p l e ({ frames := 1, cells := 4, slots := 8, locals := 20 } : Room) (s.setVm V0) m #[(.ref a), (.ref b), (.int (0 : Int32)), (.int (0 : Int32)), .null] below meth c s₁ [] 0 0 := by subst hV0; exact X0
  have hS : s.Since V0 h0.size := by subst hV0; exact (State.WarmedH.refl s).since _
  replace hZ : Z.Warmed39 (s.setVm V0).vm := by subst hV0; exact hZ
  replace hown : (s.setVm V0).vm.findClass "java/lang/String" = some m.cls := by subst hV0; exact hown
  have hk : h0.size ≤ h0.size := Nat.le_refl _
  have Zh := Z0
  have hR : CHr Z consts_1 V0 h0 V0 h0 := by subst hV0; exact CHr.refl hC
  have hEL := own_EW hw
  have Sf_a : Safe Z consts_1 V0 h0 a := by subst hV0; exact hX _ (List.mem_of_getElem? (i := 0) rfl)
  have c1 : Steps p.tables e below S0 (s₁.setTop (mkF m 1 #[.val (.ref a), .val (.ref b), .val (.int (0 : Int32)), .val (.int (0 : Int32)), .val .null, .unset] [(.ref a)])) := by
    refine c0.trans ?_
    show Steps p.tables e below (s₁.setTop (mkF m 0 #[.val (.ref a), .val (.ref b), .val (.int (0 : Int32)), .val (.int (0 : Int32)), .val .null, .unset] [])) _
    refine XS.aloadN Xs.here hx rfl (hb hby d149_0) rfl rfl ?_
    exact Steps.refl _
  obtain ⟨T2, X2, e2, st2⟩ := initO Xs hx hZ hown (hw _ (List.mem_of_getElem? (i := 15) rfl)) (hw _ (List.mem_of_getElem? (i := 16) rfl)) (hw _ (List.mem_of_getElem? (i := 17) rfl)) e0 (g := (mkF m 1 #[.val (.ref a), .val (.ref b), .val (.int (0 : Int32)), .val (.int (0 : Int32)), .val .null, .unset] [(.ref a)])) rfl (by rw [hml]; rfl) rfl (hb hby d149_1) (by decide) (W := 0) (by show 2 * 0 + _ ≤ _; exact Nat.le_of_eq rfl) (by decide)
  have c2 : Steps p.tables e below S0 (T2.setTop (mkF m 4 #[.val (.ref a), .val (.ref b), .val (.int (0 : Int32)), .val (.int (0 : Int32)), .val .null, .unset] [])) := by
    refine c1.trans ?_
    show Steps p.tables e below (s₁.setTop (mkF m 1 #[.val (.ref a), .val (.ref b), .val (.int (0 : Int32)), .val (.int (0 : Int32)), .val .null, .unset] [(.ref a)])) _
    refine st2 _ ?_
    exact Steps.refl _
  have c3 : Steps p.tables e below S0 (T2.setTop (mkF m 8 #[.val (.ref a), .val (.ref b), .val (.int (0 : Int32)), .val (.int (0 : Int32)), .val .null, .unset] [])) := by
    refine c2.trans ?_
    show Steps p.tables e below (T2.setTop (mkF m 4 #[.val (.ref a), .val (.ref b), .val (.int (0 : Int32)), .val (.int (0 : Int32)), .val .null, .unset] [])) _
    refine XS.iloadN X2.here hx rfl (hb hby d149_4) rfl ?_
    show Steps p.tables e below (T2.setTop (mkF m 5 #[.val (.ref a), .val (.ref b), .val (.int (0 : Int32)), .val (.int (0 : Int32)), .val .null, .unset] [(.int (0 : Int32))])) _
    refine XS.ifNo X2.here hx rfl (hb hby d149_5) rfl ((if0 _ _).trans (teq rfl).2) ?_
    exact Steps.refl _
  have c4 : Steps p.tables e below S0 (T2.setTop (mkF m 9 #[.val (.ref a), .val (.ref b), .val (.int (0 : Int32)), .val (.int (0 : Int32)), .val .null, .unset] [(.ref a)])) := by
    refine c3.trans ?_
    show Steps p.tables e below (T2.setTop (mkF m 8 #[.val (.ref a), .val (.ref b), .val (.int (0 : Int32)), .val (.int (0 : Int32)), .val .null, .unset] [])) _
    refine XS.aloadN X2.here hx rfl (hb hby d149_8) rfl rfl ?_
    exact Steps.refl _
  obtain ⟨q5, T5, h5, k5, r5, kq5, X5, e5, E5, hS, hk, hZ, hown, Xq5, Fc5, Fv5, Vq5, ql5, rl5, hCs5, -, -, st5⟩ := ldcCH X2 hx hZ hown (hw _ (List.mem_of_getElem? (i := 34) rfl)) (own_wS hw) e2 hS hk hEL (by decide) hR.1 (vs := []) (z := 0) (by decide +kernel) (by decide) (by decide) (g := (mkF m 9 #[.val (.ref a), .val (.ref b), .val (.int (0 : Int32)), .val (.int (0 : Int32)), .val .null, .unset] [(.ref a)])) rfl (hb hby d149_9) (n := 0) (by decide) (by decide) (by decide) (by decide)
  have hR := hR.trans hCs5
  have c5 : Steps p.tables e below S0 (T5.setTop (mkF m 11 #[.val (.ref a), .val (.ref b), .val (.int (0 : Int32)), .val (.int (0 : Int32)), .val .null, .unset] [(.ref q5), (.ref a)])) := by
    refine c4.trans ?_
    show Steps p.tables e below (T2.setTop (mkF m 9 #[.val (.ref a), .val (.ref b), .val (.int (0 : Int32)), .val (.int (0 : Int32)), .val .null, .unset] [(.ref a)])) _
    refine st5 _ ?_
    exact Steps.refl _
  have Sf_a := hCs5.safe Ea.lt Sf_a
  have Zh := Nat.le_trans Zh E5.1
  obtain ⟨T6, X6, e6, st6⟩ := getF X5 hx hZ hown (host := "") (Or.inl (hw _ (List.mem_of_getElem? (i := 32) rfl))) Via.refl e5 Fv5 (g := (mkF m 11 #[.val (.ref a), .val (.ref b), .val (.int (0 : Int32)), .val (.int (0 : Int32)), .val .null, .unset] [(.ref q5), (.ref a)])) rfl rfl (hb hby d149_11)
  have c6 : Steps p.tables e below S0 (T6.setTop (mkF m 14 #[.val (.ref a), .val (.ref b), .val (.int (0 : Int32)), .val (.int (0 : Int32)), .val .null, .unset] [(.ref r5), (.ref a)])) := by
    refine c5.trans ?_
    show Steps p.tables e below (T5.setTop (mkF m 11 #[.val (.ref a), .val (.ref b), .val (.int (0 : Int32)), .val (.int (0 : Int32)), .val .null, .unset] [(.ref q5), (.ref a)])) _
    refine st6 _ ?_
    exact Steps.refl _
  obtain ⟨T7, h7, X7, e7, W7, st7⟩ := putF X6 hx hZ hown (host := "") (Or.inl (hw _ (List.mem_of_getElem? (i := 32) rfl))) Via.refl e6 (Fv.ext E5) (Ea.ext E5) (Or.inr ⟨(hw _ (List.mem_of_getElem? (i := 33) rfl)), rfl, hnm⟩) (hw _ (List.mem_of_getElem? (i := 5) rfl)) (ty := (.array .byte)) (by decide) rfl rfl (g := (mkF m 14 #[.val (.ref a), .val (.ref b), .val (.int (0 : Int32)), .val (.int (0 : Int32)), .val .null, .unset] [(.ref r5), (.ref a)])) rfl rfl (hb hby d149_14)
  have c7 : Steps p.tables e below S0 (T7.setTop (mkF m 17 #[.val (.ref a), .val (.ref b), .val (.int (0 : Int32)), .val (.int (0 : Int32)), .val .null, .unset] [])) := by
    refine c6.trans ?_
    show Steps p.tables e below (T6.setTop (mkF m 14 #[.val (.ref a), .val (.ref b), .val (.int (0 : Int32)), .val (.int (0 : Int32)), .val .null, .unset] [(.ref r5), (.ref a)])) _
    refine st7 _ ?_
    exact Steps.refl _
  have Na := Fr.snoc X7 N0 ga
  have Ea1 := (Ea.ext E5).wr W7
  have Fv1 := (Fv.ext E5).same W7
  have Fc1 := (Fc.ext E5).other W7 (Or.inr (slot_ne (Or.inr (hw _ (List.mem_of_getElem? (i := 31) rfl))) (Or.inr (hw _ (List.mem_of_getElem? (i := 33) rfl))) (by decide) (t := .byte) (t' := (.array .byte)) (by decide) (by decide)))
  have nab : a ≠ r5 := (Ea.ext E5).neArv Vq5 (hw _ (List.mem_of_getElem? (i := 5) rfl))
  have Vb1 := Vq5.other W7 (Ne.symm nab)
  have K1 := ((Keep.refl h0 [a]).ext E5).wr W7 (Or.inl (List.mem_of_getElem? (i := 0) rfl))
  have hRs7 := CHr.wr W7 Sf_a hR.1
  have hR := hR.trans hRs7
  have Zh := Nat.le_trans Zh (Nat.le_of_eq (own_wsz W7).symm)
  have hk := Nat.le_trans hk (Nat.le_of_eq (own_wsz W7).symm)
  have Sf_a := hRs7.safe (Ea.ext E5).lt Sf_a
  have c8 : Steps p.tables e below S0 (T7.setTop (mkF m 18 #[.val (.ref a), .val (.ref b), .val (.int (0 : Int32)), .val (.int (0 : Int32)), .val .null, .unset] [(.ref a)])) := by
    refine c7.trans ?_
    show Steps p.tables e below (T7.setTop (mkF m 17 #[.val (.ref a), .val (.ref b), .val (.int (0 : Int32)), .val (.int (0 : Int32)), .val .null, .unset] [])) _
    refine XS.aloadN X7.here hx rfl (hb hby d149_17) rfl rfl ?_
    exact Steps.refl _
  obtain ⟨q9, T9, h9, k9, r9, kq9, X9, e9, E9, hS, hk, hZ, hown, Xq9, Fc9, Fv9, Vq9, ql9, rl9, hCs9, -, -, st9⟩ := ldcCH X7 hx hZ hown (hw _ (List.mem_of_getElem? (i := 34) rfl)) (own_wS hw) e7 hS hk hEL (by decide) hR.1 (vs := []) (z := 0) (by decide +kernel) (by decide) (by decide) (g := (mkF m 18 #[.val (.ref a), .val (.ref b), .val (.int (0 : Int32)), .val (.int (0 : Int32)), .val .null, .unset] [(.ref a)])) rfl (hb hby d149_18) (n := 0) (by decide) (by decide) (by decide) (by decide)
  have hR := hR.trans hCs9
  have c9 : Steps p.tables e below S0 (T9.setTop (mkF m 20 #[.val (.ref a), .val (.ref b), .val (.int (0 : Int32)), .val (.int (0 : Int32)), .val .null, .unset] [(.ref q9), (.ref a)])) := by
    refine c8.trans ?_
    show Steps p.tables e below (T7.setTop (mkF m 18 #[.val (.ref a), .val (.ref b), .val (.int (0 : Int32)), .val (.int (0 : Int32)), .val .null, .unset] [(.ref a)])) _
    refine st9 _ ?_
    exact Steps.refl _
  have Sf_a := hCs9.safe Ea1.lt Sf_a
  have Zh := Nat.le_trans Zh E9.1
  obtain ⟨T10, X10, e10, st10⟩ := getF X9 hx hZ hown (host := "") (Or.inl (hw _ (List.mem_of_getElem? (i := 30) rfl))) Via.refl e9 Fc9 (g := (mkF m 20 #[.val (.ref a), .val (.ref b), .val (.int (0 : Int32)), .val (.int (0 : Int32)), .val .null, .unset] [(.ref q9), (.ref a)])) rfl rfl (hb hby d149_20)
  have c10 : Steps p.tables e below S0 (T10.setTop (mkF m 23 #[.val (.ref a), .val (.ref b), .val (.int (0 : Int32)), .val (.int (0 : Int32)), .val .null, .unset] [(.int (0 : Int32)), (.ref a)])) := by
    refine c9.trans ?_
    show Steps p.tables e below (T9.setTop (mkF m 20 #[.val (.ref a), .val (.ref b), .val (.int (0 : Int32)), .val (.int (0 : Int32)), .val .null, .unset] [(.ref q9), (.ref a)])) _
    refine st10 _ ?_
    exact Steps.refl _
  obtain ⟨T11, h11, X11, e11, W11, st11⟩ := putFN X10 hx hZ hown (hw _ (List.mem_of_getElem? (i := 30) rfl)) Via.refl e10 (Fc1.ext E9) (Ea1.ext E9) (Or.inr ⟨(hw _ (List.mem_of_getElem? (i := 31) rfl)), rfl, hnm⟩) (hw _ (List.mem_of_getElem? (i := 5) rfl)) (ty := .byte) (v' := (.int (0 : Int32))) (by decide) rfl rfl (g := (mkF m 23 #[.val (.ref a), .val (.ref b), .val (.int (0 : Int32)), .val (.int (0 : Int32)), .val .null, .unset] [(.int (0 : Int32)), (.ref a)])) rfl rfl (hb hby d149_23)
  have c11 : Steps p.tables e below S0 (T11.setTop (mkF m 26 #[.val (.ref a), .val (.ref b), .val (.int (0 : Int32)), .val (.int (0 : Int32)), .val .null, .unset] [])) := by
    refine c10.trans ?_
    show Steps p.tables e below (T10.setTop (mkF m 23 #[.val (.ref a), .val (.ref b), .val (.int (0 : Int32)), .val (.int (0 : Int32)), .val .null, .unset] [(.int (0 : Int32)), (.ref a)])) _
    refine st11 _ ?_
    exact Steps.refl _
  have Nb := Fr.snoc X11 Na ga
  have hRs11 := CHr.wr W11 Sf_a hR.1
  have hR := hR.trans hRs11
  have Zh := Nat.le_trans Zh (Nat.le_of_eq (own_wsz W11).symm)
  have hk := Nat.le_trans hk (Nat.le_of_eq (own_wsz W11).symm)
  obtain ⟨fs, hr, hrun, hended, hW⟩ := X11.leaveW hS (by rw [e11]; exact hk) (v := none) (fun _ => rfl)
  refine ⟨_, _, c11.trans ?_, hrun, hended, _, _, rfl, ?_, ?_, hW.1, hW.2.1, hW.2.2.1, hW.2.2.2.mono (by decide) (by decide)⟩
  · show Steps p.tables e below (T11.setTop (mkF m 26 #[.val (.ref a), .val (.ref b), .val (.int (0 : Int32)), .val (.int (0 : Int32)), .val .null, .unset] [])) _
    exact X11.returnOut hx Bd.returns (hb hby d149_26) hr
  · show Q149 Z a b h0 n0 _ T11.heap _
    rw [e11]
    exact ⟨rfl, Nb, (K1.ext E9).wr W11 (Or.inl (List.mem_of_getElem? (i := 0) rfl)), _, (Ea1.ext E9).wr W11, (Fc1.ext E9).same W11, (Fv1.ext E9).other W11 (Or.inr (slot_ne (Or.inr (hw _ (List.mem_of_getElem? (i := 33) rfl))) (Or.inr (hw _ (List.mem_of_getElem? (i := 31) rfl))) (by decide) (t := (.array .byte)) (t' := .byte) (by decide) (by decide))), ⟨_, (Vb1.ext E9).other W11 (Ne.symm nab)⟩, (fun c hc => by cases hc), (by decide)⟩
  · show CHr Z consts_1 s.vm s.heap T11.vm T11.heap
    rw [hh, e11, ← hV0]
    exact hR.trans (CHv.at X11 hZ hEL hR.1)
def Q3 (Z : State) (a : Addr) (b : Addr) (cb : Cell) (h0 : Heap) (n0 : Nat) (v : Option Value) (h : Heap) (L : List Loc) : Prop := v = none ∧ Fr n0 L ∧ Keep h0 h [a] ∧ ∃ t : Addr, own_Str Z h a t []
theorem ef3 (m : MethodId) (a : Addr) (b : Addr) : entryFrame m #[(.ref a), (.ref b)] 2 = mkF m 0 #[.val (.ref a), .val (.ref b)] [] := by first | (simp [entryFrame, mkF, argsToLocals, Value.category, List.replicate]; done) | rfl
set_option maxRecDepth 65536 in
set_option maxHeartbeats 40000000 in
theorem rm3 (l : Launch) (Z : State) (a0 : Array Value) (hw : ∀ d ∈ tables_1, d.before a0 Z = true) (ws : List Jvm.Cond) (a : Addr) (b : Addr) (cb : Cell) (h0 : Heap) (n0 : Nat) (Z0 : n0 ≤ h0.size) (Ea : Exa Z h0 a "java/lang/String") (Fv : Fld Z h0 a "java/lang/String" "value" "[B" .null) (Fc : Fld Z h0 a "java/lang/String" "coder" "B" (.int 0)) (ga : n0 ≤ a) (Ab : Arr Z h0 b cb .char) (Sb : cb.slots.size = (0 : Int32).toNatClampNeg) :
    MetFree l (⟨"java/lang/String", "<init>", "([C)V"⟩ : MethodName) (head1 (Jvm.Cond.code (⟨"java/lang/String", "<init>", "([C)V"⟩ : MethodName) jdk_42_method_3_code 2 none :: ws) ({ frames := 2, cells := 4, slots := 8, locals := 40 } : Room)) (fun aa UU => aa = #[(.ref a), (.ref b)] ∧ Z.Warmed39 UU.vm ∧ UU.heap = h0 ∧ CHv Z consts_1 UU.vm h0 ∧ ∀ x ∈ ([a] : List Addr), Safe Z consts_1 UU.vm h0 x) (fun _ _ _ _ _ => True) (fun _ UU oo UT => ∃ vv LL, oo = .returned vv ∧ Q3 Z a b cb h0 n0 vv UT.heap LL ∧ CHr Z consts_1 UU.vm UU.heap UT.vm UT.heap ∧ ReturnedEndW UU oo UT LL ({ frames := 2, cells := 4, slots := 8, locals := 40 } : Room).cells ({ frames := 2, cells := 4, slots := 8, locals := 40 } : Room).slots) := by
  refine MetFree.of_bodySF (by decide +kernel) hisR ?_
  intro p e s m args below meth c s₁ Bd hml0 hP hK
  obtain ⟨rfl, hZ, hh, hC, hX⟩ := hP
  have hx := Bd.exec
  have hby := Bd.bytes
  have hml : c.maxLocals = 2 := hml0
  have hown : s.vm.findClass "java/lang/String" = some m.cls := findClass_of_methodNamed Bd.named
  have hnm := (name_of_methodNamed Bd.named Bd.method).1
  have X0 : Stand p l e ({ frames := 2, cells := 4, slots := 8, locals := 40 } : Room) s m #[(.ref a), (.ref b)] below meth c s₁ [] 0 0 := Stand.of_body Bd
  have e0 : s₁.heap = h0 := by rw [← hh, Bd.state]; rfl
  have N0 := Fr.nil n0
  have c0 : Steps p.tables e below (s₁.setTop (entryFrame m #[(.ref a), (.ref b)] 2)) (s₁.setTop (mkF m 0 #[.val (.ref a), .val (.ref b)] [])) := castTop (ef3 m a b) (Steps.refl _)
  show ∃ s₂ oo, Steps p.tables e below (s₁.setTop (entryFrame m #[(.ref a), (.ref b)] 2)) s₂ ∧ _ ∧ _ ∧ _
  generalize s₁.setTop (entryFrame m #[(.ref a), (.ref b)] 2) = S0 at c0 ⊢
  obtain ⟨V0, hV0⟩ : ∃ V, V = s.vm := ⟨_, rfl⟩
  have Xs : Stand p l e ({ frames := 2, cells := 4, slots := 8, locals := 40 } : Room) (s.setVm V0) m #[(.ref a), (.ref b)] below meth c s₁ [] 0 0 := by subst hV0; exact X0
  have hS : s.Since V0 h0.size := by subst hV0; exact (State.WarmedH.refl s).since _
  replace hZ : Z.Warmed39 (s.setVm V0).vm := by subst hV0; exact hZ
  replace hown : (s.setVm V0).vm.findClass "java/lang/String" = some m.cls := by subst hV0; exact hown
  have hk : h0.size ≤ h0.size := Nat.le_refl _
  have Zh := Z0
  have hR : CHr Z consts_1 V0 h0 V0 h0 := by subst hV0; exact CHr.refl hC
  have hEL := own_EW hw
  have Sf_a : Safe Z consts_1 V0 h0 a := by subst hV0; exact hX _ (List.mem_of_getElem? (i := 0) rfl)
  have c1 : Steps p.tables e below S0 (s₁.setTop (mkF m 4 #[.val (.ref a), .val (.ref b)] [(.ref b), (.int (0 : Int32)), (.ref b), (.ref a)])) := by
    refine c0.trans ?_
    show Steps p.tables e below (s₁.setTop (mkF m 0 #[.val (.ref a), .val (.ref b)] [])) _
    refine XS.aloadN Xs.here hx rfl (hb hby d3_0) rfl rfl ?_
    show Steps p.tables e below (s₁.setTop (mkF m 1 #[.val (.ref a), .val (.ref b)] [(.ref a)])) _
    refine XS.aloadN Xs.here hx rfl (hb hby d3_1) rfl rfl ?_
    show Steps p.tables e below (s₁.setTop (mkF m 2 #[.val (.ref a), .val (.ref b)] [(.ref b), (.ref a)])) _
    refine XS.iconst Xs.here hx rfl (hb hby d3_2) ?_
    show Steps p.tables e below (s₁.setTop (mkF m 3 #[.val (.ref a), .val (.ref b)] [(.int (0 : Int32)), (.ref b), (.ref a)])) _
    refine XS.aloadN Xs.here hx rfl (hb hby d3_3) rfl rfl ?_
    exact Steps.refl _
  have c2 : Steps p.tables e below S0 (s₁.setTop (mkF m 5 #[.val (.ref a), .val (.ref b)] [(.int (0 : Int32)), (.int (0 : Int32)), (.ref b), (.ref a)])) := by
    refine c1.trans ?_
    show Steps p.tables e below (s₁.setTop (mkF m 4 #[.val (.ref a), .val (.ref b)] [(.ref b), (.int (0 : Int32)), (.ref b), (.ref a)])) _
    refine Xs.arraylength hx (by rw [e0]; exact Ab.1) (State.isArrayOf_alike hZ.alike Ab.2.1) (g := (mkF m 4 #[.val (.ref a), .val (.ref b)] [(.ref b), (.int (0 : Int32)), (.ref b), (.ref a)])) rfl rfl (hb hby d3_4) _ ?_
    rw [len_of Sb (by decide)]
    exact Steps.refl _
  have c3 : Steps p.tables e below S0 (s₁.setTop (mkF m 6 #[.val (.ref a), .val (.ref b)] [.null, (.int (0 : Int32)), (.int (0 : Int32)), (.ref b), (.ref a)])) := by
    refine c2.trans ?_
    show Steps p.tables e below (s₁.setTop (mkF m 5 #[.val (.ref a), .val (.ref b)] [(.int (0 : Int32)), (.int (0 : Int32)), (.ref b), (.ref a)])) _
    refine XS.aconstNull Xs.here hx rfl (hb hby d3_5) ?_
    exact Steps.refl _
  obtain ⟨_, _, ⟨T4, L4, k4, n4⟩, -, X4, hS4, hge4, ⟨Lc4, hQ4, l4, y4, z4, hCr4⟩, st4⟩ := Xs.specialBackS hx (y := (⟨"java/lang/String", "<init>", "([CIILjava/lang/Void;)V"⟩ : MethodName)) rfl hown (mvT hZ (hw _ (List.mem_of_getElem? (i := 11) rfl))) (mvT hZ (hw _ (List.mem_of_getElem? (i := 12) rfl))) (mvT hZ (hw _ (List.mem_of_getElem? (i := 14) rfl))) (by decide) (backOfSX (W := 0) (rm149 l Z a0 hw [] a b h0 n0 Z0 Ea Fv Fc ga) hZ (hw _ (List.mem_of_getElem? (i := 14) rfl)) (hw _ (List.mem_of_getElem? (i := 6) rfl)) (by decide) (by decide) hEL hR.1 (fun x hx => by cases List.mem_singleton.mp hx; exact ⟨Ea.lt, Sf_a⟩)) (g := (mkF m 6 #[.val (.ref a), .val (.ref b)] [.null, (.int (0 : Int32)), (.int (0 : Int32)), (.ref b), (.ref a)])) rfl (by rw [hml]; rfl) (Steps.refl _) (a := a) (argsL := [(.ref b), (.int (0 : Int32)), (.int (0 : Int32)), .null]) (rest := []) (lenOf pd17 rfl) rfl (by show 2 * 0 + _ ≤ _; exact Nat.le_of_eq rfl) (hb hby d3_6) (fun _ _ => ⟨rfl, e0, (by decide : 0 + 4 ≤ _), (by decide : 0 + 8 ≤ _)⟩)
  dsimp only [Pt.U, Pt.locs, Pt.cells, Pt.slots] at X4 l4 y4 z4 st4 hQ4 hS4 hge4 hCr4
  subst l4 y4 z4
  obtain ⟨X4, hS, hZ, hown⟩ := rebS hS (by rw [e0]; exact hk) X4 hS4 hge4 hZ hown
  have hk : T4.heap.size ≤ T4.heap.size := Nat.le_refl _
  have hR := hR.trans hCr4
  obtain ⟨rfl, N1, K1, D1⟩ := hQ4
  have c4 : Steps p.tables e below S0 (T4.setTop (mkF m 9 #[.val (.ref a), .val (.ref b)] [])) := by
    refine c3.trans ?_
    show Steps p.tables e below (s₁.setTop (mkF m 6 #[.val (.ref a), .val (.ref b)] [.null, (.int (0 : Int32)), (.int (0 : Int32)), (.ref b), (.ref a)])) _
    refine st4.trans ?_
    exact Steps.refl _
  obtain ⟨fs, hr, hrun, hended, hW⟩ := X4.leaveW hS hk (v := none) (fun _ => rfl)
  refine ⟨_, _, c4.trans ?_, hrun, hended, _, _, rfl, ?_, ?_, hW.1, hW.2.1, hW.2.2.1, hW.2.2.2.mono (by decide) (by decide)⟩
  · show Steps p.tables e below (T4.setTop (mkF m 9 #[.val (.ref a), .val (.ref b)] [])) _
    exact X4.returnOut hx Bd.returns (hb hby d3_9) hr
  · show Q3 Z a b cb h0 n0 _ T4.heap _
    exact ⟨rfl, Fr.app N0 N1, K1, D1⟩
  · show CHr Z consts_1 s.vm s.heap T4.vm T4.heap
    rw [hh, ← hV0]
    exact hR.trans (CHv.at X4 hZ hEL hR.1)
def QM (Z : State) (n : Int32) (x : Int32) (G1 : Int32) (h0 : Heap) (n0 : Nat) (v : Option Value) (h : Heap) (L : List Loc) : Prop := (∃ (r t : Addr) (cs : List Int32), v = some (.ref r) ∧ Int32.ofNat cs.length = n ∧ cs.length ≤ 3 ∧ own_Str Z h r t cs) ∧ Fr n0 L ∧ Keep h0 h []
theorem efM (m : MethodId) (n : Int32) (x : Int32) : entryFrame m #[(.int n), (.int x)] 5 = mkF m 0 #[.val (.int n), .val (.int x), .unset, .unset, .unset] [] := by first | (simp [entryFrame, mkF, argsToLocals, Value.category, List.replicate]; done) | rfl
set_option maxRecDepth 65536 in
set_option maxHeartbeats 40000000 in
theorem rmM (l : Launch) (Z : State) (a0 : Array Value) (hw : ∀ d ∈ tables_1, d.before a0 Z = true) (ws : List Jvm.Cond) (n : Int32) (x : Int32) (G1 : Int32) (h0 : Heap) (n0 : Nat) (Z0 : n0 ≤ h0.size) (O2 : Sta Z Z.heap "java/lang/String" "COMPACT_STRINGS" "Z" (.int G1)) (P5 : ¬ G1 = 0) (X00 : Old Z n0 h0) (hn : n = 0 ∨ n = 1 ∨ n = 2 ∨ n = 3) :
    MetFree l (⟨"implicitwiring/internal/SettingDescribedPinLaw", "mk", "(II)Ljava/lang/String;"⟩ : MethodName) (head1 (Jvm.Cond.code (⟨"implicitwiring/internal/SettingDescribedPinLaw", "mk", "(II)Ljava/lang/String;"⟩ : MethodName) method_3_code 5 (some (.object "java/lang/String")) :: ws) ({ frames := 5, cells := 6, slots := 12, locals := 80 } : Room)) (fun aa UU => aa = #[(.int n), (.int x)] ∧ Z.Warmed39 UU.vm ∧ UU.heap = h0 ∧ CHv Z consts_1 UU.vm h0 ∧ ∀ x ∈ ([] : List Addr), Safe Z consts_1 UU.vm h0 x) (fun _ _ _ _ _ => True) (fun _ UU oo UT => ∃ vv LL, oo = .returned vv ∧ QM Z n x G1 h0 n0 vv UT.heap LL ∧ CHr Z consts_1 UU.vm UU.heap UT.vm UT.heap ∧ ReturnedEndW UU oo UT LL ({ frames := 5, cells := 6, slots := 12, locals := 80 } : Room).cells ({ frames := 5, cells := 6, slots := 12, locals := 80 } : Room).slots) := by
  refine MetFree.of_bodySF (plainFor_of_name pn0) hisR ?_
  intro p e s m args below meth c s₁ Bd hml0 hP hK
  obtain ⟨rfl, hZ, hh, hC, hX⟩ := hP
  have hx := Bd.exec
  have hby := Bd.bytes
  have hml : c.maxLocals = 5 := hml0
  have hown : s.vm.findClass "implicitwiring/internal/SettingDescribedPinLaw" = some m.cls := findClass_of_methodNamed Bd.named
  have hnm := (name_of_methodNamed Bd.named Bd.method).1
  have X0 : Stand p l e ({ frames := 5, cells := 6, slots := 12, locals := 80 } : Room) s m #[(.int n), (.int x)] below meth c s₁ [] 0 0 := Stand.of_body Bd
  have e0 : s₁.heap = h0 := by rw [← hh, Bd.state]; rfl
  have N0 := Fr.nil n0
  have c0 : Steps p.tables e below (s₁.setTop (entryFrame m #[(.int n), (.int x)] 5)) (s₁.setTop (mkF m 0 #[.val (.int n), .val (.int x), .unset, .unset, .unset] [])) := castTop (efM m n x) (Steps.refl _)
  show ∃ s₂ oo, Steps p.tables e below (s₁.setTop (entryFrame m #[(.int n), (.int x)] 5)) s₂ ∧ _ ∧ _ ∧ _
  generalize s₁.setTop (entryFrame m #[(.int n), (.int x)] 5) = S0 at c0 ⊢
  obtain ⟨V0, hV0⟩ : ∃ V, V = s.vm := ⟨_, rfl⟩
  have Xs : Stand p l e ({ frames := 5, cells := 6, slots := 12, locals := 80 } : Room) (s.setVm V0) m #[(.int n), (.int x)] below meth c s₁ [] 0 0 := by subst hV0; exact X0
  have hS : s.Since V0 h0.size := by subst hV0; exact (State.WarmedH.refl s).since _
  replace hZ : Z.Warmed39 (s.setVm V0).vm := by subst hV0; exact hZ
  replace hown : (s.setVm V0).vm.findClass "implicitwiring/internal/SettingDescribedPinLaw" = some m.cls := by subst hV0; exact hown
  have hk : h0.size ≤ h0.size := Nat.le_refl _
  have Zh := Z0
  have hR : CHr Z consts_1 V0 h0 V0 h0 := by subst hV0; exact CHr.refl hC
  have hEL := own_EW hw
  have Nf := N0
  have hO := X00
  have hKp := Keep.refl h0 []
  have c1 : Steps p.tables e below S0 (s₁.setTop (mkF m 29 #[.val (.int n), .val (.int x), .val (.int ((x &&& (255 : Int32)).toUInt32.toUInt16.toUInt32.toInt32)), .val (.int ((((x.toUInt32 >>> ((8 : Int32) &&& 31).toUInt32).toInt32) &&& (255 : Int32)).toUInt32.toUInt16.toUInt32.toInt32)), .val (.int ((((x.toUInt32 >>> ((16 : Int32) &&& 31).toUInt32).toInt32) &&& (255 : Int32)).toUInt32.toUInt16.toUInt32.toInt32))] [(.int n)])) := by
    refine c0.trans ?_
    show Steps p.tables e below (s₁.setTop (mkF m 0 #[.val (.int n), .val (.int x), .unset, .unset, .unset] [])) _
    refine XS.iloadN Xs.here hx rfl (hb hby dM_0) rfl ?_
    show Steps p.tables e below (s₁.setTop (mkF m 1 #[.val (.int n), .val (.int x), .unset, .unset, .unset] [(.int x)])) _
    refine XS.sipush Xs.here hx rfl (hb hby dM_1) ?_
    show Steps p.tables e below (s₁.setTop (mkF m 4 #[.val (.int n), .val (.int x), .unset, .unset, .unset] [(.int (255 : Int32)), (.int x)])) _
    refine XS.iand Xs.here hx rfl (hb hby dM_4) rfl ?_
    show Steps p.tables e below (s₁.setTop (mkF m 5 #[.val (.int n), .val (.int x), .unset, .unset, .unset] [(.int (x &&& (255 : Int32)))])) _
    refine XS.i2c Xs.here hx rfl (hb hby dM_5) rfl ?_
    show Steps p.tables e below (s₁.setTop (mkF m 6 #[.val (.int n), .val (.int x), .unset, .unset, .unset] [(.int ((x &&& (255 : Int32)).toUInt32.toUInt16.toUInt32.toInt32))])) _
    refine XS.istoreN Xs.here hx rfl (hb hby dM_6) rfl (l' := #[.val (.int n), .val (.int x), .val (.int ((x &&& (255 : Int32)).toUInt32.toUInt16.toUInt32.toInt32)), .unset, .unset]) rfl ?_
    show Steps p.tables e below (s₁.setTop (mkF m 7 #[.val (.int n), .val (.int x), .val (.int ((x &&& (255 : Int32)).toUInt32.toUInt16.toUInt32.toInt32)), .unset, .unset] [])) _
    refine XS.iloadN Xs.here hx rfl (hb hby dM_7) rfl ?_
    show Steps p.tables e below (s₁.setTop (mkF m 8 #[.val (.int n), .val (.int x), .val (.int ((x &&& (255 : Int32)).toUInt32.toUInt16.toUInt32.toInt32)), .unset, .unset] [(.int x)])) _
    refine XS.bipush Xs.here hx rfl (hb hby dM_8) ?_
    show Steps p.tables e below (s₁.setTop (mkF m 10 #[.val (.int n), .val (.int x), .val (.int ((x &&& (255 : Int32)).toUInt32.toUInt16.toUInt32.toInt32)), .unset, .unset] [(.int (8 : Int32)), (.int x)])) _
    refine XS.iushr Xs.here hx rfl (hb hby dM_10) rfl ?_
    show Steps p.tables e below (s₁.setTop (mkF m 11 #[.val (.int n), .val (.int x), .val (.int ((x &&& (255 : Int32)).toUInt32.toUInt16.toUInt32.toInt32)), .unset, .unset] [(.int ((x.toUInt32 >>> ((8 : Int32) &&& 31).toUInt32).toInt32))])) _
    refine XS.sipush Xs.here hx rfl (hb hby dM_11) ?_
    show Steps p.tables e below (s₁.setTop (mkF m 14 #[.val (.int n), .val (.int x), .val (.int ((x &&& (255 : Int32)).toUInt32.toUInt16.toUInt32.toInt32)), .unset, .unset] [(.int (255 : Int32)), (.int ((x.toUInt32 >>> ((8 : Int32) &&& 31).toUInt32).toInt32))])) _
    refine XS.iand Xs.here hx rfl (hb hby dM_14) rfl ?_
    show Steps p.tables e below (s₁.setTop (mkF m 15 #[.val (.int n), .val (.int x), .val (.int ((x &&& (255 : Int32)).toUInt32.toUInt16.toUInt32.toInt32)), .unset, .unset] [(.int (((x.toUInt32 >>> ((8 : Int32) &&& 31).toUInt32).toInt32) &&& (255 : Int32)))])) _
    refine XS.i2c Xs.here hx rfl (hb hby dM_15) rfl ?_
    show Steps p.tables e below (s₁.setTop (mkF m 16 #[.val (.int n), .val (.int x), .val (.int ((x &&& (255 : Int32)).toUInt32.toUInt16.toUInt32.toInt32)), .unset, .unset] [(.int ((((x.toUInt32 >>> ((8 : Int32) &&& 31).toUInt32).toInt32) &&& (255 : Int32)).toUInt32.toUInt16.toUInt32.toInt32))])) _
    refine XS.istoreN Xs.here hx rfl (hb hby dM_16) rfl (l' := #[.val (.int n), .val (.int x), .val (.int ((x &&& (255 : Int32)).toUInt32.toUInt16.toUInt32.toInt32)), .val (.int ((((x.toUInt32 >>> ((8 : Int32) &&& 31).toUInt32).toInt32) &&& (255 : Int32)).toUInt32.toUInt16.toUInt32.toInt32)), .unset]) rfl ?_
    show Steps p.tables e below (s₁.setTop (mkF m 17 #[.val (.int n), .val (.int x), .val (.int ((x &&& (255 : Int32)).toUInt32.toUInt16.toUInt32.toInt32)), .val (.int ((((x.toUInt32 >>> ((8 : Int32) &&& 31).toUInt32).toInt32) &&& (255 : Int32)).toUInt32.toUInt16.toUInt32.toInt32)), .unset] [])) _
    refine XS.iloadN Xs.here hx rfl (hb hby dM_17) rfl ?_
    show Steps p.tables e below (s₁.setTop (mkF m 18 #[.val (.int n), .val (.int x), .val (.int ((x &&& (255 : Int32)).toUInt32.toUInt16.toUInt32.toInt32)), .val (.int ((((x.toUInt32 >>> ((8 : Int32) &&& 31).toUInt32).toInt32) &&& (255 : Int32)).toUInt32.toUInt16.toUInt32.toInt32)), .unset] [(.int x)])) _
    refine XS.bipush Xs.here hx rfl (hb hby dM_18) ?_
    show Steps p.tables e below (s₁.setTop (mkF m 20 #[.val (.int n), .val (.int x), .val (.int ((x &&& (255 : Int32)).toUInt32.toUInt16.toUInt32.toInt32)), .val (.int ((((x.toUInt32 >>> ((8 : Int32) &&& 31).toUInt32).toInt32) &&& (255 : Int32)).toUInt32.toUInt16.toUInt32.toInt32)), .unset] [(.int (16 : Int32)), (.int x)])) _
    refine XS.iushr Xs.here hx rfl (hb hby dM_20) rfl ?_
    show Steps p.tables e below (s₁.setTop (mkF m 21 #[.val (.int n), .val (.int x), .val (.int ((x &&& (255 : Int32)).toUInt32.toUInt16.toUInt32.toInt32)), .val (.int ((((x.toUInt32 >>> ((8 : Int32) &&& 31).toUInt32).toInt32) &&& (255 : Int32)).toUInt32.toUInt16.toUInt32.toInt32)), .unset] [(.int ((x.toUInt32 >>> ((16 : Int32) &&& 31).toUInt32).toInt32))])) _
    refine XS.sipush Xs.here hx rfl (hb hby dM_21) ?_
    show Steps p.tables e below (s₁.setTop (mkF m 24 #[.val (.int n), .val (.int x), .val (.int ((x &&& (255 : Int32)).toUInt32.toUInt16.toUInt32.toInt32)), .val (.int ((((x.toUInt32 >>> ((8 : Int32) &&& 31).toUInt32).toInt32) &&& (255 : Int32)).toUInt32.toUInt16.toUInt32.toInt32)), .unset] [(.int (255 : Int32)), (.int ((x.toUInt32 >>> ((16 : Int32) &&& 31).toUInt32).toInt32))])) _
    refine XS.iand Xs.here hx rfl (hb hby dM_24) rfl ?_
    show Steps p.tables e below (s₁.setTop (mkF m 25 #[.val (.int n), .val (.int x), .val (.int ((x &&& (255 : Int32)).toUInt32.toUInt16.toUInt32.toInt32)), .val (.int ((((x.toUInt32 >>> ((8 : Int32) &&& 31).toUInt32).toInt32) &&& (255 : Int32)).toUInt32.toUInt16.toUInt32.toInt32)), .unset] [(.int (((x.toUInt32 >>> ((16 : Int32) &&& 31).toUInt32).toInt32) &&& (255 : Int32)))])) _
    refine XS.i2c Xs.here hx rfl (hb hby dM_25) rfl ?_
    show Steps p.tables e below (s₁.setTop (mkF m 26 #[.val (.int n), .val (.int x), .val (.int ((x &&& (255 : Int32)).toUInt32.toUInt16.toUInt32.toInt32)), .val (.int ((((x.toUInt32 >>> ((8 : Int32) &&& 31).toUInt32).toInt32) &&& (255 : Int32)).toUInt32.toUInt16.toUInt32.toInt32)), .unset] [(.int ((((x.toUInt32 >>> ((16 : Int32) &&& 31).toUInt32).toInt32) &&& (255 : Int32)).toUInt32.toUInt16.toUInt32.toInt32))])) _
    refine XS.istore Xs.here hx rfl (hb hby dM_26) rfl (l' := #[.val (.int n), .val (.int x), .val (.int ((x &&& (255 : Int32)).toUInt32.toUInt16.toUInt32.toInt32)), .val (.int ((((x.toUInt32 >>> ((8 : Int32) &&& 31).toUInt32).toInt32) &&& (255 : Int32)).toUInt32.toUInt16.toUInt32.toInt32)), .val (.int ((((x.toUInt32 >>> ((16 : Int32) &&& 31).toUInt32).toInt32) &&& (255 : Int32)).toUInt32.toUInt16.toUInt32.toInt32))]) rfl ?_
    show Steps p.tables e below (s₁.setTop (mkF m 28 #[.val (.int n), .val (.int x), .val (.int ((x &&& (255 : Int32)).toUInt32.toUInt16.toUInt32.toInt32)), .val (.int ((((x.toUInt32 >>> ((8 : Int32) &&& 31).toUInt32).toInt32) &&& (255 : Int32)).toUInt32.toUInt16.toUInt32.toInt32)), .val (.int ((((x.toUInt32 >>> ((16 : Int32) &&& 31).toUInt32).toInt32) &&& (255 : Int32)).toUInt32.toUInt16.toUInt32.toInt32))] [])) _
    refine XS.iloadN Xs.here hx rfl (hb hby dM_28) rfl ?_
    exact Steps.refl _
  by_cases hn0 : n = 0
  · have c2 : Steps p.tables e below S0 (s₁.setTop (mkF m 32 #[.val (.int n), .val (.int x), .val (.int ((x &&& (255 : Int32)).toUInt32.toUInt16.toUInt32.toInt32)), .val (.int ((((x.toUInt32 >>> ((8 : Int32) &&& 31).toUInt32).toInt32) &&& (255 : Int32)).toUInt32.toUInt16.toUInt32.toInt32)), .val (.int ((((x.toUInt32 >>> ((16 : Int32) &&& 31).toUInt32).toInt32) &&& (255 : Int32)).toUInt32.toUInt16.toUInt32.toInt32))] [])) := by
      refine c1.trans ?_
      show Steps p.tables e below (s₁.setTop (mkF m 29 #[.val (.int n), .val (.int x), .val (.int ((x &&& (255 : Int32)).toUInt32.toUInt16.toUInt32.toInt32)), .val (.int ((((x.toUInt32 >>> ((8 : Int32) &&& 31).toUInt32).toInt32) &&& (255 : Int32)).toUInt32.toUInt16.toUInt32.toInt32)), .val (.int ((((x.toUInt32 >>> ((16 : Int32) &&& 31).toUInt32).toInt32) &&& (255 : Int32)).toUInt32.toUInt16.toUInt32.toInt32))] [(.int n)])) _
      refine XS.ifNo Xs.here hx rfl (hb hby dM_29) rfl ((if0 _ _).trans (teq hn0).2) ?_
      exact Steps.refl _
    obtain ⟨T3, h3, X3, e3, E3, A3, D3, -, st3⟩ := newO Xs hx hZ hown (hw _ (List.mem_of_getElem? (i := 4) rfl)) (hw _ (List.mem_of_getElem? (i := 5) rfl)) (hw _ (List.mem_of_getElem? (i := 6) rfl)) e0 (g := (mkF m 32 #[.val (.int n), .val (.int x), .val (.int ((x &&& (255 : Int32)).toUInt32.toUInt16.toUInt32.toInt32)), .val (.int ((((x.toUInt32 >>> ((8 : Int32) &&& 31).toUInt32).toInt32) &&& (255 : Int32)).toUInt32.toUInt16.toUInt32.toInt32)), .val (.int ((((x.toUInt32 >>> ((16 : Int32) &&& 31).toUInt32).toInt32) &&& (255 : Int32)).toUInt32.toUInt16.toUInt32.toInt32))] [])) rfl (hb hby dM_32) (by decide) (by decide)
    obtain ⟨b3, g3⟩ : ∃ z, z = h0.size := ⟨_, rfl⟩
    rw [← g3] at A3 D3 st3
    have c3 : Steps p.tables e below S0 (T3.setTop (mkF m 35 #[.val (.int n), .val (.int x), .val (.int ((x &&& (255 : Int32)).toUInt32.toUInt16.toUInt32.toInt32)), .val (.int ((((x.toUInt32 >>> ((8 : Int32) &&& 31).toUInt32).toInt32) &&& (255 : Int32)).toUInt32.toUInt16.toUInt32.toInt32)), .val (.int ((((x.toUInt32 >>> ((16 : Int32) &&& 31).toUInt32).toInt32) &&& (255 : Int32)).toUInt32.toUInt16.toUInt32.toInt32))] [(.ref b3)])) := by
      refine c2.trans ?_
      show Steps p.tables e below (s₁.setTop (mkF m 32 #[.val (.int n), .val (.int x), .val (.int ((x &&& (255 : Int32)).toUInt32.toUInt16.toUInt32.toInt32)), .val (.int ((((x.toUInt32 >>> ((8 : Int32) &&& 31).toUInt32).toInt32) &&& (255 : Int32)).toUInt32.toUInt16.toUInt32.toInt32)), .val (.int ((((x.toUInt32 >>> ((16 : Int32) &&& 31).toUInt32).toInt32) &&& (255 : Int32)).toUInt32.toUInt16.toUInt32.toInt32))] [])) _
      refine st3 _ ?_
      exact Steps.refl _
    have Sf_b3 := Safe.ext E3 hR.1 (Safe.new (Nat.le_of_eq g3.symm))
    have gb3 : n0 ≤ b3 := Nat.le_trans Zh (Nat.le_of_eq g3.symm)
    have hRs3 := CHr.ext E3 hR.1
    have hR := hR.trans hRs3
    have Zh := Nat.le_trans Zh E3.1
    have hk := Nat.le_trans hk E3.1
    have Fv : Fld Z h3 b3 "java/lang/String" "value" "[B" .null := D3 (Or.inr (hw _ (List.mem_of_getElem? (i := 33) rfl))) (ty := (.array .byte)) (by decide)
    have Fc : Fld Z h3 b3 "java/lang/String" "coder" "B" (.int 0) := D3 (Or.inr (hw _ (List.mem_of_getElem? (i := 31) rfl))) (ty := .byte) (by decide)
    have zs : h0.size ≤ b3 := Nat.le_of_eq g3.symm
    have c4 : Steps p.tables e below S0 (T3.setTop (mkF m 37 #[.val (.int n), .val (.int x), .val (.int ((x &&& (255 : Int32)).toUInt32.toUInt16.toUInt32.toInt32)), .val (.int ((((x.toUInt32 >>> ((8 : Int32) &&& 31).toUInt32).toInt32) &&& (255 : Int32)).toUInt32.toUInt16.toUInt32.toInt32)), .val (.int ((((x.toUInt32 >>> ((16 : Int32) &&& 31).toUInt32).toInt32) &&& (255 : Int32)).toUInt32.toUInt16.toUInt32.toInt32))] [(.int (0 : Int32)), (.ref b3), (.ref b3)])) := by
      refine c3.trans ?_
      show Steps p.tables e below (T3.setTop (mkF m 35 #[.val (.int n), .val (.int x), .val (.int ((x &&& (255 : Int32)).toUInt32.toUInt16.toUInt32.toInt32)), .val (.int ((((x.toUInt32 >>> ((8 : Int32) &&& 31).toUInt32).toInt32) &&& (255 : Int32)).toUInt32.toUInt16.toUInt32.toInt32)), .val (.int ((((x.toUInt32 >>> ((16 : Int32) &&& 31).toUInt32).toInt32) &&& (255 : Int32)).toUInt32.toUInt16.toUInt32.toInt32))] [(.ref b3)])) _
      refine XS.dup X3.here hx rfl (hb hby dM_35) rfl rfl ?_
      show Steps p.tables e below (T3.setTop (mkF m 36 #[.val (.int n), .val (.int x), .val (.int ((x &&& (255 : Int32)).toUInt32.toUInt16.toUInt32.toInt32)), .val (.int ((((x.toUInt32 >>> ((8 : Int32) &&& 31).toUInt32).toInt32) &&& (255 : Int32)).toUInt32.toUInt16.toUInt32.toInt32)), .val (.int ((((x.toUInt32 >>> ((16 : Int32) &&& 31).toUInt32).toInt32) &&& (255 : Int32)).toUInt32.toUInt16.toUInt32.toInt32))] [(.ref b3), (.ref b3)])) _
      refine XS.iconst X3.here hx rfl (hb hby dM_36) ?_
      exact Steps.refl _
    obtain ⟨T5, h5, kA5, X5, e5, E5, A5, st5⟩ := newP X3 hx hZ (hw _ (List.mem_of_getElem? (i := 7) rfl)) e3 (g := (mkF m 37 #[.val (.int n), .val (.int x), .val (.int ((x &&& (255 : Int32)).toUInt32.toUInt16.toUInt32.toInt32)), .val (.int ((((x.toUInt32 >>> ((8 : Int32) &&& 31).toUInt32).toInt32) &&& (255 : Int32)).toUInt32.toUInt16.toUInt32.toInt32)), .val (.int ((((x.toUInt32 >>> ((16 : Int32) &&& 31).toUInt32).toInt32) &&& (255 : Int32)).toUInt32.toUInt16.toUInt32.toInt32))] [(.int (0 : Int32)), (.ref b3), (.ref b3)])) rfl (hb hby dM_37) rfl (by decide : ¬ ((0 : Int32) < (0 : Int32))) (cap := 0) (by decide) (by decide) (by decide) (by decide)
    obtain ⟨b5, g5⟩ : ∃ z, z = h3.size := ⟨_, rfl⟩
    rw [← g5] at A5 st5
    have c5 : Steps p.tables e below S0 (T5.setTop (mkF m 39 #[.val (.int n), .val (.int x), .val (.int ((x &&& (255 : Int32)).toUInt32.toUInt16.toUInt32.toInt32)), .val (.int ((((x.toUInt32 >>> ((8 : Int32) &&& 31).toUInt32).toInt32) &&& (255 : Int32)).toUInt32.toUInt16.toUInt32.toInt32)), .val (.int ((((x.toUInt32 >>> ((16 : Int32) &&& 31).toUInt32).toInt32) &&& (255 : Int32)).toUInt32.toUInt16.toUInt32.toInt32))] [(.ref b5), (.ref b3), (.ref b3)])) := by
      refine c4.trans ?_
      show Steps p.tables e below (T3.setTop (mkF m 37 #[.val (.int n), .val (.int x), .val (.int ((x &&& (255 : Int32)).toUInt32.toUInt16.toUInt32.toInt32)), .val (.int ((((x.toUInt32 >>> ((8 : Int32) &&& 31).toUInt32).toInt32) &&& (255 : Int32)).toUInt32.toUInt16.toUInt32.toInt32)), .val (.int ((((x.toUInt32 >>> ((16 : Int32) &&& 31).toUInt32).toInt32) &&& (255 : Int32)).toUInt32.toUInt16.toUInt32.toInt32))] [(.int (0 : Int32)), (.ref b3), (.ref b3)])) _
      refine st5 _ ?_
      exact Steps.refl _
    have hRs5 := CHr.ext E5 hR.1
    have Sf_b3 := hRs5.safe A3.lt Sf_b3
    have hR := hR.trans hRs5
    have Zh := Nat.le_trans Zh E5.1
    have hk := Nat.le_trans hk E5.1
    obtain ⟨_, _, ⟨T6, L6, k6, n6⟩, -, X6, hS6, hge6, ⟨Lc6, hQ6, l6, y6, z6, hCr6⟩, st6⟩ := X5.specialBackS hx (y := (⟨"java/lang/String", "<init>", "([C)V"⟩ : MethodName)) rfl hown (mvT hZ (hw _ (List.mem_of_getElem? (i := 8) rfl))) (mvT hZ (hw _ (List.mem_of_getElem? (i := 9) rfl))) (mvT hZ (hw _ (List.mem_of_getElem? (i := 10) rfl))) (by decide) (backOfSX (W := 1) (rm3 l Z a0 hw [] b3 b5 _ h5 n0 Zh (A3.ext E5) (Fv.ext E5) (Fc.ext E5) gb3 A5 (sz_new _ _ _)) hZ (hw _ (List.mem_of_getElem? (i := 10) rfl)) (hw _ (List.mem_of_getElem? (i := 6) rfl)) (by decide) (by decide) hEL hR.1 (fun x hx => by cases List.mem_singleton.mp hx; exact ⟨(A3.ext E5).lt, Sf_b3⟩)) (g := (mkF m 39 #[.val (.int n), .val (.int x), .val (.int ((x &&& (255 : Int32)).toUInt32.toUInt16.toUInt32.toInt32)), .val (.int ((((x.toUInt32 >>> ((8 : Int32) &&& 31).toUInt32).toInt32) &&& (255 : Int32)).toUInt32.toUInt16.toUInt32.toInt32)), .val (.int ((((x.toUInt32 >>> ((16 : Int32) &&& 31).toUInt32).toInt32) &&& (255 : Int32)).toUInt32.toUInt16.toUInt32.toInt32))] [(.ref b5), (.ref b3), (.ref b3)])) rfl (by rw [hml]; rfl) (Steps.refl _) (a := b3) (argsL := [(.ref b5)]) (rest := [(.ref b3)]) (lenOf pd18 rfl) rfl (by show 2 * 0 + _ ≤ _; exact Nat.le_of_eq rfl) (hb hby dM_39) (fun _ _ => ⟨rfl, e5, (by decide : 2 + 4 ≤ _), (by decide : 4 + 8 ≤ _)⟩)
    dsimp only [Pt.U, Pt.locs, Pt.cells, Pt.slots] at X6 l6 y6 z6 st6 hQ6 hS6 hge6 hCr6
    subst l6 y6 z6
    obtain ⟨X6, hS, hZ, hown⟩ := rebS hS (by rw [e5]; exact hk) X6 hS6 hge6 hZ hown
    have hk : T6.heap.size ≤ T6.heap.size := Nat.le_refl _
    have hR := hR.trans hCr6
    obtain ⟨rfl, Ne, Ke, te, De⟩ := hQ6
    have c6 : Steps p.tables e below S0 (T6.setTop (mkF m 42 #[.val (.int n), .val (.int x), .val (.int ((x &&& (255 : Int32)).toUInt32.toUInt16.toUInt32.toInt32)), .val (.int ((((x.toUInt32 >>> ((8 : Int32) &&& 31).toUInt32).toInt32) &&& (255 : Int32)).toUInt32.toUInt16.toUInt32.toInt32)), .val (.int ((((x.toUInt32 >>> ((16 : Int32) &&& 31).toUInt32).toInt32) &&& (255 : Int32)).toUInt32.toUInt16.toUInt32.toInt32))] [(.ref b3)])) := by
      refine c5.trans ?_
      show Steps p.tables e below (T5.setTop (mkF m 39 #[.val (.int n), .val (.int x), .val (.int ((x &&& (255 : Int32)).toUInt32.toUInt16.toUInt32.toInt32)), .val (.int ((((x.toUInt32 >>> ((8 : Int32) &&& 31).toUInt32).toInt32) &&& (255 : Int32)).toUInt32.toUInt16.toUInt32.toInt32)), .val (.int ((((x.toUInt32 >>> ((16 : Int32) &&& 31).toUInt32).toInt32) &&& (255 : Int32)).toUInt32.toUInt16.toUInt32.toInt32))] [(.ref b5), (.ref b3), (.ref b3)])) _
      refine st6.trans ?_
      exact Steps.refl _
    obtain ⟨fs, hr, hrun, hended, hW⟩ := X6.leaveW hS hk (v := some (.ref b3)) (fun h => by rw [Bd.returns] at h; cases h)
    refine ⟨_, _, c6.trans ?_, hrun, hended, _, _, rfl, ?_, ?_, hW.1, hW.2.1, hW.2.2.1, hW.2.2.2.mono (by decide) (by decide)⟩
    · show Steps p.tables e below (T6.setTop (mkF m 42 #[.val (.int n), .val (.int x), .val (.int ((x &&& (255 : Int32)).toUInt32.toUInt16.toUInt32.toInt32)), .val (.int ((((x.toUInt32 >>> ((8 : Int32) &&& 31).toUInt32).toInt32) &&& (255 : Int32)).toUInt32.toUInt16.toUInt32.toInt32)), .val (.int ((((x.toUInt32 >>> ((16 : Int32) &&& 31).toUInt32).toInt32) &&& (255 : Int32)).toUInt32.toUInt16.toUInt32.toInt32))] [(.ref b3)])) _
      exact retA X6 hx Bd.returns rfl rfl (hb hby dM_42) hr
    · show QM Z n x G1 h0 n0 _ T6.heap _
      exact ⟨⟨_, _, [], rfl, hn0.symm, Nat.zero_le _, De⟩, Fr.app N0 Ne, ((((Keep.refl h0 []).ext E3).ext E5).trans Ke (fun x hx => by cases List.mem_singleton.mp hx; exact Or.inr zs))⟩
    · show CHr Z consts_1 s.vm s.heap T6.vm T6.heap
      rw [hh, ← hV0]
      exact hR.trans (CHv.at X6 hZ hEL hR.1)
  · have c7 : Steps p.tables e below S0 (s₁.setTop (mkF m 45 #[.val (.int n), .val (.int x), .val (.int ((x &&& (255 : Int32)).toUInt32.toUInt16.toUInt32.toInt32)), .val (.int ((((x.toUInt32 >>> ((8 : Int32) &&& 31).toUInt32).toInt32) &&& (255 : Int32)).toUInt32.toUInt16.toUInt32.toInt32)), .val (.int ((((x.toUInt32 >>> ((16 : Int32) &&& 31).toUInt32).toInt32) &&& (255 : Int32)).toUInt32.toUInt16.toUInt32.toInt32))] [(.int (1 : Int32)), (.int n)])) := by
      refine c1.trans ?_
      show Steps p.tables e below (s₁.setTop (mkF m 29 #[.val (.int n), .val (.int x), .val (.int ((x &&& (255 : Int32)).toUInt32.toUInt16.toUInt32.toInt32)), .val (.int ((((x.toUInt32 >>> ((8 : Int32) &&& 31).toUInt32).toInt32) &&& (255 : Int32)).toUInt32.toUInt16.toUInt32.toInt32)), .val (.int ((((x.toUInt32 >>> ((16 : Int32) &&& 31).toUInt32).toInt32) &&& (255 : Int32)).toUInt32.toUInt16.toUInt32.toInt32))] [(.int n)])) _
      refine XS.ifYes Xs.here hx rfl (pc0 := 29) (pc' := 43) rfl (hb hby dM_29) rfl ((if0 _ _).trans (feq hn0).2) (by decide) (by decide) ?_
      show Steps p.tables e below (s₁.setTop (mkF m 43 #[.val (.int n), .val (.int x), .val (.int ((x &&& (255 : Int32)).toUInt32.toUInt16.toUInt32.toInt32)), .val (.int ((((x.toUInt32 >>> ((8 : Int32) &&& 31).toUInt32).toInt32) &&& (255 : Int32)).toUInt32.toUInt16.toUInt32.toInt32)), .val (.int ((((x.toUInt32 >>> ((16 : Int32) &&& 31).toUInt32).toInt32) &&& (255 : Int32)).toUInt32.toUInt16.toUInt32.toInt32))] [])) _
      refine XS.iloadN Xs.here hx rfl (hb hby dM_43) rfl ?_
      show Steps p.tables e below (s₁.setTop (mkF m 44 #[.val (.int n), .val (.int x), .val (.int ((x &&& (255 : Int32)).toUInt32.toUInt16.toUInt32.toInt32)), .val (.int ((((x.toUInt32 >>> ((8 : Int32) &&& 31).toUInt32).toInt32) &&& (255 : Int32)).toUInt32.toUInt16.toUInt32.toInt32)), .val (.int ((((x.toUInt32 >>> ((16 : Int32) &&& 31).toUInt32).toInt32) &&& (255 : Int32)).toUInt32.toUInt16.toUInt32.toInt32))] [(.int n)])) _
      refine XS.iconst Xs.here hx rfl (hb hby dM_44) ?_
      exact Steps.refl _
    by_cases hnK : n = 1
    · have c8 : Steps p.tables e below S0 (s₁.setTop (mkF m 48 #[.val (.int n), .val (.int x), .val (.int ((x &&& (255 : Int32)).toUInt32.toUInt16.toUInt32.toInt32)), .val (.int ((((x.toUInt32 >>> ((8 : Int32) &&& 31).toUInt32).toInt32) &&& (255 : Int32)).toUInt32.toUInt16.toUInt32.toInt32)), .val (.int ((((x.toUInt32 >>> ((16 : Int32) &&& 31).toUInt32).toInt32) &&& (255 : Int32)).toUInt32.toUInt16.toUInt32.toInt32))] [])) := by
        refine c7.trans ?_
        show Steps p.tables e below (s₁.setTop (mkF m 45 #[.val (.int n), .val (.int x), .val (.int ((x &&& (255 : Int32)).toUInt32.toUInt16.toUInt32.toInt32)), .val (.int ((((x.toUInt32 >>> ((8 : Int32) &&& 31).toUInt32).toInt32) &&& (255 : Int32)).toUInt32.toUInt16.toUInt32.toInt32)), .val (.int ((((x.toUInt32 >>> ((16 : Int32) &&& 31).toUInt32).toInt32) &&& (255 : Int32)).toUInt32.toUInt16.toUInt32.toInt32))] [(.int (1 : Int32)), (.int n)])) _
        refine XS.icmpNo Xs.here hx rfl (hb hby dM_45) rfl (teq hnK).2 ?_
        exact Steps.refl _
      obtain ⟨T9, h9, X9, e9, E9, A9, D9, -, st9⟩ := newO Xs hx hZ hown (hw _ (List.mem_of_getElem? (i := 4) rfl)) (hw _ (List.mem_of_getElem? (i := 5) rfl)) (hw _ (List.mem_of_getElem? (i := 6) rfl)) e0 (g := (mkF m 48 #[.val (.int n), .val (.int x), .val (.int ((x &&& (255 : Int32)).toUInt32.toUInt16.toUInt32.toInt32)), .val (.int ((((x.toUInt32 >>> ((8 : Int32) &&& 31).toUInt32).toInt32) &&& (255 : Int32)).toUInt32.toUInt16.toUInt32.toInt32)), .val (.int ((((x.toUInt32 >>> ((16 : Int32) &&& 31).toUInt32).toInt32) &&& (255 : Int32)).toUInt32.toUInt16.toUInt32.toInt32))] [])) rfl (hb hby dM_48) (by decide) (by decide)
      obtain ⟨b9, g9⟩ : ∃ z, z = h0.size := ⟨_, rfl⟩
      rw [← g9] at A9 D9 st9
      have c9 : Steps p.tables e below S0 (T9.setTop (mkF m 51 #[.val (.int n), .val (.int x), .val (.int ((x &&& (255 : Int32)).toUInt32.toUInt16.toUInt32.toInt32)), .val (.int ((((x.toUInt32 >>> ((8 : Int32) &&& 31).toUInt32).toInt32) &&& (255 : Int32)).toUInt32.toUInt16.toUInt32.toInt32)), .val (.int ((((x.toUInt32 >>> ((16 : Int32) &&& 31).toUInt32).toInt32) &&& (255 : Int32)).toUInt32.toUInt16.toUInt32.toInt32))] [(.ref b9)])) := by
        refine c8.trans ?_
        show Steps p.tables e below (s₁.setTop (mkF m 48 #[.val (.int n), .val (.int x), .val (.int ((x &&& (255 : Int32)).toUInt32.toUInt16.toUInt32.toInt32)), .val (.int ((((x.toUInt32 >>> ((8 : Int32) &&& 31).toUInt32).toInt32) &&& (255 : Int32)).toUInt32.toUInt16.toUInt32.toInt32)), .val (.int ((((x.toUInt32 >>> ((16 : Int32) &&& 31).toUInt32).toInt32) &&& (255 : Int32)).toUInt32.toUInt16.toUInt32.toInt32))] [])) _
        refine st9 _ ?_
        exact Steps.refl _
      have Sf_b9 := Safe.ext E9 hR.1 (Safe.new (Nat.le_of_eq g9.symm))
      have gb9 : n0 ≤ b9 := Nat.le_trans Zh (Nat.le_of_eq g9.symm)
      have hRs9 := CHr.ext E9 hR.1
      have hR := hR.trans hRs9
      have Zh := Nat.le_trans Zh E9.1
      have hk := Nat.le_trans hk E9.1
      have Fv : Fld Z h9 b9 "java/lang/String" "value" "[B" .null := D9 (Or.inr (hw _ (List.mem_of_getElem? (i := 33) rfl))) (ty := (.array .byte)) (by decide)
      have Fc : Fld Z h9 b9 "java/lang/String" "coder" "B" (.int 0) := D9 (Or.inr (hw _ (List.mem_of_getElem? (i := 31) rfl))) (ty := .byte) (by decide)
      have zs : h0.size ≤ b9 := Nat.le_of_eq g9.symm
      have hO := hO.ext E9
      have hKp := hKp.ext E9
      have c10 : Steps p.tables e below S0 (T9.setTop (mkF m 53 #[.val (.int n), .val (.int x), .val (.int ((x &&& (255 : Int32)).toUInt32.toUInt16.toUInt32.toInt32)), .val (.int ((((x.toUInt32 >>> ((8 : Int32) &&& 31).toUInt32).toInt32) &&& (255 : Int32)).toUInt32.toUInt16.toUInt32.toInt32)), .val (.int ((((x.toUInt32 >>> ((16 : Int32) &&& 31).toUInt32).toInt32) &&& (255 : Int32)).toUInt32.toUInt16.toUInt32.toInt32))] [(.int (1 : Int32)), (.ref b9), (.ref b9)])) := by
        refine c9.trans ?_
        show Steps p.tables e below (T9.setTop (mkF m 51 #[.val (.int n), .val (.int x), .val (.int ((x &&& (255 : Int32)).toUInt32.toUInt16.toUInt32.toInt32)), .val (.int ((((x.toUInt32 >>> ((8 : Int32) &&& 31).toUInt32).toInt32) &&& (255 : Int32)).toUInt32.toUInt16.toUInt32.toInt32)), .val (.int ((((x.toUInt32 >>> ((16 : Int32) &&& 31).toUInt32).toInt32) &&& (255 : Int32)).toUInt32.toUInt16.toUInt32.toInt32))] [(.ref b9)])) _
        refine XS.dup X9.here hx rfl (hb hby dM_51) rfl rfl ?_
        show Steps p.tables e below (T9.setTop (mkF m 52 #[.val (.int n), .val (.int x), .val (.int ((x &&& (255 : Int32)).toUInt32.toUInt16.toUInt32.toInt32)), .val (.int ((((x.toUInt32 >>> ((8 : Int32) &&& 31).toUInt32).toInt32) &&& (255 : Int32)).toUInt32.toUInt16.toUInt32.toInt32)), .val (.int ((((x.toUInt32 >>> ((16 : Int32) &&& 31).toUInt32).toInt32) &&& (255 : Int32)).toUInt32.toUInt16.toUInt32.toInt32))] [(.ref b9), (.ref b9)])) _
        refine XS.iconst X9.here hx rfl (hb hby dM_52) ?_
        exact Steps.refl _
      obtain ⟨T11, h11, kA11, X11, e11, E11, A11, st11⟩ := newP X9 hx hZ (hw _ (List.mem_of_getElem? (i := 7) rfl)) e9 (g := (mkF m 53 #[.val (.int n), .val (.int x), .val (.int ((x &&& (255 : Int32)).toUInt32.toUInt16.toUInt32.toInt32)), .val (.int ((((x.toUInt32 >>> ((8 : Int32) &&& 31).toUInt32).toInt32) &&& (255 : Int32)).toUInt32.toUInt16.toUInt32.toInt32)), .val (.int ((((x.toUInt32 >>> ((16 : Int32) &&& 31).toUInt32).toInt32) &&& (255 : Int32)).toUInt32.toUInt16.toUInt32.toInt32))] [(.int (1 : Int32)), (.ref b9), (.ref b9)])) rfl (hb hby dM_53) rfl (by decide : ¬ ((1 : Int32) < (0 : Int32))) (cap := 1) (by decide) (by decide) (by decide) (by decide)
      obtain ⟨b11, g11⟩ : ∃ z, z = h9.size := ⟨_, rfl⟩
      rw [← g11] at A11 st11
      have c11 : Steps p.tables e below S0 (T11.setTop (mkF m 55 #[.val (.int n), .val (.int x), .val (.int ((x &&& (255 : Int32)).toUInt32.toUInt16.toUInt32.toInt32)), .val (.int ((((x.toUInt32 >>> ((8 : Int32) &&& 31).toUInt32).toInt32) &&& (255 : Int32)).toUInt32.toUInt16.toUInt32.toInt32)), .val (.int ((((x.toUInt32 >>> ((16 : Int32) &&& 31).toUInt32).toInt32) &&& (255 : Int32)).toUInt32.toUInt16.toUInt32.toInt32))] [(.ref b11), (.ref b9), (.ref b9)])) := by
        refine c10.trans ?_
        show Steps p.tables e below (T9.setTop (mkF m 53 #[.val (.int n), .val (.int x), .val (.int ((x &&& (255 : Int32)).toUInt32.toUInt16.toUInt32.toInt32)), .val (.int ((((x.toUInt32 >>> ((8 : Int32) &&& 31).toUInt32).toInt32) &&& (255 : Int32)).toUInt32.toUInt16.toUInt32.toInt32)), .val (.int ((((x.toUInt32 >>> ((16 : Int32) &&& 31).toUInt32).toInt32) &&& (255 : Int32)).toUInt32.toUInt16.toUInt32.toInt32))] [(.int (1 : Int32)), (.ref b9), (.ref b9)])) _
        refine st11 _ ?_
        exact Steps.refl _
      have V11 := Arv.new A11 (by decide)
      have zb : h0.size ≤ b11 := Nat.le_trans hKp.1 (Nat.le_of_eq g11.symm)
      have Sf_b11 := Safe.ext E11 hR.1 (Safe.new (Nat.le_of_eq g11.symm))
      have gb11 : n0 ≤ b11 := Nat.le_trans Zh (Nat.le_of_eq g11.symm)
      have hRs11 := CHr.ext E11 hR.1
      have hR := hR.trans hRs11
      have Zh := Nat.le_trans Zh E11.1
      have hk := Nat.le_trans hk E11.1
      have hO := hO.ext E11
      have hKp := hKp.ext E11
      have Sf_b9 := hRs11.safe A9.lt Sf_b9
      have Es := A9.ext E11
      have Fv := Fv.ext E11
      have Fc := Fc.ext E11
      have nsa : b9 ≠ b11 := Es.neArv V11 (hw _ (List.mem_of_getElem? (i := 5) rfl))
      have c12 : Steps p.tables e below S0 (T11.setTop (mkF m 58 #[.val (.int n), .val (.int x), .val (.int ((x &&& (255 : Int32)).toUInt32.toUInt16.toUInt32.toInt32)), .val (.int ((((x.toUInt32 >>> ((8 : Int32) &&& 31).toUInt32).toInt32) &&& (255 : Int32)).toUInt32.toUInt16.toUInt32.toInt32)), .val (.int ((((x.toUInt32 >>> ((16 : Int32) &&& 31).toUInt32).toInt32) &&& (255 : Int32)).toUInt32.toUInt16.toUInt32.toInt32))] [(.int ((x &&& (255 : Int32)).toUInt32.toUInt16.toUInt32.toInt32)), (.int (0 : Int32)), (.ref b11), (.ref b11), (.ref b9), (.ref b9)])) := by
        refine c11.trans ?_
        show Steps p.tables e below (T11.setTop (mkF m 55 #[.val (.int n), .val (.int x), .val (.int ((x &&& (255 : Int32)).toUInt32.toUInt16.toUInt32.toInt32)), .val (.int ((((x.toUInt32 >>> ((8 : Int32) &&& 31).toUInt32).toInt32) &&& (255 : Int32)).toUInt32.toUInt16.toUInt32.toInt32)), .val (.int ((((x.toUInt32 >>> ((16 : Int32) &&& 31).toUInt32).toInt32) &&& (255 : Int32)).toUInt32.toUInt16.toUInt32.toInt32))] [(.ref b11), (.ref b9), (.ref b9)])) _
        refine XS.dup X11.here hx rfl (hb hby dM_55) rfl rfl ?_
        show Steps p.tables e below (T11.setTop (mkF m 56 #[.val (.int n), .val (.int x), .val (.int ((x &&& (255 : Int32)).toUInt32.toUInt16.toUInt32.toInt32)), .val (.int ((((x.toUInt32 >>> ((8 : Int32) &&& 31).toUInt32).toInt32) &&& (255 : Int32)).toUInt32.toUInt16.toUInt32.toInt32)), .val (.int ((((x.toUInt32 >>> ((16 : Int32) &&& 31).toUInt32).toInt32) &&& (255 : Int32)).toUInt32.toUInt16.toUInt32.toInt32))] [(.ref b11), (.ref b11), (.ref b9), (.ref b9)])) _
        refine XS.iconst X11.here hx rfl (hb hby dM_56) ?_
        show Steps p.tables e below (T11.setTop (mkF m 57 #[.val (.int n), .val (.int x), .val (.int ((x &&& (255 : Int32)).toUInt32.toUInt16.toUInt32.toInt32)), .val (.int ((((x.toUInt32 >>> ((8 : Int32) &&& 31).toUInt32).toInt32) &&& (255 : Int32)).toUInt32.toUInt16.toUInt32.toInt32)), .val (.int ((((x.toUInt32 >>> ((16 : Int32) &&& 31).toUInt32).toInt32) &&& (255 : Int32)).toUInt32.toUInt16.toUInt32.toInt32))] [(.int (0 : Int32)), (.ref b11), (.ref b11), (.ref b9), (.ref b9)])) _
        refine XS.iloadN X11.here hx rfl (hb hby dM_57) rfl ?_
        exact Steps.refl _
      have Vp13 : Arv Z _ b11 kA11 .char (1 : Int32) [(.int 0)] (.int 0) := V11.pad (pad_rep [] (.int 0) 1)
      obtain ⟨cl13, Ar13, qr13, S13, M13, Hs13, U13⟩ := Vp13
      obtain ⟨T13, h13, X13, e13, W13, st13⟩ := stC X11 hx hZ e11 Ar13 (j := (0 : Int32)) (inb_of S13 ⟨(by decide), (by decide)⟩) (g := (mkF m 58 #[.val (.int n), .val (.int x), .val (.int ((x &&& (255 : Int32)).toUInt32.toUInt16.toUInt32.toInt32)), .val (.int ((((x.toUInt32 >>> ((8 : Int32) &&& 31).toUInt32).toInt32) &&& (255 : Int32)).toUInt32.toUInt16.toUInt32.toInt32)), .val (.int ((((x.toUInt32 >>> ((16 : Int32) &&& 31).toUInt32).toInt32) &&& (255 : Int32)).toUInt32.toUInt16.toUInt32.toInt32))] [(.int ((x &&& (255 : Int32)).toUInt32.toUInt16.toUInt32.toInt32)), (.int (0 : Int32)), (.ref b11), (.ref b11), (.ref b9), (.ref b9)])) rfl rfl (hb hby dM_58)
      have V13 : Arv Z h13 b11 kA11 .char (1 : Int32) [(.int (nar .char ((x &&& (255 : Int32)).toUInt32.toUInt16.toUInt32.toInt32)))] (.int 0) := Arv.set Ar13 qr13 S13 M13 Hs13 U13 (fits_nar_char _) W13 0 rfl (Nat.le_of_ble_eq_true rfl)
      have c13 : Steps p.tables e below S0 (T13.setTop (mkF m 59 #[.val (.int n), .val (.int x), .val (.int ((x &&& (255 : Int32)).toUInt32.toUInt16.toUInt32.toInt32)), .val (.int ((((x.toUInt32 >>> ((8 : Int32) &&& 31).toUInt32).toInt32) &&& (255 : Int32)).toUInt32.toUInt16.toUInt32.toInt32)), .val (.int ((((x.toUInt32 >>> ((16 : Int32) &&& 31).toUInt32).toInt32) &&& (255 : Int32)).toUInt32.toUInt16.toUInt32.toInt32))] [(.ref b11), (.ref b9), (.ref b9)])) := by
        refine c12.trans ?_
        show Steps p.tables e below (T11.setTop (mkF m 58 #[.val (.int n), .val (.int x), .val (.int ((x &&& (255 : Int32)).toUInt32.toUInt16.toUInt32.toInt32)), .val (.int ((((x.toUInt32 >>> ((8 : Int32) &&& 31).toUInt32).toInt32) &&& (255 : Int32)).toUInt32.toUInt16.toUInt32.toInt32)), .val (.int ((((x.toUInt32 >>> ((16 : Int32) &&& 31).toUInt32).toInt32) &&& (255 : Int32)).toUInt32.toUInt16.toUInt32.toInt32))] [(.int ((x &&& (255 : Int32)).toUInt32.toUInt16.toUInt32.toInt32)), (.int (0 : Int32)), (.ref b11), (.ref b11), (.ref b9), (.ref b9)])) _
        refine st13 _ ?_
        exact Steps.refl _
      have Nf := Fr.snoc X13 Nf gb11
      have hO := hO.wr W13 gb11
      have hKp := hKp.wr W13 (Or.inr zb)
      have hRs13 := CHr.wr W13 Sf_b11 hR.1
      have hR := hR.trans hRs13
      have Zh := Nat.le_trans Zh (Nat.le_of_eq (own_wsz W13).symm)
      have hk := Nat.le_trans hk (Nat.le_of_eq (own_wsz W13).symm)
      have Sf_b11 := hRs13.safe V11.lt Sf_b11
      have Sf_b9 := hRs13.safe Es.lt Sf_b9
      have Es := Es.wr W13
      have Fv := Fv.other W13 (Or.inl nsa)
      have Fc := Fc.other W13 (Or.inl nsa)
      have hws : ∀ d ∈ StrChars.Road.words, d.before a0 Z = true := fun d hd => hw d ((by decide +kernel : ∀ d ∈ StrChars.Road.words, d ∈ tables_1) d hd)
      have hp : ∀ c ∈ ([x &&& 255] : List Int32), ¬ c < 0 ∧ ¬ (255 : Int32) < c := by
        intro c hc
        simp only [List.mem_cons, List.not_mem_nil, or_false] at hc
        rcases hc with rfl
        · exact own_m255 _
      have Vc : Arv Z h13 b11 kA11 .char (1 : Int32) (([x &&& 255] : List Int32).map Value.int) (.int 0) := by
        have := V13
        rw [own_nar] at this; exact this
      obtain ⟨_, _, ⟨T14, L14, k14, n14⟩, -, X14, ⟨Lc14, hQ14, l14, y14, z14⟩, st14⟩ := X13.specialBack hx (y := (⟨"java/lang/String", "<init>", "([C)V"⟩ : MethodName)) rfl hown (mvT hZ (hw _ (List.mem_of_getElem? (i := 8) rfl))) (mvT hZ (hw _ (List.mem_of_getElem? (i := 9) rfl))) (mvT hZ (hw _ (List.mem_of_getElem? (i := 10) rfl))) (by decide) (StrChars.Road.backV (W := 1) hZ hws (kI := 4) (hw _ (List.mem_of_getElem? (i := 5) rfl)) (cs := ([x &&& 255] : List Int32)) (bs := ([x &&& 255] : List Int32).map (fun c => c.toInt8.toInt32)) (n := 1) gb9 Zh Es Fv Fc Vc (O2.ext hO.2) P5 rfl rfl (by decide) (by decide) hp rfl (by decide) (by decide)) (g := (mkF m 59 #[.val (.int n), .val (.int x), .val (.int ((x &&& (255 : Int32)).toUInt32.toUInt16.toUInt32.toInt32)), .val (.int ((((x.toUInt32 >>> ((8 : Int32) &&& 31).toUInt32).toInt32) &&& (255 : Int32)).toUInt32.toUInt16.toUInt32.toInt32)), .val (.int ((((x.toUInt32 >>> ((16 : Int32) &&& 31).toUInt32).toInt32) &&& (255 : Int32)).toUInt32.toUInt16.toUInt32.toInt32))] [(.ref b11), (.ref b9), (.ref b9)])) rfl (by rw [hml]; rfl) (Steps.refl _) (a := b9) (argsL := [(.ref b11)]) (rest := [(.ref b9)]) (lenOf pd18 rfl) rfl (by show 2 * 0 + _ ≤ _; exact Nat.le_of_eq rfl) (hb hby dM_59) (fun _ _ => ⟨rfl, e13, (by decide : 2 + 1 ≤ _), (by decide : 5 + 1 ≤ _)⟩)
      dsimp only [Pt.U, Pt.locs, Pt.cells, Pt.slots] at X14 l14 y14 z14 st14 hQ14
      subst l14 y14 z14
      obtain ⟨rfl, N5, K5, D5, C5, t5, k5, -, -, -, F5, V5⟩ := hQ14
      have c14 : Steps p.tables e below S0 (T14.setTop (mkF m 62 #[.val (.int n), .val (.int x), .val (.int ((x &&& (255 : Int32)).toUInt32.toUInt16.toUInt32.toInt32)), .val (.int ((((x.toUInt32 >>> ((8 : Int32) &&& 31).toUInt32).toInt32) &&& (255 : Int32)).toUInt32.toUInt16.toUInt32.toInt32)), .val (.int ((((x.toUInt32 >>> ((16 : Int32) &&& 31).toUInt32).toInt32) &&& (255 : Int32)).toUInt32.toUInt16.toUInt32.toInt32))] [(.ref b9)])) := by
        refine c13.trans ?_
        show Steps p.tables e below (T13.setTop (mkF m 59 #[.val (.int n), .val (.int x), .val (.int ((x &&& (255 : Int32)).toUInt32.toUInt16.toUInt32.toInt32)), .val (.int ((((x.toUInt32 >>> ((8 : Int32) &&& 31).toUInt32).toInt32) &&& (255 : Int32)).toUInt32.toUInt16.toUInt32.toInt32)), .val (.int ((((x.toUInt32 >>> ((16 : Int32) &&& 31).toUInt32).toInt32) &&& (255 : Int32)).toUInt32.toUInt16.toUInt32.toInt32))] [(.ref b11), (.ref b9), (.ref b9)])) _
        refine st14.trans ?_
        exact Steps.refl _
      have hRs14 := CHr.keep K5 (fun x hx => by cases List.mem_singleton.mp hx; exact Sf_b9) hR.1
      have hR := hR.trans hRs14
      have Zh := Nat.le_trans Zh K5.1
      have hk := Nat.le_trans hk K5.1
      obtain ⟨fs, hr, hrun, hended, hW⟩ := X14.leaveW hS hk (v := some (.ref b9)) (fun h => by rw [Bd.returns] at h; cases h)
      refine ⟨_, _, c14.trans ?_, hrun, hended, _, _, rfl, ?_, ?_, hW.1, hW.2.1, hW.2.2.1, hW.2.2.2.mono (by decide) (by decide)⟩
      · show Steps p.tables e below (T14.setTop (mkF m 62 #[.val (.int n), .val (.int x), .val (.int ((x &&& (255 : Int32)).toUInt32.toUInt16.toUInt32.toInt32)), .val (.int ((((x.toUInt32 >>> ((8 : Int32) &&& 31).toUInt32).toInt32) &&& (255 : Int32)).toUInt32.toUInt16.toUInt32.toInt32)), .val (.int ((((x.toUInt32 >>> ((16 : Int32) &&& 31).toUInt32).toInt32) &&& (255 : Int32)).toUInt32.toUInt16.toUInt32.toInt32))] [(.ref b9)])) _
        exact retA X14 hx Bd.returns rfl rfl (hb hby dM_62) hr
      · show QM Z n x G1 h0 n0 _ T14.heap _
        exact ⟨⟨_, _, ([x &&& 255] : List Int32), rfl, hnK.symm, Nat.le_of_ble_eq_true rfl, D5, C5, F5, ⟨_, V5⟩, hp, (Nat.le_of_ble_eq_true rfl)⟩, Fr.app Nf N5, hKp.trans K5 (fun x hx => by cases List.mem_singleton.mp hx; exact Or.inr zs)⟩
      · show CHr Z consts_1 s.vm s.heap T14.vm T14.heap
        rw [hh, ← hV0]
        exact hR.trans (CHv.at X14 hZ hEL hR.1)
    · have c15 : Steps p.tables e below S0 (s₁.setTop (mkF m 65 #[.val (.int n), .val (.int x), .val (.int ((x &&& (255 : Int32)).toUInt32.toUInt16.toUInt32.toInt32)), .val (.int ((((x.toUInt32 >>> ((8 : Int32) &&& 31).toUInt32).toInt32) &&& (255 : Int32)).toUInt32.toUInt16.toUInt32.toInt32)), .val (.int ((((x.toUInt32 >>> ((16 : Int32) &&& 31).toUInt32).toInt32) &&& (255 : Int32)).toUInt32.toUInt16.toUInt32.toInt32))] [(.int (2 : Int32)), (.int n)])) := by
        refine c7.trans ?_
        show Steps p.tables e below (s₁.setTop (mkF m 45 #[.val (.int n), .val (.int x), .val (.int ((x &&& (255 : Int32)).toUInt32.toUInt16.toUInt32.toInt32)), .val (.int ((((x.toUInt32 >>> ((8 : Int32) &&& 31).toUInt32).toInt32) &&& (255 : Int32)).toUInt32.toUInt16.toUInt32.toInt32)), .val (.int ((((x.toUInt32 >>> ((16 : Int32) &&& 31).toUInt32).toInt32) &&& (255 : Int32)).toUInt32.toUInt16.toUInt32.toInt32))] [(.int (1 : Int32)), (.int n)])) _
        refine XS.icmpYes Xs.here hx rfl (pc0 := 45) (pc' := 63) rfl (hb hby dM_45) rfl (feq hnK).2 (by decide) (by decide) ?_
        show Steps p.tables e below (s₁.setTop (mkF m 63 #[.val (.int n), .val (.int x), .val (.int ((x &&& (255 : Int32)).toUInt32.toUInt16.toUInt32.toInt32)), .val (.int ((((x.toUInt32 >>> ((8 : Int32) &&& 31).toUInt32).toInt32) &&& (255 : Int32)).toUInt32.toUInt16.toUInt32.toInt32)), .val (.int ((((x.toUInt32 >>> ((16 : Int32) &&& 31).toUInt32).toInt32) &&& (255 : Int32)).toUInt32.toUInt16.toUInt32.toInt32))] [])) _
        refine XS.iloadN Xs.here hx rfl (hb hby dM_63) rfl ?_
        show Steps p.tables e below (s₁.setTop (mkF m 64 #[.val (.int n), .val (.int x), .val (.int ((x &&& (255 : Int32)).toUInt32.toUInt16.toUInt32.toInt32)), .val (.int ((((x.toUInt32 >>> ((8 : Int32) &&& 31).toUInt32).toInt32) &&& (255 : Int32)).toUInt32.toUInt16.toUInt32.toInt32)), .val (.int ((((x.toUInt32 >>> ((16 : Int32) &&& 31).toUInt32).toInt32) &&& (255 : Int32)).toUInt32.toUInt16.toUInt32.toInt32))] [(.int n)])) _
        refine XS.iconst Xs.here hx rfl (hb hby dM_64) ?_
        exact Steps.refl _
      have hn1 := hnK
      clear hnK
      by_cases hnK : n = 2
      · have c16 : Steps p.tables e below S0 (s₁.setTop (mkF m 68 #[.val (.int n), .val (.int x), .val (.int ((x &&& (255 : Int32)).toUInt32.toUInt16.toUInt32.toInt32)), .val (.int ((((x.toUInt32 >>> ((8 : Int32) &&& 31).toUInt32).toInt32) &&& (255 : Int32)).toUInt32.toUInt16.toUInt32.toInt32)), .val (.int ((((x.toUInt32 >>> ((16 : Int32) &&& 31).toUInt32).toInt32) &&& (255 : Int32)).toUInt32.toUInt16.toUInt32.toInt32))] [])) := by
          refine c15.trans ?_
          show Steps p.tables e below (s₁.setTop (mkF m 65 #[.val (.int n), .val (.int x), .val (.int ((x &&& (255 : Int32)).toUInt32.toUInt16.toUInt32.toInt32)), .val (.int ((((x.toUInt32 >>> ((8 : Int32) &&& 31).toUInt32).toInt32) &&& (255 : Int32)).toUInt32.toUInt16.toUInt32.toInt32)), .val (.int ((((x.toUInt32 >>> ((16 : Int32) &&& 31).toUInt32).toInt32) &&& (255 : Int32)).toUInt32.toUInt16.toUInt32.toInt32))] [(.int (2 : Int32)), (.int n)])) _
          refine XS.icmpNo Xs.here hx rfl (hb hby dM_65) rfl (teq hnK).2 ?_
          exact Steps.refl _
        obtain ⟨T17, h17, X17, e17, E17, A17, D17, -, st17⟩ := newO Xs hx hZ hown (hw _ (List.mem_of_getElem? (i := 4) rfl)) (hw _ (List.mem_of_getElem? (i := 5) rfl)) (hw _ (List.mem_of_getElem? (i := 6) rfl)) e0 (g := (mkF m 68 #[.val (.int n), .val (.int x), .val (.int ((x &&& (255 : Int32)).toUInt32.toUInt16.toUInt32.toInt32)), .val (.int ((((x.toUInt32 >>> ((8 : Int32) &&& 31).toUInt32).toInt32) &&& (255 : Int32)).toUInt32.toUInt16.toUInt32.toInt32)), .val (.int ((((x.toUInt32 >>> ((16 : Int32) &&& 31).toUInt32).toInt32) &&& (255 : Int32)).toUInt32.toUInt16.toUInt32.toInt32))] [])) rfl (hb hby dM_68) (by decide) (by decide)
        obtain ⟨b17, g17⟩ : ∃ z, z = h0.size := ⟨_, rfl⟩
        rw [← g17] at A17 D17 st17
        have c17 : Steps p.tables e below S0 (T17.setTop (mkF m 71 #[.val (.int n), .val (.int x), .val (.int ((x &&& (255 : Int32)).toUInt32.toUInt16.toUInt32.toInt32)), .val (.int ((((x.toUInt32 >>> ((8 : Int32) &&& 31).toUInt32).toInt32) &&& (255 : Int32)).toUInt32.toUInt16.toUInt32.toInt32)), .val (.int ((((x.toUInt32 >>> ((16 : Int32) &&& 31).toUInt32).toInt32) &&& (255 : Int32)).toUInt32.toUInt16.toUInt32.toInt32))] [(.ref b17)])) := by
          refine c16.trans ?_
          show Steps p.tables e below (s₁.setTop (mkF m 68 #[.val (.int n), .val (.int x), .val (.int ((x &&& (255 : Int32)).toUInt32.toUInt16.toUInt32.toInt32)), .val (.int ((((x.toUInt32 >>> ((8 : Int32) &&& 31).toUInt32).toInt32) &&& (255 : Int32)).toUInt32.toUInt16.toUInt32.toInt32)), .val (.int ((((x.toUInt32 >>> ((16 : Int32) &&& 31).toUInt32).toInt32) &&& (255 : Int32)).toUInt32.toUInt16.toUInt32.toInt32))] [])) _
          refine st17 _ ?_
          exact Steps.refl _
        have Sf_b17 := Safe.ext E17 hR.1 (Safe.new (Nat.le_of_eq g17.symm))
        have gb17 : n0 ≤ b17 := Nat.le_trans Zh (Nat.le_of_eq g17.symm)
        have hRs17 := CHr.ext E17 hR.1
        have hR := hR.trans hRs17
        have Zh := Nat.le_trans Zh E17.1
        have hk := Nat.le_trans hk E17.1
        have Fv : Fld Z h17 b17 "java/lang/String" "value" "[B" .null := D17 (Or.inr (hw _ (List.mem_of_getElem? (i := 33) rfl))) (ty := (.array .byte)) (by decide)
        have Fc : Fld Z h17 b17 "java/lang/String" "coder" "B" (.int 0) := D17 (Or.inr (hw _ (List.mem_of_getElem? (i := 31) rfl))) (ty := .byte) (by decide)
        have zs : h0.size ≤ b17 := Nat.le_of_eq g17.symm
        have hO := hO.ext E17
        have hKp := hKp.ext E17
        have c18 : Steps p.tables e below S0 (T17.setTop (mkF m 73 #[.val (.int n), .val (.int x), .val (.int ((x &&& (255 : Int32)).toUInt32.toUInt16.toUInt32.toInt32)), .val (.int ((((x.toUInt32 >>> ((8 : Int32) &&& 31).toUInt32).toInt32) &&& (255 : Int32)).toUInt32.toUInt16.toUInt32.toInt32)), .val (.int ((((x.toUInt32 >>> ((16 : Int32) &&& 31).toUInt32).toInt32) &&& (255 : Int32)).toUInt32.toUInt16.toUInt32.toInt32))] [(.int (2 : Int32)), (.ref b17), (.ref b17)])) := by
          refine c17.trans ?_
          show Steps p.tables e below (T17.setTop (mkF m 71 #[.val (.int n), .val (.int x), .val (.int ((x &&& (255 : Int32)).toUInt32.toUInt16.toUInt32.toInt32)), .val (.int ((((x.toUInt32 >>> ((8 : Int32) &&& 31).toUInt32).toInt32) &&& (255 : Int32)).toUInt32.toUInt16.toUInt32.toInt32)), .val (.int ((((x.toUInt32 >>> ((16 : Int32) &&& 31).toUInt32).toInt32) &&& (255 : Int32)).toUInt32.toUInt16.toUInt32.toInt32))] [(.ref b17)])) _
          refine XS.dup X17.here hx rfl (hb hby dM_71) rfl rfl ?_
          show Steps p.tables e below (T17.setTop (mkF m 72 #[.val (.int n), .val (.int x), .val (.int ((x &&& (255 : Int32)).toUInt32.toUInt16.toUInt32.toInt32)), .val (.int ((((x.toUInt32 >>> ((8 : Int32) &&& 31).toUInt32).toInt32) &&& (255 : Int32)).toUInt32.toUInt16.toUInt32.toInt32)), .val (.int ((((x.toUInt32 >>> ((16 : Int32) &&& 31).toUInt32).toInt32) &&& (255 : Int32)).toUInt32.toUInt16.toUInt32.toInt32))] [(.ref b17), (.ref b17)])) _
          refine XS.iconst X17.here hx rfl (hb hby dM_72) ?_
          exact Steps.refl _
        obtain ⟨T19, h19, kA19, X19, e19, E19, A19, st19⟩ := newP X17 hx hZ (hw _ (List.mem_of_getElem? (i := 7) rfl)) e17 (g := (mkF m 73 #[.val (.int n), .val (.int x), .val (.int ((x &&& (255 : Int32)).toUInt32.toUInt16.toUInt32.toInt32)), .val (.int ((((x.toUInt32 >>> ((8 : Int32) &&& 31).toUInt32).toInt32) &&& (255 : Int32)).toUInt32.toUInt16.toUInt32.toInt32)), .val (.int ((((x.toUInt32 >>> ((16 : Int32) &&& 31).toUInt32).toInt32) &&& (255 : Int32)).toUInt32.toUInt16.toUInt32.toInt32))] [(.int (2 : Int32)), (.ref b17), (.ref b17)])) rfl (hb hby dM_73) rfl (by decide : ¬ ((2 : Int32) < (0 : Int32))) (cap := 2) (by decide) (by decide) (by decide) (by decide)
        obtain ⟨b19, g19⟩ : ∃ z, z = h17.size := ⟨_, rfl⟩
        rw [← g19] at A19 st19
        have c19 : Steps p.tables e below S0 (T19.setTop (mkF m 75 #[.val (.int n), .val (.int x), .val (.int ((x &&& (255 : Int32)).toUInt32.toUInt16.toUInt32.toInt32)), .val (.int ((((x.toUInt32 >>> ((8 : Int32) &&& 31).toUInt32).toInt32) &&& (255 : Int32)).toUInt32.toUInt16.toUInt32.toInt32)), .val (.int ((((x.toUInt32 >>> ((16 : Int32) &&& 31).toUInt32).toInt32) &&& (255 : Int32)).toUInt32.toUInt16.toUInt32.toInt32))] [(.ref b19), (.ref b17), (.ref b17)])) := by
          refine c18.trans ?_
          show Steps p.tables e below (T17.setTop (mkF m 73 #[.val (.int n), .val (.int x), .val (.int ((x &&& (255 : Int32)).toUInt32.toUInt16.toUInt32.toInt32)), .val (.int ((((x.toUInt32 >>> ((8 : Int32) &&& 31).toUInt32).toInt32) &&& (255 : Int32)).toUInt32.toUInt16.toUInt32.toInt32)), .val (.int ((((x.toUInt32 >>> ((16 : Int32) &&& 31).toUInt32).toInt32) &&& (255 : Int32)).toUInt32.toUInt16.toUInt32.toInt32))] [(.int (2 : Int32)), (.ref b17), (.ref b17)])) _
          refine st19 _ ?_
          exact Steps.refl _
        have V19 := Arv.new A19 (by decide)
        have zb : h0.size ≤ b19 := Nat.le_trans hKp.1 (Nat.le_of_eq g19.symm)
        have Sf_b19 := Safe.ext E19 hR.1 (Safe.new (Nat.le_of_eq g19.symm))
        have gb19 : n0 ≤ b19 := Nat.le_trans Zh (Nat.le_of_eq g19.symm)
        have hRs19 := CHr.ext E19 hR.1
        have hR := hR.trans hRs19
        have Zh := Nat.le_trans Zh E19.1
        have hk := Nat.le_trans hk E19.1
        have hO := hO.ext E19
        have hKp := hKp.ext E19
        have Sf_b17 := hRs19.safe A17.lt Sf_b17
        have Es := A17.ext E19
        have Fv := Fv.ext E19
        have Fc := Fc.ext E19
        have nsa : b17 ≠ b19 := Es.neArv V19 (hw _ (List.mem_of_getElem? (i := 5) rfl))
        have c20 : Steps p.tables e below S0 (T19.setTop (mkF m 78 #[.val (.int n), .val (.int x), .val (.int ((x &&& (255 : Int32)).toUInt32.toUInt16.toUInt32.toInt32)), .val (.int ((((x.toUInt32 >>> ((8 : Int32) &&& 31).toUInt32).toInt32) &&& (255 : Int32)).toUInt32.toUInt16.toUInt32.toInt32)), .val (.int ((((x.toUInt32 >>> ((16 : Int32) &&& 31).toUInt32).toInt32) &&& (255 : Int32)).toUInt32.toUInt16.toUInt32.toInt32))] [(.int ((x &&& (255 : Int32)).toUInt32.toUInt16.toUInt32.toInt32)), (.int (0 : Int32)), (.ref b19), (.ref b19), (.ref b17), (.ref b17)])) := by
          refine c19.trans ?_
          show Steps p.tables e below (T19.setTop (mkF m 75 #[.val (.int n), .val (.int x), .val (.int ((x &&& (255 : Int32)).toUInt32.toUInt16.toUInt32.toInt32)), .val (.int ((((x.toUInt32 >>> ((8 : Int32) &&& 31).toUInt32).toInt32) &&& (255 : Int32)).toUInt32.toUInt16.toUInt32.toInt32)), .val (.int ((((x.toUInt32 >>> ((16 : Int32) &&& 31).toUInt32).toInt32) &&& (255 : Int32)).toUInt32.toUInt16.toUInt32.toInt32))] [(.ref b19), (.ref b17), (.ref b17)])) _
          refine XS.dup X19.here hx rfl (hb hby dM_75) rfl rfl ?_
          show Steps p.tables e below (T19.setTop (mkF m 76 #[.val (.int n), .val (.int x), .val (.int ((x &&& (255 : Int32)).toUInt32.toUInt16.toUInt32.toInt32)), .val (.int ((((x.toUInt32 >>> ((8 : Int32) &&& 31).toUInt32).toInt32) &&& (255 : Int32)).toUInt32.toUInt16.toUInt32.toInt32)), .val (.int ((((x.toUInt32 >>> ((16 : Int32) &&& 31).toUInt32).toInt32) &&& (255 : Int32)).toUInt32.toUInt16.toUInt32.toInt32))] [(.ref b19), (.ref b19), (.ref b17), (.ref b17)])) _
          refine XS.iconst X19.here hx rfl (hb hby dM_76) ?_
          show Steps p.tables e below (T19.setTop (mkF m 77 #[.val (.int n), .val (.int x), .val (.int ((x &&& (255 : Int32)).toUInt32.toUInt16.toUInt32.toInt32)), .val (.int ((((x.toUInt32 >>> ((8 : Int32) &&& 31).toUInt32).toInt32) &&& (255 : Int32)).toUInt32.toUInt16.toUInt32.toInt32)), .val (.int ((((x.toUInt32 >>> ((16 : Int32) &&& 31).toUInt32).toInt32) &&& (255 : Int32)).toUInt32.toUInt16.toUInt32.toInt32))] [(.int (0 : Int32)), (.ref b19), (.ref b19), (.ref b17), (.ref b17)])) _
          refine XS.iloadN X19.here hx rfl (hb hby dM_77) rfl ?_
          exact Steps.refl _
        have Vp21 : Arv Z _ b19 kA19 .char (2 : Int32) [(.int 0)] (.int 0) := V19.pad (pad_rep [] (.int 0) 1)
        obtain ⟨cl21, Ar21, qr21, S21, M21, Hs21, U21⟩ := Vp21
        obtain ⟨T21, h21, X21, e21, W21, st21⟩ := stC X19 hx hZ e19 Ar21 (j := (0 : Int32)) (inb_of S21 ⟨(by decide), (by decide)⟩) (g := (mkF m 78 #[.val (.int n), .val (.int x), .val (.int ((x &&& (255 : Int32)).toUInt32.toUInt16.toUInt32.toInt32)), .val (.int ((((x.toUInt32 >>> ((8 : Int32) &&& 31).toUInt32).toInt32) &&& (255 : Int32)).toUInt32.toUInt16.toUInt32.toInt32)), .val (.int ((((x.toUInt32 >>> ((16 : Int32) &&& 31).toUInt32).toInt32) &&& (255 : Int32)).toUInt32.toUInt16.toUInt32.toInt32))] [(.int ((x &&& (255 : Int32)).toUInt32.toUInt16.toUInt32.toInt32)), (.int (0 : Int32)), (.ref b19), (.ref b19), (.ref b17), (.ref b17)])) rfl rfl (hb hby dM_78)
        have V21 : Arv Z h21 b19 kA19 .char (2 : Int32) [(.int (nar .char ((x &&& (255 : Int32)).toUInt32.toUInt16.toUInt32.toInt32)))] (.int 0) := Arv.set Ar21 qr21 S21 M21 Hs21 U21 (fits_nar_char _) W21 0 rfl (Nat.le_of_ble_eq_true rfl)
        have c21 : Steps p.tables e below S0 (T21.setTop (mkF m 79 #[.val (.int n), .val (.int x), .val (.int ((x &&& (255 : Int32)).toUInt32.toUInt16.toUInt32.toInt32)), .val (.int ((((x.toUInt32 >>> ((8 : Int32) &&& 31).toUInt32).toInt32) &&& (255 : Int32)).toUInt32.toUInt16.toUInt32.toInt32)), .val (.int ((((x.toUInt32 >>> ((16 : Int32) &&& 31).toUInt32).toInt32) &&& (255 : Int32)).toUInt32.toUInt16.toUInt32.toInt32))] [(.ref b19), (.ref b17), (.ref b17)])) := by
          refine c20.trans ?_
          show Steps p.tables e below (T19.setTop (mkF m 78 #[.val (.int n), .val (.int x), .val (.int ((x &&& (255 : Int32)).toUInt32.toUInt16.toUInt32.toInt32)), .val (.int ((((x.toUInt32 >>> ((8 : Int32) &&& 31).toUInt32).toInt32) &&& (255 : Int32)).toUInt32.toUInt16.toUInt32.toInt32)), .val (.int ((((x.toUInt32 >>> ((16 : Int32) &&& 31).toUInt32).toInt32) &&& (255 : Int32)).toUInt32.toUInt16.toUInt32.toInt32))] [(.int ((x &&& (255 : Int32)).toUInt32.toUInt16.toUInt32.toInt32)), (.int (0 : Int32)), (.ref b19), (.ref b19), (.ref b17), (.ref b17)])) _
          refine st21 _ ?_
          exact Steps.refl _
        have Nf := Fr.snoc X21 Nf gb19
        have hO := hO.wr W21 gb19
        have hKp := hKp.wr W21 (Or.inr zb)
        have hRs21 := CHr.wr W21 Sf_b19 hR.1
        have hR := hR.trans hRs21
        have Zh := Nat.le_trans Zh (Nat.le_of_eq (own_wsz W21).symm)
        have hk := Nat.le_trans hk (Nat.le_of_eq (own_wsz W21).symm)
        have Sf_b19 := hRs21.safe V19.lt Sf_b19
        have Sf_b17 := hRs21.safe Es.lt Sf_b17
        have Es := Es.wr W21
        have Fv := Fv.other W21 (Or.inl nsa)
        have Fc := Fc.other W21 (Or.inl nsa)
        have c22 : Steps p.tables e below S0 (T21.setTop (mkF m 82 #[.val (.int n), .val (.int x), .val (.int ((x &&& (255 : Int32)).toUInt32.toUInt16.toUInt32.toInt32)), .val (.int ((((x.toUInt32 >>> ((8 : Int32) &&& 31).toUInt32).toInt32) &&& (255 : Int32)).toUInt32.toUInt16.toUInt32.toInt32)), .val (.int ((((x.toUInt32 >>> ((16 : Int32) &&& 31).toUInt32).toInt32) &&& (255 : Int32)).toUInt32.toUInt16.toUInt32.toInt32))] [(.int ((((x.toUInt32 >>> ((8 : Int32) &&& 31).toUInt32).toInt32) &&& (255 : Int32)).toUInt32.toUInt16.toUInt32.toInt32)), (.int (1 : Int32)), (.ref b19), (.ref b19), (.ref b17), (.ref b17)])) := by
          refine c21.trans ?_
          show Steps p.tables e below (T21.setTop (mkF m 79 #[.val (.int n), .val (.int x), .val (.int ((x &&& (255 : Int32)).toUInt32.toUInt16.toUInt32.toInt32)), .val (.int ((((x.toUInt32 >>> ((8 : Int32) &&& 31).toUInt32).toInt32) &&& (255 : Int32)).toUInt32.toUInt16.toUInt32.toInt32)), .val (.int ((((x.toUInt32 >>> ((16 : Int32) &&& 31).toUInt32).toInt32) &&& (255 : Int32)).toUInt32.toUInt16.toUInt32.toInt32))] [(.ref b19), (.ref b17), (.ref b17)])) _
          refine XS.dup X21.here hx rfl (hb hby dM_79) rfl rfl ?_
          show Steps p.tables e below (T21.setTop (mkF m 80 #[.val (.int n), .val (.int x), .val (.int ((x &&& (255 : Int32)).toUInt32.toUInt16.toUInt32.toInt32)), .val (.int ((((x.toUInt32 >>> ((8 : Int32) &&& 31).toUInt32).toInt32) &&& (255 : Int32)).toUInt32.toUInt16.toUInt32.toInt32)), .val (.int ((((x.toUInt32 >>> ((16 : Int32) &&& 31).toUInt32).toInt32) &&& (255 : Int32)).toUInt32.toUInt16.toUInt32.toInt32))] [(.ref b19), (.ref b19), (.ref b17), (.ref b17)])) _
          refine XS.iconst X21.here hx rfl (hb hby dM_80) ?_
          show Steps p.tables e below (T21.setTop (mkF m 81 #[.val (.int n), .val (.int x), .val (.int ((x &&& (255 : Int32)).toUInt32.toUInt16.toUInt32.toInt32)), .val (.int ((((x.toUInt32 >>> ((8 : Int32) &&& 31).toUInt32).toInt32) &&& (255 : Int32)).toUInt32.toUInt16.toUInt32.toInt32)), .val (.int ((((x.toUInt32 >>> ((16 : Int32) &&& 31).toUInt32).toInt32) &&& (255 : Int32)).toUInt32.toUInt16.toUInt32.toInt32))] [(.int (1 : Int32)), (.ref b19), (.ref b19), (.ref b17), (.ref b17)])) _
          refine XS.iloadN X21.here hx rfl (hb hby dM_81) rfl ?_
          exact Steps.refl _
        have Vp23 : Arv Z _ b19 kA19 .char (2 : Int32) [(.int (nar .char ((x &&& (255 : Int32)).toUInt32.toUInt16.toUInt32.toInt32))), (.int 0)] (.int 0) := V21.pad (pad_rep [(.int (nar .char ((x &&& (255 : Int32)).toUInt32.toUInt16.toUInt32.toInt32)))] (.int 0) 1)
        obtain ⟨cl23, Ar23, qr23, S23, M23, Hs23, U23⟩ := Vp23
        obtain ⟨T23, h23, X23, e23, W23, st23⟩ := stC X21 hx hZ e21 Ar23 (j := (1 : Int32)) (inb_of S23 ⟨(by decide), (by decide)⟩) (g := (mkF m 82 #[.val (.int n), .val (.int x), .val (.int ((x &&& (255 : Int32)).toUInt32.toUInt16.toUInt32.toInt32)), .val (.int ((((x.toUInt32 >>> ((8 : Int32) &&& 31).toUInt32).toInt32) &&& (255 : Int32)).toUInt32.toUInt16.toUInt32.toInt32)), .val (.int ((((x.toUInt32 >>> ((16 : Int32) &&& 31).toUInt32).toInt32) &&& (255 : Int32)).toUInt32.toUInt16.toUInt32.toInt32))] [(.int ((((x.toUInt32 >>> ((8 : Int32) &&& 31).toUInt32).toInt32) &&& (255 : Int32)).toUInt32.toUInt16.toUInt32.toInt32)), (.int (1 : Int32)), (.ref b19), (.ref b19), (.ref b17), (.ref b17)])) rfl rfl (hb hby dM_82)
        have V23 : Arv Z h23 b19 kA19 .char (2 : Int32) [(.int (nar .char ((x &&& (255 : Int32)).toUInt32.toUInt16.toUInt32.toInt32))), (.int (nar .char ((((x.toUInt32 >>> ((8 : Int32) &&& 31).toUInt32).toInt32) &&& (255 : Int32)).toUInt32.toUInt16.toUInt32.toInt32)))] (.int 0) := Arv.set Ar23 qr23 S23 M23 Hs23 U23 (fits_nar_char _) W23 1 rfl (Nat.le_of_ble_eq_true rfl)
        have c23 : Steps p.tables e below S0 (T23.setTop (mkF m 83 #[.val (.int n), .val (.int x), .val (.int ((x &&& (255 : Int32)).toUInt32.toUInt16.toUInt32.toInt32)), .val (.int ((((x.toUInt32 >>> ((8 : Int32) &&& 31).toUInt32).toInt32) &&& (255 : Int32)).toUInt32.toUInt16.toUInt32.toInt32)), .val (.int ((((x.toUInt32 >>> ((16 : Int32) &&& 31).toUInt32).toInt32) &&& (255 : Int32)).toUInt32.toUInt16.toUInt32.toInt32))] [(.ref b19), (.ref b17), (.ref b17)])) := by
          refine c22.trans ?_
          show Steps p.tables e below (T21.setTop (mkF m 82 #[.val (.int n), .val (.int x), .val (.int ((x &&& (255 : Int32)).toUInt32.toUInt16.toUInt32.toInt32)), .val (.int ((((x.toUInt32 >>> ((8 : Int32) &&& 31).toUInt32).toInt32) &&& (255 : Int32)).toUInt32.toUInt16.toUInt32.toInt32)), .val (.int ((((x.toUInt32 >>> ((16 : Int32) &&& 31).toUInt32).toInt32) &&& (255 : Int32)).toUInt32.toUInt16.toUInt32.toInt32))] [(.int ((((x.toUInt32 >>> ((8 : Int32) &&& 31).toUInt32).toInt32) &&& (255 : Int32)).toUInt32.toUInt16.toUInt32.toInt32)), (.int (1 : Int32)), (.ref b19), (.ref b19), (.ref b17), (.ref b17)])) _
          refine st23 _ ?_
          exact Steps.refl _
        have Nf := Fr.snoc X23 Nf gb19
        have hO := hO.wr W23 gb19
        have hKp := hKp.wr W23 (Or.inr zb)
        have hRs23 := CHr.wr W23 Sf_b19 hR.1
        have hR := hR.trans hRs23
        have Zh := Nat.le_trans Zh (Nat.le_of_eq (own_wsz W23).symm)
        have hk := Nat.le_trans hk (Nat.le_of_eq (own_wsz W23).symm)
        have Sf_b19 := hRs23.safe V21.lt Sf_b19
        have Sf_b17 := hRs23.safe Es.lt Sf_b17
        have Es := Es.wr W23
        have Fv := Fv.other W23 (Or.inl nsa)
        have Fc := Fc.other W23 (Or.inl nsa)
        have hws : ∀ d ∈ StrChars.Road.words, d.before a0 Z = true := fun d hd => hw d ((by decide +kernel : ∀ d ∈ StrChars.Road.words, d ∈ tables_1) d hd)
        have hp : ∀ c ∈ ([x &&& 255, (x.toUInt32 >>> ((8 : Int32) &&& 31).toUInt32).toInt32 &&& 255] : List Int32), ¬ c < 0 ∧ ¬ (255 : Int32) < c := by
          intro c hc
          simp only [List.mem_cons, List.not_mem_nil, or_false] at hc
          rcases hc with rfl | rfl
          · exact own_m255 _
          · exact own_m255 _
        have Vc : Arv Z h23 b19 kA19 .char (2 : Int32) (([x &&& 255, (x.toUInt32 >>> ((8 : Int32) &&& 31).toUInt32).toInt32 &&& 255] : List Int32).map Value.int) (.int 0) := by
          have := V23
          rw [own_nar, own_nar] at this; exact this
        obtain ⟨_, _, ⟨T24, L24, k24, n24⟩, -, X24, ⟨Lc24, hQ24, l24, y24, z24⟩, st24⟩ := X23.specialBack hx (y := (⟨"java/lang/String", "<init>", "([C)V"⟩ : MethodName)) rfl hown (mvT hZ (hw _ (List.mem_of_getElem? (i := 8) rfl))) (mvT hZ (hw _ (List.mem_of_getElem? (i := 9) rfl))) (mvT hZ (hw _ (List.mem_of_getElem? (i := 10) rfl))) (by decide) (StrChars.Road.backV (W := 1) hZ hws (kI := 4) (hw _ (List.mem_of_getElem? (i := 5) rfl)) (cs := ([x &&& 255, (x.toUInt32 >>> ((8 : Int32) &&& 31).toUInt32).toInt32 &&& 255] : List Int32)) (bs := ([x &&& 255, (x.toUInt32 >>> ((8 : Int32) &&& 31).toUInt32).toInt32 &&& 255] : List Int32).map (fun c => c.toInt8.toInt32)) (n := 2) gb17 Zh Es Fv Fc Vc (O2.ext hO.2) P5 rfl rfl (by decide) (by decide) hp rfl (by decide) (by decide)) (g := (mkF m 83 #[.val (.int n), .val (.int x), .val (.int ((x &&& (255 : Int32)).toUInt32.toUInt16.toUInt32.toInt32)), .val (.int ((((x.toUInt32 >>> ((8 : Int32) &&& 31).toUInt32).toInt32) &&& (255 : Int32)).toUInt32.toUInt16.toUInt32.toInt32)), .val (.int ((((x.toUInt32 >>> ((16 : Int32) &&& 31).toUInt32).toInt32) &&& (255 : Int32)).toUInt32.toUInt16.toUInt32.toInt32))] [(.ref b19), (.ref b17), (.ref b17)])) rfl (by rw [hml]; rfl) (Steps.refl _) (a := b17) (argsL := [(.ref b19)]) (rest := [(.ref b17)]) (lenOf pd18 rfl) rfl (by show 2 * 0 + _ ≤ _; exact Nat.le_of_eq rfl) (hb hby dM_83) (fun _ _ => ⟨rfl, e23, (by decide : 2 + 1 ≤ _), (by decide : 6 + 2 ≤ _)⟩)
        dsimp only [Pt.U, Pt.locs, Pt.cells, Pt.slots] at X24 l24 y24 z24 st24 hQ24
        subst l24 y24 z24
        obtain ⟨rfl, N5, K5, D5, C5, t5, k5, -, -, -, F5, V5⟩ := hQ24
        have c24 : Steps p.tables e below S0 (T24.setTop (mkF m 86 #[.val (.int n), .val (.int x), .val (.int ((x &&& (255 : Int32)).toUInt32.toUInt16.toUInt32.toInt32)), .val (.int ((((x.toUInt32 >>> ((8 : Int32) &&& 31).toUInt32).toInt32) &&& (255 : Int32)).toUInt32.toUInt16.toUInt32.toInt32)), .val (.int ((((x.toUInt32 >>> ((16 : Int32) &&& 31).toUInt32).toInt32) &&& (255 : Int32)).toUInt32.toUInt16.toUInt32.toInt32))] [(.ref b17)])) := by
          refine c23.trans ?_
          show Steps p.tables e below (T23.setTop (mkF m 83 #[.val (.int n), .val (.int x), .val (.int ((x &&& (255 : Int32)).toUInt32.toUInt16.toUInt32.toInt32)), .val (.int ((((x.toUInt32 >>> ((8 : Int32) &&& 31).toUInt32).toInt32) &&& (255 : Int32)).toUInt32.toUInt16.toUInt32.toInt32)), .val (.int ((((x.toUInt32 >>> ((16 : Int32) &&& 31).toUInt32).toInt32) &&& (255 : Int32)).toUInt32.toUInt16.toUInt32.toInt32))] [(.ref b19), (.ref b17), (.ref b17)])) _
          refine st24.trans ?_
          exact Steps.refl _
        have hRs24 := CHr.keep K5 (fun x hx => by cases List.mem_singleton.mp hx; exact Sf_b17) hR.1
        have hR := hR.trans hRs24
        have Zh := Nat.le_trans Zh K5.1
        have hk := Nat.le_trans hk K5.1
        obtain ⟨fs, hr, hrun, hended, hW⟩ := X24.leaveW hS hk (v := some (.ref b17)) (fun h => by rw [Bd.returns] at h; cases h)
        refine ⟨_, _, c24.trans ?_, hrun, hended, _, _, rfl, ?_, ?_, hW.1, hW.2.1, hW.2.2.1, hW.2.2.2.mono (by decide) (by decide)⟩
        · show Steps p.tables e below (T24.setTop (mkF m 86 #[.val (.int n), .val (.int x), .val (.int ((x &&& (255 : Int32)).toUInt32.toUInt16.toUInt32.toInt32)), .val (.int ((((x.toUInt32 >>> ((8 : Int32) &&& 31).toUInt32).toInt32) &&& (255 : Int32)).toUInt32.toUInt16.toUInt32.toInt32)), .val (.int ((((x.toUInt32 >>> ((16 : Int32) &&& 31).toUInt32).toInt32) &&& (255 : Int32)).toUInt32.toUInt16.toUInt32.toInt32))] [(.ref b17)])) _
          exact retA X24 hx Bd.returns rfl rfl (hb hby dM_86) hr
        · show QM Z n x G1 h0 n0 _ T24.heap _
          exact ⟨⟨_, _, ([x &&& 255, (x.toUInt32 >>> ((8 : Int32) &&& 31).toUInt32).toInt32 &&& 255] : List Int32), rfl, hnK.symm, Nat.le_of_ble_eq_true rfl, D5, C5, F5, ⟨_, V5⟩, hp, (Nat.le_of_ble_eq_true rfl)⟩, Fr.app Nf N5, hKp.trans K5 (fun x hx => by cases List.mem_singleton.mp hx; exact Or.inr zs)⟩
        · show CHr Z consts_1 s.vm s.heap T24.vm T24.heap
          rw [hh, ← hV0]
          exact hR.trans (CHv.at X24 hZ hEL hR.1)
      · have c25 : Steps p.tables e below S0 (s₁.setTop (mkF m 87 #[.val (.int n), .val (.int x), .val (.int ((x &&& (255 : Int32)).toUInt32.toUInt16.toUInt32.toInt32)), .val (.int ((((x.toUInt32 >>> ((8 : Int32) &&& 31).toUInt32).toInt32) &&& (255 : Int32)).toUInt32.toUInt16.toUInt32.toInt32)), .val (.int ((((x.toUInt32 >>> ((16 : Int32) &&& 31).toUInt32).toInt32) &&& (255 : Int32)).toUInt32.toUInt16.toUInt32.toInt32))] [])) := by
          refine c15.trans ?_
          show Steps p.tables e below (s₁.setTop (mkF m 65 #[.val (.int n), .val (.int x), .val (.int ((x &&& (255 : Int32)).toUInt32.toUInt16.toUInt32.toInt32)), .val (.int ((((x.toUInt32 >>> ((8 : Int32) &&& 31).toUInt32).toInt32) &&& (255 : Int32)).toUInt32.toUInt16.toUInt32.toInt32)), .val (.int ((((x.toUInt32 >>> ((16 : Int32) &&& 31).toUInt32).toInt32) &&& (255 : Int32)).toUInt32.toUInt16.toUInt32.toInt32))] [(.int (2 : Int32)), (.int n)])) _
          refine XS.icmpYes Xs.here hx rfl (pc0 := 65) (pc' := 87) rfl (hb hby dM_65) rfl (feq hnK).2 (by decide) (by decide) ?_
          exact Steps.refl _
        have hn2 := hnK
        clear hnK
        have hnK : n = 3 := hn.elim (fun q => absurd q hn0) fun hn => hn.elim (fun q => absurd q hn1) fun hn => hn.elim (fun q => absurd q hn2) id
        obtain ⟨T26, h26, X26, e26, E26, A26, D26, -, st26⟩ := newO Xs hx hZ hown (hw _ (List.mem_of_getElem? (i := 4) rfl)) (hw _ (List.mem_of_getElem? (i := 5) rfl)) (hw _ (List.mem_of_getElem? (i := 6) rfl)) e0 (g := (mkF m 87 #[.val (.int n), .val (.int x), .val (.int ((x &&& (255 : Int32)).toUInt32.toUInt16.toUInt32.toInt32)), .val (.int ((((x.toUInt32 >>> ((8 : Int32) &&& 31).toUInt32).toInt32) &&& (255 : Int32)).toUInt32.toUInt16.toUInt32.toInt32)), .val (.int ((((x.toUInt32 >>> ((16 : Int32) &&& 31).toUInt32).toInt32) &&& (255 : Int32)).toUInt32.toUInt16.toUInt32.toInt32))] [])) rfl (hb hby dM_87) (by decide) (by decide)
        obtain ⟨b26, g26⟩ : ∃ z, z = h0.size := ⟨_, rfl⟩
        rw [← g26] at A26 D26 st26
        have c26 : Steps p.tables e below S0 (T26.setTop (mkF m 90 #[.val (.int n), .val (.int x), .val (.int ((x &&& (255 : Int32)).toUInt32.toUInt16.toUInt32.toInt32)), .val (.int ((((x.toUInt32 >>> ((8 : Int32) &&& 31).toUInt32).toInt32) &&& (255 : Int32)).toUInt32.toUInt16.toUInt32.toInt32)), .val (.int ((((x.toUInt32 >>> ((16 : Int32) &&& 31).toUInt32).toInt32) &&& (255 : Int32)).toUInt32.toUInt16.toUInt32.toInt32))] [(.ref b26)])) := by
          refine c25.trans ?_
          show Steps p.tables e below (s₁.setTop (mkF m 87 #[.val (.int n), .val (.int x), .val (.int ((x &&& (255 : Int32)).toUInt32.toUInt16.toUInt32.toInt32)), .val (.int ((((x.toUInt32 >>> ((8 : Int32) &&& 31).toUInt32).toInt32) &&& (255 : Int32)).toUInt32.toUInt16.toUInt32.toInt32)), .val (.int ((((x.toUInt32 >>> ((16 : Int32) &&& 31).toUInt32).toInt32) &&& (255 : Int32)).toUInt32.toUInt16.toUInt32.toInt32))] [])) _
          refine st26 _ ?_
          exact Steps.refl _
        have Sf_b26 := Safe.ext E26 hR.1 (Safe.new (Nat.le_of_eq g26.symm))
        have gb26 : n0 ≤ b26 := Nat.le_trans Zh (Nat.le_of_eq g26.symm)
        have hRs26 := CHr.ext E26 hR.1
        have hR := hR.trans hRs26
        have Zh := Nat.le_trans Zh E26.1
        have hk := Nat.le_trans hk E26.1
        have Fv : Fld Z h26 b26 "java/lang/String" "value" "[B" .null := D26 (Or.inr (hw _ (List.mem_of_getElem? (i := 33) rfl))) (ty := (.array .byte)) (by decide)
        have Fc : Fld Z h26 b26 "java/lang/String" "coder" "B" (.int 0) := D26 (Or.inr (hw _ (List.mem_of_getElem? (i := 31) rfl))) (ty := .byte) (by decide)
        have zs : h0.size ≤ b26 := Nat.le_of_eq g26.symm
        have hO := hO.ext E26
        have hKp := hKp.ext E26
        have c27 : Steps p.tables e below S0 (T26.setTop (mkF m 92 #[.val (.int n), .val (.int x), .val (.int ((x &&& (255 : Int32)).toUInt32.toUInt16.toUInt32.toInt32)), .val (.int ((((x.toUInt32 >>> ((8 : Int32) &&& 31).toUInt32).toInt32) &&& (255 : Int32)).toUInt32.toUInt16.toUInt32.toInt32)), .val (.int ((((x.toUInt32 >>> ((16 : Int32) &&& 31).toUInt32).toInt32) &&& (255 : Int32)).toUInt32.toUInt16.toUInt32.toInt32))] [(.int (3 : Int32)), (.ref b26), (.ref b26)])) := by
          refine c26.trans ?_
          show Steps p.tables e below (T26.setTop (mkF m 90 #[.val (.int n), .val (.int x), .val (.int ((x &&& (255 : Int32)).toUInt32.toUInt16.toUInt32.toInt32)), .val (.int ((((x.toUInt32 >>> ((8 : Int32) &&& 31).toUInt32).toInt32) &&& (255 : Int32)).toUInt32.toUInt16.toUInt32.toInt32)), .val (.int ((((x.toUInt32 >>> ((16 : Int32) &&& 31).toUInt32).toInt32) &&& (255 : Int32)).toUInt32.toUInt16.toUInt32.toInt32))] [(.ref b26)])) _
          refine XS.dup X26.here hx rfl (hb hby dM_90) rfl rfl ?_
          show Steps p.tables e below (T26.setTop (mkF m 91 #[.val (.int n), .val (.int x), .val (.int ((x &&& (255 : Int32)).toUInt32.toUInt16.toUInt32.toInt32)), .val (.int ((((x.toUInt32 >>> ((8 : Int32) &&& 31).toUInt32).toInt32) &&& (255 : Int32)).toUInt32.toUInt16.toUInt32.toInt32)), .val (.int ((((x.toUInt32 >>> ((16 : Int32) &&& 31).toUInt32).toInt32) &&& (255 : Int32)).toUInt32.toUInt16.toUInt32.toInt32))] [(.ref b26), (.ref b26)])) _
          refine XS.iconst X26.here hx rfl (hb hby dM_91) ?_
          exact Steps.refl _
        obtain ⟨T28, h28, kA28, X28, e28, E28, A28, st28⟩ := newP X26 hx hZ (hw _ (List.mem_of_getElem? (i := 7) rfl)) e26 (g := (mkF m 92 #[.val (.int n), .val (.int x), .val (.int ((x &&& (255 : Int32)).toUInt32.toUInt16.toUInt32.toInt32)), .val (.int ((((x.toUInt32 >>> ((8 : Int32) &&& 31).toUInt32).toInt32) &&& (255 : Int32)).toUInt32.toUInt16.toUInt32.toInt32)), .val (.int ((((x.toUInt32 >>> ((16 : Int32) &&& 31).toUInt32).toInt32) &&& (255 : Int32)).toUInt32.toUInt16.toUInt32.toInt32))] [(.int (3 : Int32)), (.ref b26), (.ref b26)])) rfl (hb hby dM_92) rfl (by decide : ¬ ((3 : Int32) < (0 : Int32))) (cap := 3) (by decide) (by decide) (by decide) (by decide)
        obtain ⟨b28, g28⟩ : ∃ z, z = h26.size := ⟨_, rfl⟩
        rw [← g28] at A28 st28
        have c28 : Steps p.tables e below S0 (T28.setTop (mkF m 94 #[.val (.int n), .val (.int x), .val (.int ((x &&& (255 : Int32)).toUInt32.toUInt16.toUInt32.toInt32)), .val (.int ((((x.toUInt32 >>> ((8 : Int32) &&& 31).toUInt32).toInt32) &&& (255 : Int32)).toUInt32.toUInt16.toUInt32.toInt32)), .val (.int ((((x.toUInt32 >>> ((16 : Int32) &&& 31).toUInt32).toInt32) &&& (255 : Int32)).toUInt32.toUInt16.toUInt32.toInt32))] [(.ref b28), (.ref b26), (.ref b26)])) := by
          refine c27.trans ?_
          show Steps p.tables e below (T26.setTop (mkF m 92 #[.val (.int n), .val (.int x), .val (.int ((x &&& (255 : Int32)).toUInt32.toUInt16.toUInt32.toInt32)), .val (.int ((((x.toUInt32 >>> ((8 : Int32) &&& 31).toUInt32).toInt32) &&& (255 : Int32)).toUInt32.toUInt16.toUInt32.toInt32)), .val (.int ((((x.toUInt32 >>> ((16 : Int32) &&& 31).toUInt32).toInt32) &&& (255 : Int32)).toUInt32.toUInt16.toUInt32.toInt32))] [(.int (3 : Int32)), (.ref b26), (.ref b26)])) _
          refine st28 _ ?_
          exact Steps.refl _
        have V28 := Arv.new A28 (by decide)
        have zb : h0.size ≤ b28 := Nat.le_trans hKp.1 (Nat.le_of_eq g28.symm)
        have Sf_b28 := Safe.ext E28 hR.1 (Safe.new (Nat.le_of_eq g28.symm))
        have gb28 : n0 ≤ b28 := Nat.le_trans Zh (Nat.le_of_eq g28.symm)
        have hRs28 := CHr.ext E28 hR.1
        have hR := hR.trans hRs28
        have Zh := Nat.le_trans Zh E28.1
        have hk := Nat.le_trans hk E28.1
        have hO := hO.ext E28
        have hKp := hKp.ext E28
        have Sf_b26 := hRs28.safe A26.lt Sf_b26
        have Es := A26.ext E28
        have Fv := Fv.ext E28
        have Fc := Fc.ext E28
        have nsa : b26 ≠ b28 := Es.neArv V28 (hw _ (List.mem_of_getElem? (i := 5) rfl))
        have c29 : Steps p.tables e below S0 (T28.setTop (mkF m 97 #[.val (.int n), .val (.int x), .val (.int ((x &&& (255 : Int32)).toUInt32.toUInt16.toUInt32.toInt32)), .val (.int ((((x.toUInt32 >>> ((8 : Int32) &&& 31).toUInt32).toInt32) &&& (255 : Int32)).toUInt32.toUInt16.toUInt32.toInt32)), .val (.int ((((x.toUInt32 >>> ((16 : Int32) &&& 31).toUInt32).toInt32) &&& (255 : Int32)).toUInt32.toUInt16.toUInt32.toInt32))] [(.int ((x &&& (255 : Int32)).toUInt32.toUInt16.toUInt32.toInt32)), (.int (0 : Int32)), (.ref b28), (.ref b28), (.ref b26), (.ref b26)])) := by
          refine c28.trans ?_
          show Steps p.tables e below (T28.setTop (mkF m 94 #[.val (.int n), .val (.int x), .val (.int ((x &&& (255 : Int32)).toUInt32.toUInt16.toUInt32.toInt32)), .val (.int ((((x.toUInt32 >>> ((8 : Int32) &&& 31).toUInt32).toInt32) &&& (255 : Int32)).toUInt32.toUInt16.toUInt32.toInt32)), .val (.int ((((x.toUInt32 >>> ((16 : Int32) &&& 31).toUInt32).toInt32) &&& (255 : Int32)).toUInt32.toUInt16.toUInt32.toInt32))] [(.ref b28), (.ref b26), (.ref b26)])) _
          refine XS.dup X28.here hx rfl (hb hby dM_94) rfl rfl ?_
          show Steps p.tables e below (T28.setTop (mkF m 95 #[.val (.int n), .val (.int x), .val (.int ((x &&& (255 : Int32)).toUInt32.toUInt16.toUInt32.toInt32)), .val (.int ((((x.toUInt32 >>> ((8 : Int32) &&& 31).toUInt32).toInt32) &&& (255 : Int32)).toUInt32.toUInt16.toUInt32.toInt32)), .val (.int ((((x.toUInt32 >>> ((16 : Int32) &&& 31).toUInt32).toInt32) &&& (255 : Int32)).toUInt32.toUInt16.toUInt32.toInt32))] [(.ref b28), (.ref b28), (.ref b26), (.ref b26)])) _
          refine XS.iconst X28.here hx rfl (hb hby dM_95) ?_
          show Steps p.tables e below (T28.setTop (mkF m 96 #[.val (.int n), .val (.int x), .val (.int ((x &&& (255 : Int32)).toUInt32.toUInt16.toUInt32.toInt32)), .val (.int ((((x.toUInt32 >>> ((8 : Int32) &&& 31).toUInt32).toInt32) &&& (255 : Int32)).toUInt32.toUInt16.toUInt32.toInt32)), .val (.int ((((x.toUInt32 >>> ((16 : Int32) &&& 31).toUInt32).toInt32) &&& (255 : Int32)).toUInt32.toUInt16.toUInt32.toInt32))] [(.int (0 : Int32)), (.ref b28), (.ref b28), (.ref b26), (.ref b26)])) _
          refine XS.iloadN X28.here hx rfl (hb hby dM_96) rfl ?_
          exact Steps.refl _
        have Vp30 : Arv Z _ b28 kA28 .char (3 : Int32) [(.int 0)] (.int 0) := V28.pad (pad_rep [] (.int 0) 1)
        obtain ⟨cl30, Ar30, qr30, S30, M30, Hs30, U30⟩ := Vp30
        obtain ⟨T30, h30, X30, e30, W30, st30⟩ := stC X28 hx hZ e28 Ar30 (j := (0 : Int32)) (inb_of S30 ⟨(by decide), (by decide)⟩) (g := (mkF m 97 #[.val (.int n), .val (.int x), .val (.int ((x &&& (255 : Int32)).toUInt32.toUInt16.toUInt32.toInt32)), .val (.int ((((x.toUInt32 >>> ((8 : Int32) &&& 31).toUInt32).toInt32) &&& (255 : Int32)).toUInt32.toUInt16.toUInt32.toInt32)), .val (.int ((((x.toUInt32 >>> ((16 : Int32) &&& 31).toUInt32).toInt32) &&& (255 : Int32)).toUInt32.toUInt16.toUInt32.toInt32))] [(.int ((x &&& (255 : Int32)).toUInt32.toUInt16.toUInt32.toInt32)), (.int (0 : Int32)), (.ref b28), (.ref b28), (.ref b26), (.ref b26)])) rfl rfl (hb hby dM_97)
        have V30 : Arv Z h30 b28 kA28 .char (3 : Int32) [(.int (nar .char ((x &&& (255 : Int32)).toUInt32.toUInt16.toUInt32.toInt32)))] (.int 0) := Arv.set Ar30 qr30 S30 M30 Hs30 U30 (fits_nar_char _) W30 0 rfl (Nat.le_of_ble_eq_true rfl)
        have c30 : Steps p.tables e below S0 (T30.setTop (mkF m 98 #[.val (.int n), .val (.int x), .val (.int ((x &&& (255 : Int32)).toUInt32.toUInt16.toUInt32.toInt32)), .val (.int ((((x.toUInt32 >>> ((8 : Int32) &&& 31).toUInt32).toInt32) &&& (255 : Int32)).toUInt32.toUInt16.toUInt32.toInt32)), .val (.int ((((x.toUInt32 >>> ((16 : Int32) &&& 31).toUInt32).toInt32) &&& (255 : Int32)).toUInt32.toUInt16.toUInt32.toInt32))] [(.ref b28), (.ref b26), (.ref b26)])) := by
          refine c29.trans ?_
          show Steps p.tables e below (T28.setTop (mkF m 97 #[.val (.int n), .val (.int x), .val (.int ((x &&& (255 : Int32)).toUInt32.toUInt16.toUInt32.toInt32)), .val (.int ((((x.toUInt32 >>> ((8 : Int32) &&& 31).toUInt32).toInt32) &&& (255 : Int32)).toUInt32.toUInt16.toUInt32.toInt32)), .val (.int ((((x.toUInt32 >>> ((16 : Int32) &&& 31).toUInt32).toInt32) &&& (255 : Int32)).toUInt32.toUInt16.toUInt32.toInt32))] [(.int ((x &&& (255 : Int32)).toUInt32.toUInt16.toUInt32.toInt32)), (.int (0 : Int32)), (.ref b28), (.ref b28), (.ref b26), (.ref b26)])) _
          refine st30 _ ?_
          exact Steps.refl _
        have Nf := Fr.snoc X30 Nf gb28
        have hO := hO.wr W30 gb28
        have hKp := hKp.wr W30 (Or.inr zb)
        have hRs30 := CHr.wr W30 Sf_b28 hR.1
        have hR := hR.trans hRs30
        have Zh := Nat.le_trans Zh (Nat.le_of_eq (own_wsz W30).symm)
        have hk := Nat.le_trans hk (Nat.le_of_eq (own_wsz W30).symm)
        have Sf_b28 := hRs30.safe V28.lt Sf_b28
        have Sf_b26 := hRs30.safe Es.lt Sf_b26
        have Es := Es.wr W30
        have Fv := Fv.other W30 (Or.inl nsa)
        have Fc := Fc.other W30 (Or.inl nsa)
        have c31 : Steps p.tables e below S0 (T30.setTop (mkF m 101 #[.val (.int n), .val (.int x), .val (.int ((x &&& (255 : Int32)).toUInt32.toUInt16.toUInt32.toInt32)), .val (.int ((((x.toUInt32 >>> ((8 : Int32) &&& 31).toUInt32).toInt32) &&& (255 : Int32)).toUInt32.toUInt16.toUInt32.toInt32)), .val (.int ((((x.toUInt32 >>> ((16 : Int32) &&& 31).toUInt32).toInt32) &&& (255 : Int32)).toUInt32.toUInt16.toUInt32.toInt32))] [(.int ((((x.toUInt32 >>> ((8 : Int32) &&& 31).toUInt32).toInt32) &&& (255 : Int32)).toUInt32.toUInt16.toUInt32.toInt32)), (.int (1 : Int32)), (.ref b28), (.ref b28), (.ref b26), (.ref b26)])) := by
          refine c30.trans ?_
          show Steps p.tables e below (T30.setTop (mkF m 98 #[.val (.int n), .val (.int x), .val (.int ((x &&& (255 : Int32)).toUInt32.toUInt16.toUInt32.toInt32)), .val (.int ((((x.toUInt32 >>> ((8 : Int32) &&& 31).toUInt32).toInt32) &&& (255 : Int32)).toUInt32.toUInt16.toUInt32.toInt32)), .val (.int ((((x.toUInt32 >>> ((16 : Int32) &&& 31).toUInt32).toInt32) &&& (255 : Int32)).toUInt32.toUInt16.toUInt32.toInt32))] [(.ref b28), (.ref b26), (.ref b26)])) _
          refine XS.dup X30.here hx rfl (hb hby dM_98) rfl rfl ?_
          show Steps p.tables e below (T30.setTop (mkF m 99 #[.val (.int n), .val (.int x), .val (.int ((x &&& (255 : Int32)).toUInt32.toUInt16.toUInt32.toInt32)), .val (.int ((((x.toUInt32 >>> ((8 : Int32) &&& 31).toUInt32).toInt32) &&& (255 : Int32)).toUInt32.toUInt16.toUInt32.toInt32)), .val (.int ((((x.toUInt32 >>> ((16 : Int32) &&& 31).toUInt32).toInt32) &&& (255 : Int32)).toUInt32.toUInt16.toUInt32.toInt32))] [(.ref b28), (.ref b28), (.ref b26), (.ref b26)])) _
          refine XS.iconst X30.here hx rfl (hb hby dM_99) ?_
          show Steps p.tables e below (T30.setTop (mkF m 100 #[.val (.int n), .val (.int x), .val (.int ((x &&& (255 : Int32)).toUInt32.toUInt16.toUInt32.toInt32)), .val (.int ((((x.toUInt32 >>> ((8 : Int32) &&& 31).toUInt32).toInt32) &&& (255 : Int32)).toUInt32.toUInt16.toUInt32.toInt32)), .val (.int ((((x.toUInt32 >>> ((16 : Int32) &&& 31).toUInt32).toInt32) &&& (255 : Int32)).toUInt32.toUInt16.toUInt32.toInt32))] [(.int (1 : Int32)), (.ref b28), (.ref b28), (.ref b26), (.ref b26)])) _
          refine XS.iloadN X30.here hx rfl (hb hby dM_100) rfl ?_
          exact Steps.refl _
        have Vp32 : Arv Z _ b28 kA28 .char (3 : Int32) [(.int (nar .char ((x &&& (255 : Int32)).toUInt32.toUInt16.toUInt32.toInt32))), (.int 0)] (.int 0) := V30.pad (pad_rep [(.int (nar .char ((x &&& (255 : Int32)).toUInt32.toUInt16.toUInt32.toInt32)))] (.int 0) 1)
        obtain ⟨cl32, Ar32, qr32, S32, M32, Hs32, U32⟩ := Vp32
        obtain ⟨T32, h32, X32, e32, W32, st32⟩ := stC X30 hx hZ e30 Ar32 (j := (1 : Int32)) (inb_of S32 ⟨(by decide), (by decide)⟩) (g := (mkF m 101 #[.val (.int n), .val (.int x), .val (.int ((x &&& (255 : Int32)).toUInt32.toUInt16.toUInt32.toInt32)), .val (.int ((((x.toUInt32 >>> ((8 : Int32) &&& 31).toUInt32).toInt32) &&& (255 : Int32)).toUInt32.toUInt16.toUInt32.toInt32)), .val (.int ((((x.toUInt32 >>> ((16 : Int32) &&& 31).toUInt32).toInt32) &&& (255 : Int32)).toUInt32.toUInt16.toUInt32.toInt32))] [(.int ((((x.toUInt32 >>> ((8 : Int32) &&& 31).toUInt32).toInt32) &&& (255 : Int32)).toUInt32.toUInt16.toUInt32.toInt32)), (.int (1 : Int32)), (.ref b28), (.ref b28), (.ref b26), (.ref b26)])) rfl rfl (hb hby dM_101)
        have V32 : Arv Z h32 b28 kA28 .char (3 : Int32) [(.int (nar .char ((x &&& (255 : Int32)).toUInt32.toUInt16.toUInt32.toInt32))), (.int (nar .char ((((x.toUInt32 >>> ((8 : Int32) &&& 31).toUInt32).toInt32) &&& (255 : Int32)).toUInt32.toUInt16.toUInt32.toInt32)))] (.int 0) := Arv.set Ar32 qr32 S32 M32 Hs32 U32 (fits_nar_char _) W32 1 rfl (Nat.le_of_ble_eq_true rfl)
        have c32 : Steps p.tables e below S0 (T32.setTop (mkF m 102 #[.val (.int n), .val (.int x), .val (.int ((x &&& (255 : Int32)).toUInt32.toUInt16.toUInt32.toInt32)), .val (.int ((((x.toUInt32 >>> ((8 : Int32) &&& 31).toUInt32).toInt32) &&& (255 : Int32)).toUInt32.toUInt16.toUInt32.toInt32)), .val (.int ((((x.toUInt32 >>> ((16 : Int32) &&& 31).toUInt32).toInt32) &&& (255 : Int32)).toUInt32.toUInt16.toUInt32.toInt32))] [(.ref b28), (.ref b26), (.ref b26)])) := by
          refine c31.trans ?_
          show Steps p.tables e below (T30.setTop (mkF m 101 #[.val (.int n), .val (.int x), .val (.int ((x &&& (255 : Int32)).toUInt32.toUInt16.toUInt32.toInt32)), .val (.int ((((x.toUInt32 >>> ((8 : Int32) &&& 31).toUInt32).toInt32) &&& (255 : Int32)).toUInt32.toUInt16.toUInt32.toInt32)), .val (.int ((((x.toUInt32 >>> ((16 : Int32) &&& 31).toUInt32).toInt32) &&& (255 : Int32)).toUInt32.toUInt16.toUInt32.toInt32))] [(.int ((((x.toUInt32 >>> ((8 : Int32) &&& 31).toUInt32).toInt32) &&& (255 : Int32)).toUInt32.toUInt16.toUInt32.toInt32)), (.int (1 : Int32)), (.ref b28), (.ref b28), (.ref b26), (.ref b26)])) _
          refine st32 _ ?_
          exact Steps.refl _
        have Nf := Fr.snoc X32 Nf gb28
        have hO := hO.wr W32 gb28
        have hKp := hKp.wr W32 (Or.inr zb)
        have hRs32 := CHr.wr W32 Sf_b28 hR.1
        have hR := hR.trans hRs32
        have Zh := Nat.le_trans Zh (Nat.le_of_eq (own_wsz W32).symm)
        have hk := Nat.le_trans hk (Nat.le_of_eq (own_wsz W32).symm)
        have Sf_b28 := hRs32.safe V30.lt Sf_b28
        have Sf_b26 := hRs32.safe Es.lt Sf_b26
        have Es := Es.wr W32
        have Fv := Fv.other W32 (Or.inl nsa)
        have Fc := Fc.other W32 (Or.inl nsa)
        have c33 : Steps p.tables e below S0 (T32.setTop (mkF m 106 #[.val (.int n), .val (.int x), .val (.int ((x &&& (255 : Int32)).toUInt32.toUInt16.toUInt32.toInt32)), .val (.int ((((x.toUInt32 >>> ((8 : Int32) &&& 31).toUInt32).toInt32) &&& (255 : Int32)).toUInt32.toUInt16.toUInt32.toInt32)), .val (.int ((((x.toUInt32 >>> ((16 : Int32) &&& 31).toUInt32).toInt32) &&& (255 : Int32)).toUInt32.toUInt16.toUInt32.toInt32))] [(.int ((((x.toUInt32 >>> ((16 : Int32) &&& 31).toUInt32).toInt32) &&& (255 : Int32)).toUInt32.toUInt16.toUInt32.toInt32)), (.int (2 : Int32)), (.ref b28), (.ref b28), (.ref b26), (.ref b26)])) := by
          refine c32.trans ?_
          show Steps p.tables e below (T32.setTop (mkF m 102 #[.val (.int n), .val (.int x), .val (.int ((x &&& (255 : Int32)).toUInt32.toUInt16.toUInt32.toInt32)), .val (.int ((((x.toUInt32 >>> ((8 : Int32) &&& 31).toUInt32).toInt32) &&& (255 : Int32)).toUInt32.toUInt16.toUInt32.toInt32)), .val (.int ((((x.toUInt32 >>> ((16 : Int32) &&& 31).toUInt32).toInt32) &&& (255 : Int32)).toUInt32.toUInt16.toUInt32.toInt32))] [(.ref b28), (.ref b26), (.ref b26)])) _
          refine XS.dup X32.here hx rfl (hb hby dM_102) rfl rfl ?_
          show Steps p.tables e below (T32.setTop (mkF m 103 #[.val (.int n), .val (.int x), .val (.int ((x &&& (255 : Int32)).toUInt32.toUInt16.toUInt32.toInt32)), .val (.int ((((x.toUInt32 >>> ((8 : Int32) &&& 31).toUInt32).toInt32) &&& (255 : Int32)).toUInt32.toUInt16.toUInt32.toInt32)), .val (.int ((((x.toUInt32 >>> ((16 : Int32) &&& 31).toUInt32).toInt32) &&& (255 : Int32)).toUInt32.toUInt16.toUInt32.toInt32))] [(.ref b28), (.ref b28), (.ref b26), (.ref b26)])) _
          refine XS.iconst X32.here hx rfl (hb hby dM_103) ?_
          show Steps p.tables e below (T32.setTop (mkF m 104 #[.val (.int n), .val (.int x), .val (.int ((x &&& (255 : Int32)).toUInt32.toUInt16.toUInt32.toInt32)), .val (.int ((((x.toUInt32 >>> ((8 : Int32) &&& 31).toUInt32).toInt32) &&& (255 : Int32)).toUInt32.toUInt16.toUInt32.toInt32)), .val (.int ((((x.toUInt32 >>> ((16 : Int32) &&& 31).toUInt32).toInt32) &&& (255 : Int32)).toUInt32.toUInt16.toUInt32.toInt32))] [(.int (2 : Int32)), (.ref b28), (.ref b28), (.ref b26), (.ref b26)])) _
          refine XS.iload X32.here hx rfl (hb hby dM_104) rfl ?_
          exact Steps.refl _
        have Vp34 : Arv Z _ b28 kA28 .char (3 : Int32) [(.int (nar .char ((x &&& (255 : Int32)).toUInt32.toUInt16.toUInt32.toInt32))), (.int (nar .char ((((x.toUInt32 >>> ((8 : Int32) &&& 31).toUInt32).toInt32) &&& (255 : Int32)).toUInt32.toUInt16.toUInt32.toInt32))), (.int 0)] (.int 0) := V32.pad (pad_rep [(.int (nar .char ((x &&& (255 : Int32)).toUInt32.toUInt16.toUInt32.toInt32))), (.int (nar .char ((((x.toUInt32 >>> ((8 : Int32) &&& 31).toUInt32).toInt32) &&& (255 : Int32)).toUInt32.toUInt16.toUInt32.toInt32)))] (.int 0) 1)
        obtain ⟨cl34, Ar34, qr34, S34, M34, Hs34, U34⟩ := Vp34
        obtain ⟨T34, h34, X34, e34, W34, st34⟩ := stC X32 hx hZ e32 Ar34 (j := (2 : Int32)) (inb_of S34 ⟨(by decide), (by decide)⟩) (g := (mkF m 106 #[.val (.int n), .val (.int x), .val (.int ((x &&& (255 : Int32)).toUInt32.toUInt16.toUInt32.toInt32)), .val (.int ((((x.toUInt32 >>> ((8 : Int32) &&& 31).toUInt32).toInt32) &&& (255 : Int32)).toUInt32.toUInt16.toUInt32.toInt32)), .val (.int ((((x.toUInt32 >>> ((16 : Int32) &&& 31).toUInt32).toInt32) &&& (255 : Int32)).toUInt32.toUInt16.toUInt32.toInt32))] [(.int ((((x.toUInt32 >>> ((16 : Int32) &&& 31).toUInt32).toInt32) &&& (255 : Int32)).toUInt32.toUInt16.toUInt32.toInt32)), (.int (2 : Int32)), (.ref b28), (.ref b28), (.ref b26), (.ref b26)])) rfl rfl (hb hby dM_106)
        have V34 : Arv Z h34 b28 kA28 .char (3 : Int32) [(.int (nar .char ((x &&& (255 : Int32)).toUInt32.toUInt16.toUInt32.toInt32))), (.int (nar .char ((((x.toUInt32 >>> ((8 : Int32) &&& 31).toUInt32).toInt32) &&& (255 : Int32)).toUInt32.toUInt16.toUInt32.toInt32))), (.int (nar .char ((((x.toUInt32 >>> ((16 : Int32) &&& 31).toUInt32).toInt32) &&& (255 : Int32)).toUInt32.toUInt16.toUInt32.toInt32)))] (.int 0) := Arv.set Ar34 qr34 S34 M34 Hs34 U34 (fits_nar_char _) W34 2 rfl (Nat.le_of_ble_eq_true rfl)
        have c34 : Steps p.tables e below S0 (T34.setTop (mkF m 107 #[.val (.int n), .val (.int x), .val (.int ((x &&& (255 : Int32)).toUInt32.toUInt16.toUInt32.toInt32)), .val (.int ((((x.toUInt32 >>> ((8 : Int32) &&& 31).toUInt32).toInt32) &&& (255 : Int32)).toUInt32.toUInt16.toUInt32.toInt32)), .val (.int ((((x.toUInt32 >>> ((16 : Int32) &&& 31).toUInt32).toInt32) &&& (255 : Int32)).toUInt32.toUInt16.toUInt32.toInt32))] [(.ref b28), (.ref b26), (.ref b26)])) := by
          refine c33.trans ?_
          show Steps p.tables e below (T32.setTop (mkF m 106 #[.val (.int n), .val (.int x), .val (.int ((x &&& (255 : Int32)).toUInt32.toUInt16.toUInt32.toInt32)), .val (.int ((((x.toUInt32 >>> ((8 : Int32) &&& 31).toUInt32).toInt32) &&& (255 : Int32)).toUInt32.toUInt16.toUInt32.toInt32)), .val (.int ((((x.toUInt32 >>> ((16 : Int32) &&& 31).toUInt32).toInt32) &&& (255 : Int32)).toUInt32.toUInt16.toUInt32.toInt32))] [(.int ((((x.toUInt32 >>> ((16 : Int32) &&& 31).toUInt32).toInt32) &&& (255 : Int32)).toUInt32.toUInt16.toUInt32.toInt32)), (.int (2 : Int32)), (.ref b28), (.ref b28), (.ref b26), (.ref b26)])) _
          refine st34 _ ?_
          exact Steps.refl _
        have Nf := Fr.snoc X34 Nf gb28
        have hO := hO.wr W34 gb28
        have hKp := hKp.wr W34 (Or.inr zb)
        have hRs34 := CHr.wr W34 Sf_b28 hR.1
        have hR := hR.trans hRs34
        have Zh := Nat.le_trans Zh (Nat.le_of_eq (own_wsz W34).symm)
        have hk := Nat.le_trans hk (Nat.le_of_eq (own_wsz W34).symm)
        have Sf_b28 := hRs34.safe V32.lt Sf_b28
        have Sf_b26 := hRs34.safe Es.lt Sf_b26
        have Es := Es.wr W34
        have Fv := Fv.other W34 (Or.inl nsa)
        have Fc := Fc.other W34 (Or.inl nsa)
        have hws : ∀ d ∈ StrChars.Road.words, d.before a0 Z = true := fun d hd => hw d ((by decide +kernel : ∀ d ∈ StrChars.Road.words, d ∈ tables_1) d hd)
        have hp : ∀ c ∈ ([x &&& 255, (x.toUInt32 >>> ((8 : Int32) &&& 31).toUInt32).toInt32 &&& 255, (x.toUInt32 >>> ((16 : Int32) &&& 31).toUInt32).toInt32 &&& 255] : List Int32), ¬ c < 0 ∧ ¬ (255 : Int32) < c := by
          intro c hc
          simp only [List.mem_cons, List.not_mem_nil, or_false] at hc
          rcases hc with rfl | rfl | rfl
          · exact own_m255 _
          · exact own_m255 _
          · exact own_m255 _
        have Vc : Arv Z h34 b28 kA28 .char (3 : Int32) (([x &&& 255, (x.toUInt32 >>> ((8 : Int32) &&& 31).toUInt32).toInt32 &&& 255, (x.toUInt32 >>> ((16 : Int32) &&& 31).toUInt32).toInt32 &&& 255] : List Int32).map Value.int) (.int 0) := by
          have := V34
          rw [own_nar, own_nar, own_nar] at this; exact this
        obtain ⟨_, _, ⟨T35, L35, k35, n35⟩, -, X35, ⟨Lc35, hQ35, l35, y35, z35⟩, st35⟩ := X34.specialBack hx (y := (⟨"java/lang/String", "<init>", "([C)V"⟩ : MethodName)) rfl hown (mvT hZ (hw _ (List.mem_of_getElem? (i := 8) rfl))) (mvT hZ (hw _ (List.mem_of_getElem? (i := 9) rfl))) (mvT hZ (hw _ (List.mem_of_getElem? (i := 10) rfl))) (by decide) (StrChars.Road.backV (W := 1) hZ hws (kI := 4) (hw _ (List.mem_of_getElem? (i := 5) rfl)) (cs := ([x &&& 255, (x.toUInt32 >>> ((8 : Int32) &&& 31).toUInt32).toInt32 &&& 255, (x.toUInt32 >>> ((16 : Int32) &&& 31).toUInt32).toInt32 &&& 255] : List Int32)) (bs := ([x &&& 255, (x.toUInt32 >>> ((8 : Int32) &&& 31).toUInt32).toInt32 &&& 255, (x.toUInt32 >>> ((16 : Int32) &&& 31).toUInt32).toInt32 &&& 255] : List Int32).map (fun c => c.toInt8.toInt32)) (n := 3) gb26 Zh Es Fv Fc Vc (O2.ext hO.2) P5 rfl rfl (by decide) (by decide) hp rfl (by decide) (by decide)) (g := (mkF m 107 #[.val (.int n), .val (.int x), .val (.int ((x &&& (255 : Int32)).toUInt32.toUInt16.toUInt32.toInt32)), .val (.int ((((x.toUInt32 >>> ((8 : Int32) &&& 31).toUInt32).toInt32) &&& (255 : Int32)).toUInt32.toUInt16.toUInt32.toInt32)), .val (.int ((((x.toUInt32 >>> ((16 : Int32) &&& 31).toUInt32).toInt32) &&& (255 : Int32)).toUInt32.toUInt16.toUInt32.toInt32))] [(.ref b28), (.ref b26), (.ref b26)])) rfl (by rw [hml]; rfl) (Steps.refl _) (a := b26) (argsL := [(.ref b28)]) (rest := [(.ref b26)]) (lenOf pd18 rfl) rfl (by show 2 * 0 + _ ≤ _; exact Nat.le_of_eq rfl) (hb hby dM_107) (fun _ _ => ⟨rfl, e34, (by decide : 2 + 1 ≤ _), (by decide : 7 + 3 ≤ _)⟩)
        dsimp only [Pt.U, Pt.locs, Pt.cells, Pt.slots] at X35 l35 y35 z35 st35 hQ35
        subst l35 y35 z35
        obtain ⟨rfl, N5, K5, D5, C5, t5, k5, -, -, -, F5, V5⟩ := hQ35
        have c35 : Steps p.tables e below S0 (T35.setTop (mkF m 110 #[.val (.int n), .val (.int x), .val (.int ((x &&& (255 : Int32)).toUInt32.toUInt16.toUInt32.toInt32)), .val (.int ((((x.toUInt32 >>> ((8 : Int32) &&& 31).toUInt32).toInt32) &&& (255 : Int32)).toUInt32.toUInt16.toUInt32.toInt32)), .val (.int ((((x.toUInt32 >>> ((16 : Int32) &&& 31).toUInt32).toInt32) &&& (255 : Int32)).toUInt32.toUInt16.toUInt32.toInt32))] [(.ref b26)])) := by
          refine c34.trans ?_
          show Steps p.tables e below (T34.setTop (mkF m 107 #[.val (.int n), .val (.int x), .val (.int ((x &&& (255 : Int32)).toUInt32.toUInt16.toUInt32.toInt32)), .val (.int ((((x.toUInt32 >>> ((8 : Int32) &&& 31).toUInt32).toInt32) &&& (255 : Int32)).toUInt32.toUInt16.toUInt32.toInt32)), .val (.int ((((x.toUInt32 >>> ((16 : Int32) &&& 31).toUInt32).toInt32) &&& (255 : Int32)).toUInt32.toUInt16.toUInt32.toInt32))] [(.ref b28), (.ref b26), (.ref b26)])) _
          refine st35.trans ?_
          exact Steps.refl _
        have hRs35 := CHr.keep K5 (fun x hx => by cases List.mem_singleton.mp hx; exact Sf_b26) hR.1
        have hR := hR.trans hRs35
        have Zh := Nat.le_trans Zh K5.1
        have hk := Nat.le_trans hk K5.1
        obtain ⟨fs, hr, hrun, hended, hW⟩ := X35.leaveW hS hk (v := some (.ref b26)) (fun h => by rw [Bd.returns] at h; cases h)
        refine ⟨_, _, c35.trans ?_, hrun, hended, _, _, rfl, ?_, ?_, hW.1, hW.2.1, hW.2.2.1, hW.2.2.2.mono (by decide) (by decide)⟩
        · show Steps p.tables e below (T35.setTop (mkF m 110 #[.val (.int n), .val (.int x), .val (.int ((x &&& (255 : Int32)).toUInt32.toUInt16.toUInt32.toInt32)), .val (.int ((((x.toUInt32 >>> ((8 : Int32) &&& 31).toUInt32).toInt32) &&& (255 : Int32)).toUInt32.toUInt16.toUInt32.toInt32)), .val (.int ((((x.toUInt32 >>> ((16 : Int32) &&& 31).toUInt32).toInt32) &&& (255 : Int32)).toUInt32.toUInt16.toUInt32.toInt32))] [(.ref b26)])) _
          exact retA X35 hx Bd.returns rfl rfl (hb hby dM_110) hr
        · show QM Z n x G1 h0 n0 _ T35.heap _
          exact ⟨⟨_, _, ([x &&& 255, (x.toUInt32 >>> ((8 : Int32) &&& 31).toUInt32).toInt32 &&& 255, (x.toUInt32 >>> ((16 : Int32) &&& 31).toUInt32).toInt32 &&& 255] : List Int32), rfl, hnK.symm, Nat.le_of_ble_eq_true rfl, D5, C5, F5, ⟨_, V5⟩, hp, (Nat.le_of_ble_eq_true rfl)⟩, Fr.app Nf N5, hKp.trans K5 (fun x hx => by cases List.mem_singleton.mp hx; exact Or.inr zs)⟩
        · show CHr Z consts_1 s.vm s.heap T35.vm T35.heap
          rw [hh, ← hV0]
          exact hR.trans (CHv.at X35 hZ hEL hR.1)
def QRi (Z : State) (o : Addr) (h0 : Heap) (n0 : Nat) (v : Option Value) (h : Heap) (L : List Loc) : Prop := v = none ∧ Fr n0 L ∧ h = h0
theorem efRi (m : MethodId) (o : Addr) : entryFrame m #[(.ref o)] 1 = mkF m 0 #[.val (.ref o)] [] := by first | (simp [entryFrame, mkF, argsToLocals, Value.category, List.replicate]; done) | rfl
set_option maxRecDepth 65536 in
set_option maxHeartbeats 40000000 in
theorem rmRi (l : Launch) (Z : State) (a0 : Array Value) (hw : ∀ d ∈ tables_1, d.before a0 Z = true) (ws : List Jvm.Cond) (o : Addr) (h0 : Heap) (n0 : Nat) (Z0 : n0 ≤ h0.size)  :
    MetFree l (⟨"java/lang/Record", "<init>", "()V"⟩ : MethodName) (head1 (Jvm.Cond.code (⟨"java/lang/Record", "<init>", "()V"⟩ : MethodName) jdk_30_method_1_code 1 none :: ws) ({ frames := 1, cells := 0, slots := 0, locals := 13 } : Room)) (fun aa UU => aa = #[(.ref o)] ∧ Z.Warmed39 UU.vm ∧ UU.heap = h0) (fun _ _ _ _ _ => True) (fun _ UU oo UT => ∃ vv LL, oo = .returned vv ∧ QRi Z o h0 n0 vv UT.heap LL ∧ FrameEnd UU oo UT LL ({ frames := 1, cells := 0, slots := 0, locals := 13 } : Room).cells ({ frames := 1, cells := 0, slots := 0, locals := 13 } : Room).slots) := by
  refine MetFree.of_bodySF (by decide +kernel) hisR ?_
  intro p e s m args below meth c s₁ Bd hml0 hP hK
  obtain ⟨rfl, hZ, hh⟩ := hP
  have hx := Bd.exec
  have hby := Bd.bytes
  have hml : c.maxLocals = 1 := hml0
  have hown : s.vm.findClass "java/lang/Record" = some m.cls := findClass_of_methodNamed Bd.named
  have hnm := (name_of_methodNamed Bd.named Bd.method).1
  have X0 : Stand p l e ({ frames := 1, cells := 0, slots := 0, locals := 13 } : Room) s m #[(.ref o)] below meth c s₁ [] 0 0 := Stand.of_body Bd
  have e0 : s₁.heap = h0 := by rw [← hh, Bd.state]; rfl
  have N0 := Fr.nil n0
  have c0 : Steps p.tables e below (s₁.setTop (entryFrame m #[(.ref o)] 1)) (s₁.setTop (mkF m 0 #[.val (.ref o)] [])) := castTop (efRi m o) (Steps.refl _)
  show ∃ s₂ oo, Steps p.tables e below (s₁.setTop (entryFrame m #[(.ref o)] 1)) s₂ ∧ _ ∧ _ ∧ _
  generalize s₁.setTop (entryFrame m #[(.ref o)] 1) = S0 at c0 ⊢
  have c1 : Steps p.tables e below S0 (s₁.setTop (mkF m 1 #[.val (.ref o)] [(.ref o)])) := by
    refine c0.trans ?_
    show Steps p.tables e below (s₁.setTop (mkF m 0 #[.val (.ref o)] [])) _
    refine XS.aloadN X0.here hx rfl (hb hby dRi_0) rfl rfl ?_
    exact Steps.refl _
  obtain ⟨T2, X2, e2, st2⟩ := initO X0 hx hZ hown (hw _ (List.mem_of_getElem? (i := 48) rfl)) (hw _ (List.mem_of_getElem? (i := 16) rfl)) (hw _ (List.mem_of_getElem? (i := 17) rfl)) e0 (g := (mkF m 1 #[.val (.ref o)] [(.ref o)])) rfl (by rw [hml]; rfl) rfl (hb hby dRi_1) (by decide) (W := 0) (by show 2 * 0 + _ ≤ _; exact Nat.le_of_eq rfl) (by decide)
  have c2 : Steps p.tables e below S0 (T2.setTop (mkF m 4 #[.val (.ref o)] [])) := by
    refine c1.trans ?_
    show Steps p.tables e below (s₁.setTop (mkF m 1 #[.val (.ref o)] [(.ref o)])) _
    refine st2 _ ?_
    exact Steps.refl _
  obtain ⟨fs, hr, hrun, hended, hW, hsame⟩ := X2.leave (v := none) (fun _ => rfl)
  refine ⟨_, _, c2.trans ?_, hrun, hended, _, _, rfl, ?_, ⟨_, rfl⟩, hW, hsame.mono (by decide) (by decide)⟩
  · show Steps p.tables e below (T2.setTop (mkF m 4 #[.val (.ref o)] [])) _
    exact X2.returnOut hx Bd.returns (hb hby dRi_4) hr
  · show QRi Z o h0 n0 _ T2.heap _
    rw [e2]
    exact ⟨rfl, N0, rfl⟩
def QSt (Z : State) (o : Addr) (u : Addr) (q : Addr) (h0 : Heap) (n0 : Nat) (v : Option Value) (h : Heap) (L : List Loc) : Prop := v = none ∧ Fr n0 L ∧ Keep h0 h [o] ∧ Exa Z h o "implicitwiring/internal/SettingSources$Setting" ∧ Fld Z h o "implicitwiring/internal/SettingSources$Setting" "value" "Ljava/lang/String;" (.ref u) ∧ Fld Z h o "implicitwiring/internal/SettingSources$Setting" "origin" "Ljava/lang/String;" (.ref q)
theorem efSt (m : MethodId) (o : Addr) (u : Addr) (q : Addr) : entryFrame m #[(.ref o), (.ref u), (.ref q)] 3 = mkF m 0 #[.val (.ref o), .val (.ref u), .val (.ref q)] [] := by first | (simp [entryFrame, mkF, argsToLocals, Value.category, List.replicate]; done) | rfl
set_option maxRecDepth 65536 in
set_option maxHeartbeats 40000000 in
theorem rmSt (l : Launch) (Z : State) (a0 : Array Value) (hw : ∀ d ∈ tables_1, d.before a0 Z = true) (ws : List Jvm.Cond) (o : Addr) (u : Addr) (q : Addr) (h0 : Heap) (n0 : Nat) (Z0 : n0 ≤ h0.size) (Eo : Exa Z h0 o "implicitwiring/internal/SettingSources$Setting") (F1 : Fld Z h0 o "implicitwiring/internal/SettingSources$Setting" "value" "Ljava/lang/String;" .null) (F2 : Fld Z h0 o "implicitwiring/internal/SettingSources$Setting" "origin" "Ljava/lang/String;" .null) (go : n0 ≤ o) :
    MetFree l (⟨"implicitwiring/internal/SettingSources$Setting", "<init>", "(Ljava/lang/String;Ljava/lang/String;)V"⟩ : MethodName) (head1 (Jvm.Cond.code (⟨"implicitwiring/internal/SettingSources$Setting", "<init>", "(Ljava/lang/String;Ljava/lang/String;)V"⟩ : MethodName) prog_31_method_1_code 3 none :: ws) ({ frames := 2, cells := 0, slots := 0, locals := 27 } : Room)) (fun aa UU => aa = #[(.ref o), (.ref u), (.ref q)] ∧ Z.Warmed39 UU.vm ∧ UU.heap = h0) (fun _ _ _ _ _ => True) (fun _ UU oo UT => ∃ vv LL, oo = .returned vv ∧ QSt Z o u q h0 n0 vv UT.heap LL ∧ FrameEnd UU oo UT LL ({ frames := 2, cells := 0, slots := 0, locals := 27 } : Room).cells ({ frames := 2, cells := 0, slots := 0, locals := 27 } : Room).slots) := by
  refine MetFree.of_bodySF (plainFor_of_name pn1) hisR ?_
  intro p e s m args below meth c s₁ Bd hml0 hP hK
  obtain ⟨rfl, hZ, hh⟩ := hP
  have hx := Bd.exec
  have hby := Bd.bytes
  have hml : c.maxLocals = 3 := hml0
  have hown : s.vm.findClass "implicitwiring/internal/SettingSources$Setting" = some m.cls := findClass_of_methodNamed Bd.named
  have hnm := (name_of_methodNamed Bd.named Bd.method).1
  have X0 : Stand p l e ({ frames := 2, cells := 0, slots := 0, locals := 27 } : Room) s m #[(.ref o), (.ref u), (.ref q)] below meth c s₁ [] 0 0 := Stand.of_body Bd
  have e0 : s₁.heap = h0 := by rw [← hh, Bd.state]; rfl
  have N0 := Fr.nil n0
  have c0 : Steps p.tables e below (s₁.setTop (entryFrame m #[(.ref o), (.ref u), (.ref q)] 3)) (s₁.setTop (mkF m 0 #[.val (.ref o), .val (.ref u), .val (.ref q)] [])) := castTop (efSt m o u q) (Steps.refl _)
  show ∃ s₂ oo, Steps p.tables e below (s₁.setTop (entryFrame m #[(.ref o), (.ref u), (.ref q)] 3)) s₂ ∧ _ ∧ _ ∧ _
  generalize s₁.setTop (entryFrame m #[(.ref o), (.ref u), (.ref q)] 3) = S0 at c0 ⊢
  have c1 : Steps p.tables e below S0 (s₁.setTop (mkF m 1 #[.val (.ref o), .val (.ref u), .val (.ref q)] [(.ref o)])) := by
    refine c0.trans ?_
    show Steps p.tables e below (s₁.setTop (mkF m 0 #[.val (.ref o), .val (.ref u), .val (.ref q)] [])) _
    refine XS.aloadN X0.here hx rfl (hb hby dSt_0) rfl rfl ?_
    exact Steps.refl _
  obtain ⟨_, _, ⟨T2, L2, k2, n2⟩, -, X2, ⟨Lc2, hQ2, l2, y2, z2⟩, st2⟩ := X0.specialBack hx (y := (⟨"java/lang/Record", "<init>", "()V"⟩ : MethodName)) rfl hown (mvT hZ (hw _ (List.mem_of_getElem? (i := 43) rfl))) (mvT hZ (hw _ (List.mem_of_getElem? (i := 44) rfl))) (mvT hZ (hw _ (List.mem_of_getElem? (i := 47) rfl))) (by decide) (backOf (W := 0) (rmRi l Z a0 hw [] o h0 n0 Z0) hZ (hw _ (List.mem_of_getElem? (i := 47) rfl)) (hw _ (List.mem_of_getElem? (i := 46) rfl)) (by decide) (by decide)) (g := (mkF m 1 #[.val (.ref o), .val (.ref u), .val (.ref q)] [(.ref o)])) rfl (by rw [hml]; rfl) (Steps.refl _) (a := o) (argsL := []) (rest := []) (lenOf pd19 rfl) rfl (by show 2 * 0 + _ ≤ _; exact Nat.le_of_eq rfl) (hb hby dSt_1) (fun _ _ => ⟨rfl, e0, (by decide : 0 + 0 ≤ _), (by decide : 0 + 0 ≤ _)⟩)
  dsimp only [Pt.U, Pt.locs, Pt.cells, Pt.slots] at X2 l2 y2 z2 st2 hQ2
  subst l2 y2 z2
  obtain ⟨rfl, N1, e1⟩ := hQ2
  have c2 : Steps p.tables e below S0 (T2.setTop (mkF m 4 #[.val (.ref o), .val (.ref u), .val (.ref q)] [])) := by
    refine c1.trans ?_
    show Steps p.tables e below (s₁.setTop (mkF m 1 #[.val (.ref o), .val (.ref u), .val (.ref q)] [(.ref o)])) _
    refine st2.trans ?_
    exact Steps.refl _
  have c3 : Steps p.tables e below S0 (T2.setTop (mkF m 6 #[.val (.ref o), .val (.ref u), .val (.ref q)] [(.ref u), (.ref o)])) := by
    refine c2.trans ?_
    show Steps p.tables e below (T2.setTop (mkF m 4 #[.val (.ref o), .val (.ref u), .val (.ref q)] [])) _
    refine XS.aloadN X2.here hx rfl (hb hby dSt_4) rfl rfl ?_
    show Steps p.tables e below (T2.setTop (mkF m 5 #[.val (.ref o), .val (.ref u), .val (.ref q)] [(.ref o)])) _
    refine XS.aloadN X2.here hx rfl (hb hby dSt_5) rfl rfl ?_
    exact Steps.refl _
  obtain ⟨T4, h4, X4, e4, W4, st4⟩ := putF X2 hx hZ hown (host := "") (Or.inl (hw _ (List.mem_of_getElem? (i := 49) rfl))) Via.refl e1 F1 Eo (Or.inr ⟨(hw _ (List.mem_of_getElem? (i := 50) rfl)), rfl, hnm⟩) (hw _ (List.mem_of_getElem? (i := 38) rfl)) (ty := (.object "java/lang/String")) (by decide) rfl rfl (g := (mkF m 6 #[.val (.ref o), .val (.ref u), .val (.ref q)] [(.ref u), (.ref o)])) rfl rfl (hb hby dSt_6)
  have c4 : Steps p.tables e below S0 (T4.setTop (mkF m 9 #[.val (.ref o), .val (.ref u), .val (.ref q)] [])) := by
    refine c3.trans ?_
    show Steps p.tables e below (T2.setTop (mkF m 6 #[.val (.ref o), .val (.ref u), .val (.ref q)] [(.ref u), (.ref o)])) _
    refine st4 _ ?_
    exact Steps.refl _
  have Na := Fr.snoc X4 (Fr.app N0 N1) go
  have Eo1 := Eo.wr W4
  have G1 := F1.same W4
  have G2 := F2.other W4 (Or.inr (slot_ne (Or.inr (hw _ (List.mem_of_getElem? (i := 52) rfl))) (Or.inr (hw _ (List.mem_of_getElem? (i := 50) rfl))) (by decide) (t := (.object "java/lang/String")) (t' := (.object "java/lang/String")) (by decide) (by decide)))
  have c5 : Steps p.tables e below S0 (T4.setTop (mkF m 11 #[.val (.ref o), .val (.ref u), .val (.ref q)] [(.ref q), (.ref o)])) := by
    refine c4.trans ?_
    show Steps p.tables e below (T4.setTop (mkF m 9 #[.val (.ref o), .val (.ref u), .val (.ref q)] [])) _
    refine XS.aloadN X4.here hx rfl (hb hby dSt_9) rfl rfl ?_
    show Steps p.tables e below (T4.setTop (mkF m 10 #[.val (.ref o), .val (.ref u), .val (.ref q)] [(.ref o)])) _
    refine XS.aloadN X4.here hx rfl (hb hby dSt_10) rfl rfl ?_
    exact Steps.refl _
  obtain ⟨T6, h6, X6, e6, W6, st6⟩ := putF X4 hx hZ hown (host := "") (Or.inl (hw _ (List.mem_of_getElem? (i := 51) rfl))) Via.refl e4 G2 Eo1 (Or.inr ⟨(hw _ (List.mem_of_getElem? (i := 52) rfl)), rfl, hnm⟩) (hw _ (List.mem_of_getElem? (i := 38) rfl)) (ty := (.object "java/lang/String")) (by decide) rfl rfl (g := (mkF m 11 #[.val (.ref o), .val (.ref u), .val (.ref q)] [(.ref q), (.ref o)])) rfl rfl (hb hby dSt_11)
  have c6 : Steps p.tables e below S0 (T6.setTop (mkF m 14 #[.val (.ref o), .val (.ref u), .val (.ref q)] [])) := by
    refine c5.trans ?_
    show Steps p.tables e below (T4.setTop (mkF m 11 #[.val (.ref o), .val (.ref u), .val (.ref q)] [(.ref q), (.ref o)])) _
    refine st6 _ ?_
    exact Steps.refl _
  obtain ⟨fs, hr, hrun, hended, hW, hsame⟩ := X6.leave (v := none) (fun _ => rfl)
  refine ⟨_, _, c6.trans ?_, hrun, hended, _, _, rfl, ?_, ⟨_, rfl⟩, hW, hsame.mono (by decide) (by decide)⟩
  · show Steps p.tables e below (T6.setTop (mkF m 14 #[.val (.ref o), .val (.ref u), .val (.ref q)] [])) _
    exact X6.returnOut hx Bd.returns (hb hby dSt_14) hr
  · show QSt Z o u q h0 n0 _ T6.heap _
    rw [e6]
    exact ⟨rfl, Fr.snoc X6 Na go, ((Keep.refl _ _).wr W4 (Or.inl (List.mem_of_getElem? (i := 0) rfl))).wr W6 (Or.inl (List.mem_of_getElem? (i := 0) rfl)), Eo1.wr W6, G1.other W6 (Or.inr (slot_ne (Or.inr (hw _ (List.mem_of_getElem? (i := 50) rfl))) (Or.inr (hw _ (List.mem_of_getElem? (i := 52) rfl))) (by decide) (t := (.object "java/lang/String")) (t' := (.object "java/lang/String")) (by decide) (by decide))), G2.same W6⟩
def QDe (Z : State) (o : Addr) (u : Addr) (tu : Addr) (q : Addr) (tq : Addr) (ds1 : List Int32) (ds2 : List Int32) (G1 : Int32) (h0 : Heap) (n0 : Nat) (v : Option Value) (h : Heap) (L : List Loc) : Prop := (∃ r t : Addr, v = some (.ref r) ∧ own_Str Z h r t (((([] ++ ([34] : List Int32)) ++ ds1) ++ ([34, 44, 32, 103, 105, 118, 101, 110, 32, 98, 121, 32] : List Int32)) ++ ds2)) ∧ Fr n0 L ∧ Keep h0 h []
theorem efDe (m : MethodId) (o : Addr) : entryFrame m #[(.ref o)] 1 = mkF m 0 #[.val (.ref o)] [] := by first | (simp [entryFrame, mkF, argsToLocals, Value.category, List.replicate]; done) | rfl
set_option maxRecDepth 65536 in
set_option maxHeartbeats 40000000 in
theorem rmDe (l : Launch) (Z : State) (a0 : Array Value) (hw : ∀ d ∈ tables_1, d.before a0 Z = true) (ws : List Jvm.Cond) (o : Addr) (u : Addr) (tu : Addr) (q : Addr) (tq : Addr) (ds1 : List Int32) (ds2 : List Int32) (G1 : Int32) (h0 : Heap) (n0 : Nat) (Z0 : n0 ≤ h0.size) (O2 : Sta Z Z.heap "java/lang/String" "COMPACT_STRINGS" "Z" (.int G1)) (P5 : ¬ G1 = 0) (X00 : Old Z n0 h0) (F1 : Fld Z h0 o "implicitwiring/internal/SettingSources$Setting" "value" "Ljava/lang/String;" (.ref u)) (F2 : Fld Z h0 o "implicitwiring/internal/SettingSources$Setting" "origin" "Ljava/lang/String;" (.ref q)) (Su : own_Str Z h0 u tu ds1) (Sq : own_Str Z h0 q tq ds2) (l1 : ds1.length ≤ 3) (l2 : ds2.length ≤ 3) :
    MetFree l (⟨"implicitwiring/internal/SettingSources$Setting", "described", "()Ljava/lang/String;"⟩ : MethodName) (head1 (Jvm.Cond.code (⟨"implicitwiring/internal/SettingSources$Setting", "described", "()Ljava/lang/String;"⟩ : MethodName) prog_31_method_2_code 1 (some (.object "java/lang/String")) :: ws) ({ frames := 7, cells := 12, slots := 1024, locals := 194 } : Room)) (fun aa UU => aa = #[(.ref o)] ∧ Z.Warmed39 UU.vm ∧ UU.heap = h0 ∧ CHv Z consts_1 UU.vm h0 ∧ ∀ x ∈ ([] : List Addr), Safe Z consts_1 UU.vm h0 x) (fun _ _ _ _ _ => True) (fun _ UU oo UT => ∃ vv LL, oo = .returned vv ∧ QDe Z o u tu q tq ds1 ds2 G1 h0 n0 vv UT.heap LL ∧ CHr Z consts_1 UU.vm UU.heap UT.vm UT.heap ∧ ReturnedEndW UU oo UT LL ({ frames := 7, cells := 12, slots := 1024, locals := 194 } : Room).cells ({ frames := 7, cells := 12, slots := 1024, locals := 194 } : Room).slots) := by
  refine MetFree.of_bodySF (plainFor_of_name pn1) hisR ?_
  intro p e s m args below meth c s₁ Bd hml0 hP hK
  obtain ⟨rfl, hZ, hh, hC, hX⟩ := hP
  have hx := Bd.exec
  have hby := Bd.bytes
  have hml : c.maxLocals = 1 := hml0
  have hown : s.vm.findClass "implicitwiring/internal/SettingSources$Setting" = some m.cls := findClass_of_methodNamed Bd.named
  have hnm := (name_of_methodNamed Bd.named Bd.method).1
  have X0 : Stand p l e ({ frames := 7, cells := 12, slots := 1024, locals := 194 } : Room) s m #[(.ref o)] below meth c s₁ [] 0 0 := Stand.of_body Bd
  have e0 : s₁.heap = h0 := by rw [← hh, Bd.state]; rfl
  have N0 := Fr.nil n0
  have c0 : Steps p.tables e below (s₁.setTop (entryFrame m #[(.ref o)] 1)) (s₁.setTop (mkF m 0 #[.val (.ref o)] [])) := castTop (efDe m o) (Steps.refl _)
  show ∃ s₂ oo, Steps p.tables e below (s₁.setTop (entryFrame m #[(.ref o)] 1)) s₂ ∧ _ ∧ _ ∧ _
  generalize s₁.setTop (entryFrame m #[(.ref o)] 1) = S0 at c0 ⊢
  obtain ⟨V0, hV0⟩ : ∃ V, V = s.vm := ⟨_, rfl⟩
  have Xs : Stand p l e ({ frames := 7, cells := 12, slots := 1024, locals := 194 } : Room) (s.setVm V0) m #[(.ref o)] below meth c s₁ [] 0 0 := by subst hV0; exact X0
  have hS : s.Since V0 h0.size := by subst hV0; exact (State.WarmedH.refl s).since _
  replace hZ : Z.Warmed39 (s.setVm V0).vm := by subst hV0; exact hZ
  replace hown : (s.setVm V0).vm.findClass "implicitwiring/internal/SettingSources$Setting" = some m.cls := by subst hV0; exact hown
  have hk : h0.size ≤ h0.size := Nat.le_refl _
  have Zh := Z0
  have hR : CHr Z consts_1 V0 h0 V0 h0 := by subst hV0; exact CHr.refl hC
  have hEL := own_EW hw
  have Nf := N0
  have hKp := Keep.refl h0 []
  obtain ⟨T1, h1, X1, e1, E1, A1, D1, -, st1⟩ := newO Xs hx hZ hown (hw _ (List.mem_of_getElem? (i := 58) rfl)) (hw _ (List.mem_of_getElem? (i := 59) rfl)) (hw _ (List.mem_of_getElem? (i := 60) rfl)) e0 (g := (mkF m 0 #[.val (.ref o)] [])) rfl (hb hby dDe_0) (by decide) (by decide)
  obtain ⟨b1, g1⟩ : ∃ z, z = h0.size := ⟨_, rfl⟩
  rw [← g1] at A1 D1 st1
  have c1 : Steps p.tables e below S0 (T1.setTop (mkF m 3 #[.val (.ref o)] [(.ref b1)])) := by
    refine c0.trans ?_
    show Steps p.tables e below (s₁.setTop (mkF m 0 #[.val (.ref o)] [])) _
    refine st1 _ ?_
    exact Steps.refl _
  have Sf_b1 := Safe.ext E1 hR.1 (Safe.new (Nat.le_of_eq g1.symm))
  have gb1 : n0 ≤ b1 := Nat.le_trans Zh (Nat.le_of_eq g1.symm)
  have hRs1 := CHr.ext E1 hR.1
  have hR := hR.trans hRs1
  have Zh := Nat.le_trans Zh E1.1
  have hk := Nat.le_trans hk E1.1
  have hKp := hKp.ext E1
  have zb : h0.size ≤ b1 := Nat.le_of_eq g1.symm
  have Gv : Fld Z h1 b1 "java/lang/AbstractStringBuilder" "value" "[B" .null := D1 (Or.inl (hw _ (List.mem_of_getElem? (i := 73) rfl))) (ty := (.array .byte)) (by decide)
  have Gc : Fld Z h1 b1 "java/lang/AbstractStringBuilder" "coder" "B" (.int 0) := D1 (Or.inl (hw _ (List.mem_of_getElem? (i := 75) rfl))) (ty := .byte) (by decide)
  have Gn : Fld Z h1 b1 "java/lang/AbstractStringBuilder" "count" "I" (.int 0) := D1 (Or.inl (hw _ (List.mem_of_getElem? (i := 98) rfl))) (ty := .int) (by decide)
  have hZ9 := hZ
  have So : ∀ {vm : Vm} {h : Heap}, Z.vm.Alike vm → Exa Z h b1 own_SBN → Safe Z consts_1 vm h b1 := fun hal E => Safe.exa hal E (by decide) (by decide)
  have c2 : Steps p.tables e below S0 (T1.setTop (mkF m 4 #[.val (.ref o)] [(.ref b1), (.ref b1)])) := by
    refine c1.trans ?_
    show Steps p.tables e below (T1.setTop (mkF m 3 #[.val (.ref o)] [(.ref b1)])) _
    refine XS.dup X1.here hx rfl (hb hby dDe_3) rfl rfl ?_
    exact Steps.refl _
  obtain ⟨_, _, ⟨T3, L3, k3, n3⟩, -, X3, ⟨Lc3, hQ3, l3, y3, z3⟩, st3⟩ := X1.specialBack hx (y := (⟨"java/lang/StringBuilder", "<init>", "()V"⟩ : MethodName)) rfl hown (mvT hZ (hw _ (List.mem_of_getElem? (i := 61) rfl))) (mvT hZ (hw _ (List.mem_of_getElem? (i := 62) rfl))) (mvT hZ (hw _ (List.mem_of_getElem? (i := 63) rfl))) (by decide) (backOf (W := 1) (rmSi l Z a0 hw [] b1 G1 h1 n0 Zh O2 P5 (X00.keep hKp (fun x hx => by cases hx)) A1 Gv Gc Gn gb1) hZ (hw _ (List.mem_of_getElem? (i := 63) rfl)) (hw _ (List.mem_of_getElem? (i := 60) rfl)) (by decide) (by decide)) (g := (mkF m 4 #[.val (.ref o)] [(.ref b1), (.ref b1)])) rfl (by rw [hml]; rfl) (Steps.refl _) (a := b1) (argsL := []) (rest := [(.ref b1)]) (lenOf pd19 rfl) rfl (by show 2 * 0 + _ ≤ _; exact Nat.le_of_eq rfl) (hb hby dDe_4) (fun _ _ => ⟨rfl, e1, (by decide : 1 + 1 ≤ _), (by decide : 4 + 16 ≤ _)⟩)
  dsimp only [Pt.U, Pt.locs, Pt.cells, Pt.slots] at X3 l3 y3 z3 st3 hQ3
  subst l3 y3 z3
  obtain ⟨rfl, N1, K1, t, zt, B⟩ := hQ3
  have c3 : Steps p.tables e below S0 (T3.setTop (mkF m 7 #[.val (.ref o)] [(.ref b1)])) := by
    refine c2.trans ?_
    show Steps p.tables e below (T1.setTop (mkF m 4 #[.val (.ref o)] [(.ref b1), (.ref b1)])) _
    refine st3.trans ?_
    exact Steps.refl _
  have Sf_t := Safe.keep K1 (fun x hx => by cases List.mem_singleton.mp hx; exact So hZ.alike A1) hR.1 (Safe.new zt)
  have gt : n0 ≤ t := Nat.le_trans Zh zt
  have zt0 : h0.size ≤ t := Nat.le_trans hKp.1 zt
  have hRs3 := CHr.keep K1 (fun x hx => by cases List.mem_singleton.mp hx; exact So hZ.alike A1) hR.1
  have hR := hR.trans hRs3
  have Zh := Nat.le_trans Zh K1.1
  have hk := Nat.le_trans hk K1.1
  have Nf := Fr.app Nf N1
  have hKp := hKp.trans K1 (fun x hx => by cases List.mem_singleton.mp hx; exact Or.inr zb)
  have hcl : ([] : List Int32).length ≤ 0 := Nat.le_refl _
  obtain ⟨q4, T4, h4, k4, r4, kq4, X4, e4, E4, hS, hk, hZ, hown, Xq4, Fc4, Fv4, Vq4, ql4, rl4, hCs4, -, -, st4⟩ := ldcCH X3 hx hZ hown (hw _ (List.mem_of_getElem? (i := 76) rfl)) (own_wS hw) rfl hS hk hEL (by decide) hR.1 (vs := [(.int (34))]) (z := 1) (by decide +kernel) (by decide) (by decide) (g := (mkF m 7 #[.val (.ref o)] [(.ref b1)])) rfl (hb hby dDe_7) (n := 4) (by decide) (by decide) (by decide) (by decide)
  have hR := hR.trans hCs4
  have c4 : Steps p.tables e below S0 (T4.setTop (mkF m 9 #[.val (.ref o)] [(.ref q4), (.ref b1)])) := by
    refine c3.trans ?_
    show Steps p.tables e below (T3.setTop (mkF m 7 #[.val (.ref o)] [(.ref b1)])) _
    refine st4 _ ?_
    exact Steps.refl _
  have Sf_t := hCs4.safe B.2.2.2.2.1.choose_spec.1.lt Sf_t
  have Zh := Nat.le_trans Zh E4.1
  have hKp := hKp.ext E4
  have B := B.ext E4
  have Sl : own_Str Z h4 q4 r4 ([34] : List Int32) := ⟨Xq4, Fc4, Fv4, ⟨_, Vq4⟩, by decide, by decide⟩
  have Eb0 := B.1
  obtain ⟨cq5, kq5, q5a, q5b, q5c⟩ := isOf hZ e4 B.1
  obtain ⟨_, _, ⟨T5, L5, k5, n5⟩, -, X5, ⟨Lc5, hQ5, l5, y5, z5⟩, st5⟩ := X4.virtualBack hx (y := (⟨"java/lang/StringBuilder", "append", "(Ljava/lang/String;)Ljava/lang/StringBuilder;"⟩ : MethodName)) (z := (⟨"java/lang/StringBuilder", "append", "(Ljava/lang/String;)Ljava/lang/StringBuilder;"⟩ : MethodName)) hown (mvT hZ (hw _ (List.mem_of_getElem? (i := 77) rfl))) (mvT hZ (hw _ (List.mem_of_getElem? (i := 78) rfl))) (notFace_of_selects (args := #[]) (mvT hZ (hw _ (List.mem_of_getElem? (i := 80) rfl)))) (mvT hZ (hw _ (List.mem_of_getElem? (i := 80) rfl))) (mvT hZ (hw _ (List.mem_of_getElem? (i := 79) rfl))) (by decide) (backOf (W := 0) (rmSa l Z a0 hw [] q4 r4 ([34] : List Int32) b1 t 16 [] G1 h4 n0 Zh O2 P5 (X00.keep hKp (fun x hx => by cases hx)) Sl (by first | (have := l1; have := l2; omega) | decide) B (by have h9 := hcl; have := l1; have := l2; first | omega | (simp only [List.length_append, List.length_cons, List.length_nil] at h9 ⊢; omega)) gb1 gt) hZ (hw _ (List.mem_of_getElem? (i := 81) rfl)) (hw _ (List.mem_of_getElem? (i := 60) rfl)) (by decide) (by decide)) q5a q5c (g := (mkF m 9 #[.val (.ref o)] [(.ref q4), (.ref b1)])) rfl (by rw [hml]; rfl) (Steps.refl _) (argsL := [(.ref q4)]) (rest := []) (lenOf pd20 rfl) rfl (by show 2 * 0 + _ ≤ _; exact Nat.le_of_eq rfl) (hb hby dDe_9) (fun _ _ => ⟨rfl, e4, (by decide : 4 + 1 ≤ _), (by decide : 28 + 210 ≤ _)⟩)
  dsimp only [Pt.U, Pt.locs, Pt.cells, Pt.slots] at X5 l5 y5 z5 st5 hQ5
  subst l5 y5 z5
  obtain ⟨rfl, Nd, t1', cap1', B, ht, Kd⟩ := hQ5
  have c5 : Steps p.tables e below S0 (T5.setTop (mkF m 12 #[.val (.ref o)] [(.ref b1)])) := by
    refine c4.trans ?_
    show Steps p.tables e below (T4.setTop (mkF m 9 #[.val (.ref o)] [(.ref q4), (.ref b1)])) _
    refine st5.trans ?_
    exact Steps.refl _
  have Sf_t2 : Safe Z consts_1 _ T5.heap t1' := Safe.keep Kd (fun x hx => by simp only [List.mem_cons, List.not_mem_nil, or_false] at hx; rcases hx with rfl | rfl <;> first | exact So hZ.alike Eb0 | exact Sf_t) hR.1 (ht.elim (fun q => by rw [q]; exact Sf_t) (fun q => Safe.new q))
  have gt2 : n0 ≤ t1' := ht.elim (fun q => by rw [q]; exact gt) (fun q => Nat.le_trans Zh q)
  have zt2 : h0.size ≤ t1' := ht.elim (fun q => by rw [q]; exact zt0) (fun q => Nat.le_trans hKp.1 q)
  have hRs5 := CHr.keep Kd (fun x hx => by simp only [List.mem_cons, List.not_mem_nil, or_false] at hx; rcases hx with rfl | rfl <;> first | exact So hZ.alike Eb0 | exact Sf_t) hR.1
  have hR := hR.trans hRs5
  have Zh := Nat.le_trans Zh Kd.1
  have hk := Nat.le_trans hk Kd.1
  have Nf := Fr.app Nf Nd
  have hKp := hKp.trans Kd (fun x hx => by simp only [List.mem_cons, List.not_mem_nil, or_false] at hx; rcases hx with rfl | rfl <;> first | exact Or.inr zb | exact Or.inr zt0)
  have Sf_t := Sf_t2
  have gt := gt2
  have zt0 := zt2
  have hcl : ([] ++ ([34] : List Int32)).length ≤ 1 := by rw [List.length_append]; first | (have := l1; have := l2; omega) | (have h9 := hcl; simp only [List.length_cons, List.length_nil] at h9 ⊢; omega)
  have c6 : Steps p.tables e below S0 (T5.setTop (mkF m 13 #[.val (.ref o)] [(.ref o), (.ref b1)])) := by
    refine c5.trans ?_
    show Steps p.tables e below (T5.setTop (mkF m 12 #[.val (.ref o)] [(.ref b1)])) _
    refine XS.aloadN X5.here hx rfl (hb hby dDe_12) rfl rfl ?_
    exact Steps.refl _
  obtain ⟨T7, X7, e7, st7⟩ := getF X5 hx hZ hown (host := "") (Or.inl (hw _ (List.mem_of_getElem? (i := 49) rfl))) Via.refl rfl (F1.keep hKp (fun q => by cases q)) (g := (mkF m 13 #[.val (.ref o)] [(.ref o), (.ref b1)])) rfl rfl (hb hby dDe_13)
  have c7 : Steps p.tables e below S0 (T7.setTop (mkF m 16 #[.val (.ref o)] [(.ref u), (.ref b1)])) := by
    refine c6.trans ?_
    show Steps p.tables e below (T5.setTop (mkF m 13 #[.val (.ref o)] [(.ref o), (.ref b1)])) _
    refine st7 _ ?_
    exact Steps.refl _
  have Eb0 := B.1
  obtain ⟨cq8, kq8, q8a, q8b, q8c⟩ := isOf hZ e7 B.1
  obtain ⟨_, _, ⟨T8, L8, k8, n8⟩, -, X8, ⟨Lc8, hQ8, l8, y8, z8⟩, st8⟩ := X7.virtualBack hx (y := (⟨"java/lang/StringBuilder", "append", "(Ljava/lang/String;)Ljava/lang/StringBuilder;"⟩ : MethodName)) (z := (⟨"java/lang/StringBuilder", "append", "(Ljava/lang/String;)Ljava/lang/StringBuilder;"⟩ : MethodName)) hown (mvT hZ (hw _ (List.mem_of_getElem? (i := 77) rfl))) (mvT hZ (hw _ (List.mem_of_getElem? (i := 78) rfl))) (notFace_of_selects (args := #[]) (mvT hZ (hw _ (List.mem_of_getElem? (i := 80) rfl)))) (mvT hZ (hw _ (List.mem_of_getElem? (i := 80) rfl))) (mvT hZ (hw _ (List.mem_of_getElem? (i := 79) rfl))) (by decide) (backOf (W := 0) (rmSa l Z a0 hw [] u tu ds1 b1 t1' cap1' ([] ++ ([34] : List Int32)) G1 T5.heap n0 Zh O2 P5 (X00.keep hKp (fun x hx => by cases hx)) (Su.keep0 hKp) (by first | (have := l1; have := l2; omega) | decide) B (by have h9 := hcl; have := l1; have := l2; first | omega | (simp only [List.length_append, List.length_cons, List.length_nil] at h9 ⊢; omega)) gb1 gt) hZ (hw _ (List.mem_of_getElem? (i := 81) rfl)) (hw _ (List.mem_of_getElem? (i := 60) rfl)) (by decide) (by decide)) q8a q8c (g := (mkF m 16 #[.val (.ref o)] [(.ref u), (.ref b1)])) rfl (by rw [hml]; rfl) (Steps.refl _) (argsL := [(.ref u)]) (rest := []) (lenOf pd20 rfl) rfl (by show 2 * 0 + _ ≤ _; exact Nat.le_of_eq rfl) (hb hby dDe_16) (fun _ _ => ⟨rfl, e7, (by decide : 5 + 1 ≤ _), (by decide : 238 + 210 ≤ _)⟩)
  dsimp only [Pt.U, Pt.locs, Pt.cells, Pt.slots] at X8 l8 y8 z8 st8 hQ8
  subst l8 y8 z8
  obtain ⟨rfl, Nd, t2', cap2', B, ht, Kd⟩ := hQ8
  have c8 : Steps p.tables e below S0 (T8.setTop (mkF m 19 #[.val (.ref o)] [(.ref b1)])) := by
    refine c7.trans ?_
    show Steps p.tables e below (T7.setTop (mkF m 16 #[.val (.ref o)] [(.ref u), (.ref b1)])) _
    refine st8.trans ?_
    exact Steps.refl _
  have Sf_t2 : Safe Z consts_1 _ T8.heap t2' := Safe.keep Kd (fun x hx => by simp only [List.mem_cons, List.not_mem_nil, or_false] at hx; rcases hx with rfl | rfl <;> first | exact So hZ.alike Eb0 | exact Sf_t) hR.1 (ht.elim (fun q => by rw [q]; exact Sf_t) (fun q => Safe.new q))
  have gt2 : n0 ≤ t2' := ht.elim (fun q => by rw [q]; exact gt) (fun q => Nat.le_trans Zh q)
  have zt2 : h0.size ≤ t2' := ht.elim (fun q => by rw [q]; exact zt0) (fun q => Nat.le_trans hKp.1 q)
  have hRs8 := CHr.keep Kd (fun x hx => by simp only [List.mem_cons, List.not_mem_nil, or_false] at hx; rcases hx with rfl | rfl <;> first | exact So hZ.alike Eb0 | exact Sf_t) hR.1
  have hR := hR.trans hRs8
  have Zh := Nat.le_trans Zh Kd.1
  have hk := Nat.le_trans hk Kd.1
  have Nf := Fr.app Nf Nd
  have hKp := hKp.trans Kd (fun x hx => by simp only [List.mem_cons, List.not_mem_nil, or_false] at hx; rcases hx with rfl | rfl <;> first | exact Or.inr zb | exact Or.inr zt0)
  have Sf_t := Sf_t2
  have gt := gt2
  have zt0 := zt2
  have hcl : (([] ++ ([34] : List Int32)) ++ ds1).length ≤ 4 := by rw [List.length_append]; first | (have := l1; have := l2; omega) | (have h9 := hcl; simp only [List.length_cons, List.length_nil] at h9 ⊢; omega)
  obtain ⟨q9, T9, h9, k9, r9, kq9, X9, e9, E9, hS, hk, hZ, hown, Xq9, Fc9, Fv9, Vq9, ql9, rl9, hCs9, -, -, st9⟩ := ldcCH X8 hx hZ hown (hw _ (List.mem_of_getElem? (i := 124) rfl)) (own_wS hw) rfl hS hk hEL (by decide) hR.1 (vs := [(.int (34)), (.int (44)), (.int (32)), (.int (103)), (.int (105)), (.int (118)), (.int (101)), (.int (110)), (.int (32)), (.int (98)), (.int (121)), (.int (32))]) (z := 12) (by decide +kernel) (by decide) (by decide) (g := (mkF m 19 #[.val (.ref o)] [(.ref b1)])) rfl (hb hby dDe_19) (n := 48) (by decide) (by decide) (by decide) (by decide)
  have hR := hR.trans hCs9
  have c9 : Steps p.tables e below S0 (T9.setTop (mkF m 21 #[.val (.ref o)] [(.ref q9), (.ref b1)])) := by
    refine c8.trans ?_
    show Steps p.tables e below (T8.setTop (mkF m 19 #[.val (.ref o)] [(.ref b1)])) _
    refine st9 _ ?_
    exact Steps.refl _
  have Sf_t := hCs9.safe B.2.2.2.2.1.choose_spec.1.lt Sf_t
  have Zh := Nat.le_trans Zh E9.1
  have hKp := hKp.ext E9
  have B := B.ext E9
  have Sl : own_Str Z h9 q9 r9 ([34, 44, 32, 103, 105, 118, 101, 110, 32, 98, 121, 32] : List Int32) := ⟨Xq9, Fc9, Fv9, ⟨_, Vq9⟩, by decide, by decide⟩
  have Eb0 := B.1
  obtain ⟨cq10, kq10, q10a, q10b, q10c⟩ := isOf hZ e9 B.1
  obtain ⟨_, _, ⟨T10, L10, k10, n10⟩, -, X10, ⟨Lc10, hQ10, l10, y10, z10⟩, st10⟩ := X9.virtualBack hx (y := (⟨"java/lang/StringBuilder", "append", "(Ljava/lang/String;)Ljava/lang/StringBuilder;"⟩ : MethodName)) (z := (⟨"java/lang/StringBuilder", "append", "(Ljava/lang/String;)Ljava/lang/StringBuilder;"⟩ : MethodName)) hown (mvT hZ (hw _ (List.mem_of_getElem? (i := 77) rfl))) (mvT hZ (hw _ (List.mem_of_getElem? (i := 78) rfl))) (notFace_of_selects (args := #[]) (mvT hZ (hw _ (List.mem_of_getElem? (i := 80) rfl)))) (mvT hZ (hw _ (List.mem_of_getElem? (i := 80) rfl))) (mvT hZ (hw _ (List.mem_of_getElem? (i := 79) rfl))) (by decide) (backOf (W := 0) (rmSa l Z a0 hw [] q9 r9 ([34, 44, 32, 103, 105, 118, 101, 110, 32, 98, 121, 32] : List Int32) b1 t2' cap2' (([] ++ ([34] : List Int32)) ++ ds1) G1 h9 n0 Zh O2 P5 (X00.keep hKp (fun x hx => by cases hx)) Sl (by first | (have := l1; have := l2; omega) | decide) B (by have h9 := hcl; have := l1; have := l2; first | omega | (simp only [List.length_append, List.length_cons, List.length_nil] at h9 ⊢; omega)) gb1 gt) hZ (hw _ (List.mem_of_getElem? (i := 81) rfl)) (hw _ (List.mem_of_getElem? (i := 60) rfl)) (by decide) (by decide)) q10a q10c (g := (mkF m 21 #[.val (.ref o)] [(.ref q9), (.ref b1)])) rfl (by rw [hml]; rfl) (Steps.refl _) (argsL := [(.ref q9)]) (rest := []) (lenOf pd20 rfl) rfl (by show 2 * 0 + _ ≤ _; exact Nat.le_of_eq rfl) (hb hby dDe_21) (fun _ _ => ⟨rfl, e9, (by decide : 8 + 1 ≤ _), (by decide : 500 + 210 ≤ _)⟩)
  dsimp only [Pt.U, Pt.locs, Pt.cells, Pt.slots] at X10 l10 y10 z10 st10 hQ10
  subst l10 y10 z10
  obtain ⟨rfl, Nd, t3', cap3', B, ht, Kd⟩ := hQ10
  have c10 : Steps p.tables e below S0 (T10.setTop (mkF m 24 #[.val (.ref o)] [(.ref b1)])) := by
    refine c9.trans ?_
    show Steps p.tables e below (T9.setTop (mkF m 21 #[.val (.ref o)] [(.ref q9), (.ref b1)])) _
    refine st10.trans ?_
    exact Steps.refl _
  have Sf_t2 : Safe Z consts_1 _ T10.heap t3' := Safe.keep Kd (fun x hx => by simp only [List.mem_cons, List.not_mem_nil, or_false] at hx; rcases hx with rfl | rfl <;> first | exact So hZ.alike Eb0 | exact Sf_t) hR.1 (ht.elim (fun q => by rw [q]; exact Sf_t) (fun q => Safe.new q))
  have gt2 : n0 ≤ t3' := ht.elim (fun q => by rw [q]; exact gt) (fun q => Nat.le_trans Zh q)
  have zt2 : h0.size ≤ t3' := ht.elim (fun q => by rw [q]; exact zt0) (fun q => Nat.le_trans hKp.1 q)
  have hRs10 := CHr.keep Kd (fun x hx => by simp only [List.mem_cons, List.not_mem_nil, or_false] at hx; rcases hx with rfl | rfl <;> first | exact So hZ.alike Eb0 | exact Sf_t) hR.1
  have hR := hR.trans hRs10
  have Zh := Nat.le_trans Zh Kd.1
  have hk := Nat.le_trans hk Kd.1
  have Nf := Fr.app Nf Nd
  have hKp := hKp.trans Kd (fun x hx => by simp only [List.mem_cons, List.not_mem_nil, or_false] at hx; rcases hx with rfl | rfl <;> first | exact Or.inr zb | exact Or.inr zt0)
  have Sf_t := Sf_t2
  have gt := gt2
  have zt0 := zt2
  have hcl : ((([] ++ ([34] : List Int32)) ++ ds1) ++ ([34, 44, 32, 103, 105, 118, 101, 110, 32, 98, 121, 32] : List Int32)).length ≤ 16 := by rw [List.length_append]; first | (have := l1; have := l2; omega) | (have h9 := hcl; simp only [List.length_cons, List.length_nil] at h9 ⊢; omega)
  have c11 : Steps p.tables e below S0 (T10.setTop (mkF m 25 #[.val (.ref o)] [(.ref o), (.ref b1)])) := by
    refine c10.trans ?_
    show Steps p.tables e below (T10.setTop (mkF m 24 #[.val (.ref o)] [(.ref b1)])) _
    refine XS.aloadN X10.here hx rfl (hb hby dDe_24) rfl rfl ?_
    exact Steps.refl _
  obtain ⟨T12, X12, e12, st12⟩ := getF X10 hx hZ hown (host := "") (Or.inl (hw _ (List.mem_of_getElem? (i := 51) rfl))) Via.refl rfl (F2.keep hKp (fun q => by cases q)) (g := (mkF m 25 #[.val (.ref o)] [(.ref o), (.ref b1)])) rfl rfl (hb hby dDe_25)
  have c12 : Steps p.tables e below S0 (T12.setTop (mkF m 28 #[.val (.ref o)] [(.ref q), (.ref b1)])) := by
    refine c11.trans ?_
    show Steps p.tables e below (T10.setTop (mkF m 25 #[.val (.ref o)] [(.ref o), (.ref b1)])) _
    refine st12 _ ?_
    exact Steps.refl _
  have Eb0 := B.1
  obtain ⟨cq13, kq13, q13a, q13b, q13c⟩ := isOf hZ e12 B.1
  obtain ⟨_, _, ⟨T13, L13, k13, n13⟩, -, X13, ⟨Lc13, hQ13, l13, y13, z13⟩, st13⟩ := X12.virtualBack hx (y := (⟨"java/lang/StringBuilder", "append", "(Ljava/lang/String;)Ljava/lang/StringBuilder;"⟩ : MethodName)) (z := (⟨"java/lang/StringBuilder", "append", "(Ljava/lang/String;)Ljava/lang/StringBuilder;"⟩ : MethodName)) hown (mvT hZ (hw _ (List.mem_of_getElem? (i := 77) rfl))) (mvT hZ (hw _ (List.mem_of_getElem? (i := 78) rfl))) (notFace_of_selects (args := #[]) (mvT hZ (hw _ (List.mem_of_getElem? (i := 80) rfl)))) (mvT hZ (hw _ (List.mem_of_getElem? (i := 80) rfl))) (mvT hZ (hw _ (List.mem_of_getElem? (i := 79) rfl))) (by decide) (backOf (W := 0) (rmSa l Z a0 hw [] q tq ds2 b1 t3' cap3' ((([] ++ ([34] : List Int32)) ++ ds1) ++ ([34, 44, 32, 103, 105, 118, 101, 110, 32, 98, 121, 32] : List Int32)) G1 T10.heap n0 Zh O2 P5 (X00.keep hKp (fun x hx => by cases hx)) (Sq.keep0 hKp) (by first | (have := l1; have := l2; omega) | decide) B (by have h9 := hcl; have := l1; have := l2; first | omega | (simp only [List.length_append, List.length_cons, List.length_nil] at h9 ⊢; omega)) gb1 gt) hZ (hw _ (List.mem_of_getElem? (i := 81) rfl)) (hw _ (List.mem_of_getElem? (i := 60) rfl)) (by decide) (by decide)) q13a q13c (g := (mkF m 28 #[.val (.ref o)] [(.ref q), (.ref b1)])) rfl (by rw [hml]; rfl) (Steps.refl _) (argsL := [(.ref q)]) (rest := []) (lenOf pd20 rfl) rfl (by show 2 * 0 + _ ≤ _; exact Nat.le_of_eq rfl) (hb hby dDe_28) (fun _ _ => ⟨rfl, e12, (by decide : 9 + 1 ≤ _), (by decide : 710 + 210 ≤ _)⟩)
  dsimp only [Pt.U, Pt.locs, Pt.cells, Pt.slots] at X13 l13 y13 z13 st13 hQ13
  subst l13 y13 z13
  obtain ⟨rfl, Nd, t4', cap4', B, ht, Kd⟩ := hQ13
  have c13 : Steps p.tables e below S0 (T13.setTop (mkF m 31 #[.val (.ref o)] [(.ref b1)])) := by
    refine c12.trans ?_
    show Steps p.tables e below (T12.setTop (mkF m 28 #[.val (.ref o)] [(.ref q), (.ref b1)])) _
    refine st13.trans ?_
    exact Steps.refl _
  have Sf_t2 : Safe Z consts_1 _ T13.heap t4' := Safe.keep Kd (fun x hx => by simp only [List.mem_cons, List.not_mem_nil, or_false] at hx; rcases hx with rfl | rfl <;> first | exact So hZ.alike Eb0 | exact Sf_t) hR.1 (ht.elim (fun q => by rw [q]; exact Sf_t) (fun q => Safe.new q))
  have gt2 : n0 ≤ t4' := ht.elim (fun q => by rw [q]; exact gt) (fun q => Nat.le_trans Zh q)
  have zt2 : h0.size ≤ t4' := ht.elim (fun q => by rw [q]; exact zt0) (fun q => Nat.le_trans hKp.1 q)
  have hRs13 := CHr.keep Kd (fun x hx => by simp only [List.mem_cons, List.not_mem_nil, or_false] at hx; rcases hx with rfl | rfl <;> first | exact So hZ.alike Eb0 | exact Sf_t) hR.1
  have hR := hR.trans hRs13
  have Zh := Nat.le_trans Zh Kd.1
  have hk := Nat.le_trans hk Kd.1
  have Nf := Fr.app Nf Nd
  have hKp := hKp.trans Kd (fun x hx => by simp only [List.mem_cons, List.not_mem_nil, or_false] at hx; rcases hx with rfl | rfl <;> first | exact Or.inr zb | exact Or.inr zt0)
  have Sf_t := Sf_t2
  have gt := gt2
  have zt0 := zt2
  have hcl : (((([] ++ ([34] : List Int32)) ++ ds1) ++ ([34, 44, 32, 103, 105, 118, 101, 110, 32, 98, 121, 32] : List Int32)) ++ ds2).length ≤ 19 := by rw [List.length_append]; first | (have := l1; have := l2; omega) | (have h9 := hcl; simp only [List.length_cons, List.length_nil] at h9 ⊢; omega)
  obtain ⟨cq14, kq14, q14a, q14b, q14c⟩ := isOf hZ rfl B.1
  obtain ⟨_, _, ⟨T14, L14, k14, n14⟩, -, X14, ⟨Lc14, hQ14, l14, y14, z14⟩, st14⟩ := X13.virtualBack hx (y := (⟨"java/lang/StringBuilder", "toString", "()Ljava/lang/String;"⟩ : MethodName)) (z := (⟨"java/lang/StringBuilder", "toString", "()Ljava/lang/String;"⟩ : MethodName)) hown (mvT hZ (hw _ (List.mem_of_getElem? (i := 125) rfl))) (mvT hZ (hw _ (List.mem_of_getElem? (i := 126) rfl))) (notFace_of_selects (args := #[]) (mvT hZ (hw _ (List.mem_of_getElem? (i := 128) rfl)))) (mvT hZ (hw _ (List.mem_of_getElem? (i := 128) rfl))) (mvT hZ (hw _ (List.mem_of_getElem? (i := 127) rfl))) (by decide) (backOf (W := 0) (rmTs l Z a0 hw [] b1 t4' cap4' (((([] ++ ([34] : List Int32)) ++ ds1) ++ ([34, 44, 32, 103, 105, 118, 101, 110, 32, 98, 121, 32] : List Int32)) ++ ds2) G1 T13.heap n0 Zh O2 P5 (X00.keep hKp (fun x hx => by cases hx)) B (by omega)) hZ (hw _ (List.mem_of_getElem? (i := 129) rfl)) (hw _ (List.mem_of_getElem? (i := 60) rfl)) (by decide) (by decide)) q14a q14c (g := (mkF m 31 #[.val (.ref o)] [(.ref b1)])) rfl (by rw [hml]; rfl) (Steps.refl _) (argsL := []) (rest := []) (lenOf pd21 rfl) rfl (by show 2 * 0 + _ ≤ _; exact Nat.le_of_eq rfl) (hb hby dDe_31) (fun _ _ => ⟨rfl, rfl, (by decide : 10 + 2 ≤ _), (by decide : 920 + 104 ≤ _)⟩)
  dsimp only [Pt.U, Pt.locs, Pt.cells, Pt.slots] at X14 l14 y14 z14 st14 hQ14
  subst l14 y14 z14
  obtain ⟨⟨rr, tr, rfl, -, Sr⟩, Nt, Kt⟩ := hQ14
  have c14 : Steps p.tables e below S0 (T14.setTop (mkF m 34 #[.val (.ref o)] [(.ref rr)])) := by
    refine c13.trans ?_
    show Steps p.tables e below (T13.setTop (mkF m 31 #[.val (.ref o)] [(.ref b1)])) _
    refine st14.trans ?_
    exact Steps.refl _
  have hRs14 := CHr.keep Kt (fun x hx => by cases hx) hR.1
  have hR := hR.trans hRs14
  have Zh := Nat.le_trans Zh Kt.1
  have hk := Nat.le_trans hk Kt.1
  obtain ⟨fs, hr, hrun, hended, hW⟩ := X14.leaveW hS hk (v := some (.ref rr)) (fun h => by rw [Bd.returns] at h; cases h)
  refine ⟨_, _, c14.trans ?_, hrun, hended, _, _, rfl, ?_, ?_, hW.1, hW.2.1, hW.2.2.1, hW.2.2.2.mono (by decide) (by decide)⟩
  · show Steps p.tables e below (T14.setTop (mkF m 34 #[.val (.ref o)] [(.ref rr)])) _
    exact retA X14 hx Bd.returns rfl rfl (hb hby dDe_34) hr
  · show QDe Z o u tu q tq ds1 ds2 G1 h0 n0 _ T14.heap _
    exact ⟨⟨_, _, rfl, Sr⟩, Fr.app Nf Nt, hKp.trans Kt (fun x hx => by cases hx)⟩
  · show CHr Z consts_1 s.vm s.heap T14.vm T14.heap
    rw [hh, ← hV0]
    exact hR.trans (CHv.at X14 hZ hEL hR.1)
def QSm (Z : State) (r : Addr) (tr : Addr) (cs : List Int32) (pp : Nat) (a : Addr) (ta : Addr) (ds : List Int32) (G1 : Int32) (fm : Value) (h0 : Heap) (n0 : Nat) (v : Option Value) (h : Heap) (L : List Loc) : Prop := v = some (.int 1) ∧ Fr n0 L ∧ h = h0
theorem efSm (m : MethodId) (r : Addr) (pp : Nat) (a : Addr) : entryFrame m #[(.ref r), (.int (Int32.ofNat pp)), (.ref a)] 4 = mkF m 0 #[.val (.ref r), .val (.int (Int32.ofNat pp)), .val (.ref a), .unset] [] := by first | (simp [entryFrame, mkF, argsToLocals, Value.category, List.replicate]; done) | rfl
set_option maxRecDepth 65536 in
set_option maxHeartbeats 40000000 in
theorem rmSm (l : Launch) (Z : State) (a0 : Array Value) (hw : ∀ d ∈ tables_1, d.before a0 Z = true) (ws : List Jvm.Cond) (r : Addr) (tr : Addr) (cs : List Int32) (pp : Nat) (a : Addr) (ta : Addr) (ds : List Int32) (G1 : Int32) (fm : Value) (h0 : Heap) (n0 : Nat) (Z0 : n0 ≤ h0.size) (O2 : Sta Z Z.heap "java/lang/String" "COMPACT_STRINGS" "Z" (.int G1)) (P5 : ¬ G1 = 0) (X00 : Old Z n0 h0) (Sf : Sta Z Z.heap "jdk/internal/util/Preconditions" "SIOOBE_FORMATTER" "Ljava/util/function/BiFunction;" fm) (rf : fm.isRef = true) (Sr : own_Str Z h0 r tr cs) (S : own_Str Z h0 a ta ds) (hl : ds.length ≤ 12) (hcs : cs.length ≤ 100) (hfit : pp + ds.length ≤ cs.length) (hsame : ∀ j, j < ds.length → cs.getD (pp + j) 0 = ds.getD j 0) :
    MetFree l (⟨"implicitwiring/internal/SettingDescribedPinLaw", "sameAt", "(Ljava/lang/String;ILjava/lang/String;)Z"⟩ : MethodName) (head1 (Jvm.Cond.code (⟨"implicitwiring/internal/SettingDescribedPinLaw", "sameAt", "(Ljava/lang/String;ILjava/lang/String;)Z"⟩ : MethodName) method_4_code 4 (some .boolean) :: ws) ({ frames := 5, cells := 0, slots := 0, locals := 75 } : Room)) (fun aa UU => aa = #[(.ref r), (.int (Int32.ofNat pp)), (.ref a)] ∧ Z.Warmed39 UU.vm ∧ UU.heap = h0) (fun _ _ _ _ _ => True) (fun _ UU oo UT => ∃ vv LL, oo = .returned vv ∧ QSm Z r tr cs pp a ta ds G1 fm h0 n0 vv UT.heap LL ∧ FrameEnd UU oo UT LL ({ frames := 5, cells := 0, slots := 0, locals := 75 } : Room).cells ({ frames := 5, cells := 0, slots := 0, locals := 75 } : Room).slots) := by
  refine MetFree.of_bodySF (plainFor_of_name pn0) hisR ?_
  intro p e s m args below meth c s₁ Bd hml0 hP hK
  obtain ⟨rfl, hZ, hh⟩ := hP
  have hx := Bd.exec
  have hby := Bd.bytes
  have hml : c.maxLocals = 4 := hml0
  have hown : s.vm.findClass "implicitwiring/internal/SettingDescribedPinLaw" = some m.cls := findClass_of_methodNamed Bd.named
  have hnm := (name_of_methodNamed Bd.named Bd.method).1
  have X0 : Stand p l e ({ frames := 5, cells := 0, slots := 0, locals := 75 } : Room) s m #[(.ref r), (.int (Int32.ofNat pp)), (.ref a)] below meth c s₁ [] 0 0 := Stand.of_body Bd
  have e0 : s₁.heap = h0 := by rw [← hh, Bd.state]; rfl
  have N0 := Fr.nil n0
  have c0 : Steps p.tables e below (s₁.setTop (entryFrame m #[(.ref r), (.int (Int32.ofNat pp)), (.ref a)] 4)) (s₁.setTop (mkF m 0 #[.val (.ref r), .val (.int (Int32.ofNat pp)), .val (.ref a), .unset] [])) := castTop (efSm m r pp a) (Steps.refl _)
  show ∃ s₂ oo, Steps p.tables e below (s₁.setTop (entryFrame m #[(.ref r), (.int (Int32.ofNat pp)), (.ref a)] 4)) s₂ ∧ _ ∧ _ ∧ _
  generalize s₁.setTop (entryFrame m #[(.ref r), (.int (Int32.ofNat pp)), (.ref a)] 4) = S0 at c0 ⊢
  have c1 : Steps p.tables e below S0 (s₁.setTop (mkF m 1 #[.val (.ref r), .val (.int (Int32.ofNat pp)), .val (.ref a), .unset] [(.ref a)])) := by
    refine c0.trans ?_
    show Steps p.tables e below (s₁.setTop (mkF m 0 #[.val (.ref r), .val (.int (Int32.ofNat pp)), .val (.ref a), .unset] [])) _
    refine XS.aloadN X0.here hx rfl (hb hby dSm_0) rfl rfl ?_
    exact Steps.refl _
  obtain ⟨cq2, kq2, q2a, q2b, q2c⟩ := isOf hZ e0 S.1
  obtain ⟨_, _, ⟨T2, L2, k2, n2⟩, -, X2, ⟨Lc2, hQ2, l2, y2, z2⟩, st2⟩ := X0.virtualBack hx (y := (⟨"java/lang/String", "length", "()I"⟩ : MethodName)) (z := (⟨"java/lang/String", "length", "()I"⟩ : MethodName)) hown (mvT hZ (hw _ (List.mem_of_getElem? (i := 170) rfl))) (mvT hZ (hw _ (List.mem_of_getElem? (i := 88) rfl))) (notFace_of_selects (args := #[]) (mvT hZ (hw _ (List.mem_of_getElem? (i := 90) rfl)))) (mvT hZ (hw _ (List.mem_of_getElem? (i := 90) rfl))) (mvT hZ (hw _ (List.mem_of_getElem? (i := 89) rfl))) (by decide) (backOf (W := 0) (rmLe l Z a0 hw [] a ta ds G1 h0 n0 Z0 O2 P5 X00 S (by omega)) hZ (hw _ (List.mem_of_getElem? (i := 91) rfl)) (hw _ (List.mem_of_getElem? (i := 6) rfl)) (by decide) (by decide)) q2a q2c (g := (mkF m 1 #[.val (.ref r), .val (.int (Int32.ofNat pp)), .val (.ref a), .unset] [(.ref a)])) rfl (by rw [hml]; rfl) (Steps.refl _) (argsL := []) (rest := []) (lenOf pd7 rfl) rfl (by show 2 * 0 + _ ≤ _; exact Nat.le_of_eq rfl) (hb hby dSm_1) (fun _ _ => ⟨rfl, e0, (by decide : 0 + 0 ≤ _), (by decide : 0 + 0 ≤ _)⟩)
  dsimp only [Pt.U, Pt.locs, Pt.cells, Pt.slots] at X2 l2 y2 z2 st2 hQ2
  subst l2 y2 z2
  obtain ⟨rfl, N1, e1⟩ := hQ2
  have c2 : Steps p.tables e below S0 (T2.setTop (mkF m 4 #[.val (.ref r), .val (.int (Int32.ofNat pp)), .val (.ref a), .unset] [(.int (Int32.ofNat ds.length))])) := by
    refine c1.trans ?_
    show Steps p.tables e below (s₁.setTop (mkF m 1 #[.val (.ref r), .val (.int (Int32.ofNat pp)), .val (.ref a), .unset] [(.ref a)])) _
    refine st2.trans ?_
    exact Steps.refl _
  have Nf := Fr.app N0 N1
  have c3 : Steps p.tables e below S0 (T2.setTop (mkF m 5 #[.val (.ref r), .val (.int (Int32.ofNat pp)), .val (.ref a), .val (.int (Int32.ofNat ds.length))] [])) := by
    refine c2.trans ?_
    show Steps p.tables e below (T2.setTop (mkF m 4 #[.val (.ref r), .val (.int (Int32.ofNat pp)), .val (.ref a), .unset] [(.int (Int32.ofNat ds.length))])) _
    refine XS.istoreN X2.here hx rfl (hb hby dSm_4) rfl (l' := #[.val (.ref r), .val (.int (Int32.ofNat pp)), .val (.ref a), .val (.int (Int32.ofNat ds.length))]) rfl ?_
    exact Steps.refl _
  obtain ⟨T4, LL4, X4, e4, Nf, c4⟩ : ∃ (T : State) (L : List Loc), Stand p l e ({ frames := 5, cells := 0, slots := 0, locals := 75 } : Room) s m #[(.ref r), (.int (Int32.ofNat pp)), (.ref a)] below meth c T L 0 0 ∧ T.heap = h0 ∧ Fr n0 L ∧ Steps p.tables e below S0 (T.setTop (mkF m 23 #[.val (.ref r), .val (.int (Int32.ofNat pp)), .val (.ref a), .val (.int (Int32.ofNat ds.length))] [])) := by
    by_cases hg : ds.length ≤ 0
    · have c11 : Steps p.tables e below S0 (T2.setTop (mkF m 23 #[.val (.ref r), .val (.int (Int32.ofNat pp)), .val (.ref a), .val (.int (Int32.ofNat ds.length))] [])) := by
        refine c3.trans ?_
        show Steps p.tables e below (T2.setTop (mkF m 5 #[.val (.ref r), .val (.int (Int32.ofNat pp)), .val (.ref a), .val (.int (Int32.ofNat ds.length))] [])) _
        refine XS.iloadN X2.here hx rfl (hb hby dSm_5) rfl ?_
        show Steps p.tables e below (T2.setTop (mkF m 6 #[.val (.ref r), .val (.int (Int32.ofNat pp)), .val (.ref a), .val (.int (Int32.ofNat ds.length))] [(.int (Int32.ofNat ds.length))])) _
        refine XS.iconst X2.here hx rfl (hb hby dSm_6) ?_
        show Steps p.tables e below (T2.setTop (mkF m 7 #[.val (.ref r), .val (.int (Int32.ofNat pp)), .val (.ref a), .val (.int (Int32.ofNat ds.length))] [(.int (1 : Int32)), (.int (Int32.ofNat ds.length))])) _
        refine XS.icmpYes X2.here hx rfl (pc0 := 7) (pc' := 23) rfl (hb hby dSm_7) rfl (tlt ((own_ltn (b := 1) (by omega) (by omega)).mpr (by omega))).1 (by decide) (by decide) ?_
        exact Steps.refl _
      exact ⟨_, _, X2, e1, Nf, c11⟩
    · have hj : 0 < ds.length := by omega
      have c5 : Steps p.tables e below S0 (T2.setTop (mkF m 10 #[.val (.ref r), .val (.int (Int32.ofNat pp)), .val (.ref a), .val (.int (Int32.ofNat ds.length))] [])) := by
        refine c3.trans ?_
        show Steps p.tables e below (T2.setTop (mkF m 5 #[.val (.ref r), .val (.int (Int32.ofNat pp)), .val (.ref a), .val (.int (Int32.ofNat ds.length))] [])) _
        refine XS.iloadN X2.here hx rfl (hb hby dSm_5) rfl ?_
        show Steps p.tables e below (T2.setTop (mkF m 6 #[.val (.ref r), .val (.int (Int32.ofNat pp)), .val (.ref a), .val (.int (Int32.ofNat ds.length))] [(.int (Int32.ofNat ds.length))])) _
        refine XS.iconst X2.here hx rfl (hb hby dSm_6) ?_
        show Steps p.tables e below (T2.setTop (mkF m 7 #[.val (.ref r), .val (.int (Int32.ofNat pp)), .val (.ref a), .val (.int (Int32.ofNat ds.length))] [(.int (1 : Int32)), (.int (Int32.ofNat ds.length))])) _
        refine XS.icmpNo X2.here hx rfl (hb hby dSm_7) rfl (flt (fun q => by have := (own_ltn (b := 1) (by omega) (by omega)).mp q; omega)).1 ?_
        exact Steps.refl _
      have c6 : Steps p.tables e below S0 (T2.setTop (mkF m 12 #[.val (.ref r), .val (.int (Int32.ofNat pp)), .val (.ref a), .val (.int (Int32.ofNat ds.length))] [(.int (Int32.ofNat pp)), (.ref r)])) := by
        refine c5.trans ?_
        show Steps p.tables e below (T2.setTop (mkF m 10 #[.val (.ref r), .val (.int (Int32.ofNat pp)), .val (.ref a), .val (.int (Int32.ofNat ds.length))] [])) _
        refine XS.aloadN X2.here hx rfl (hb hby dSm_10) rfl rfl ?_
        show Steps p.tables e below (T2.setTop (mkF m 11 #[.val (.ref r), .val (.int (Int32.ofNat pp)), .val (.ref a), .val (.int (Int32.ofNat ds.length))] [(.ref r)])) _
        refine XS.iloadN X2.here hx rfl (hb hby dSm_11) rfl ?_
        exact Steps.refl _
      obtain ⟨cq7, kq7, q7a, q7b, q7c⟩ := isOf hZ e1 Sr.1
      obtain ⟨_, _, ⟨T7, L7, k7, n7⟩, -, X7, ⟨Lc7, hQ7, l7, y7, z7⟩, st7⟩ := X2.virtualBack hx (y := (⟨"java/lang/String", "charAt", "(I)C"⟩ : MethodName)) (z := (⟨"java/lang/String", "charAt", "(I)C"⟩ : MethodName)) hown (mvT hZ (hw _ (List.mem_of_getElem? (i := 171) rfl))) (mvT hZ (hw _ (List.mem_of_getElem? (i := 172) rfl))) (notFace_of_selects (args := #[]) (mvT hZ (hw _ (List.mem_of_getElem? (i := 174) rfl)))) (mvT hZ (hw _ (List.mem_of_getElem? (i := 174) rfl))) (mvT hZ (hw _ (List.mem_of_getElem? (i := 173) rfl))) (by decide) (StrChars.Road.chN (W := 0) (i := (pp + 0)) hZ (fun d hd => hw d ((by decide +kernel : ∀ d ∈ StrChars.Road.wordsChN, d ∈ tables_1) d hd)) (kI := 4) (hw _ (List.mem_of_getElem? (i := 5) rfl)) Sr.1 Sr.2.2.1 Sr.2.1 Sr.2.2.2.1.choose_spec Sr.cod Sr.wide (O2.ext X00.2) P5 (Sf.ext X00.2) rf Sr.2.2.2.2.2 (by omega) rfl (by decide) (by decide)) q7a q7c (g := (mkF m 12 #[.val (.ref r), .val (.int (Int32.ofNat pp)), .val (.ref a), .val (.int (Int32.ofNat ds.length))] [(.int (Int32.ofNat pp)), (.ref r)])) rfl (by rw [hml]; rfl) (Steps.refl _) (argsL := [(.int (Int32.ofNat pp))]) (rest := []) (lenOf pd22 rfl) rfl (by show 2 * 0 + _ ≤ _; exact Nat.le_of_eq rfl) (hb hby dSm_12) (fun _ _ => ⟨rfl, e1, (by decide : 0 + 0 ≤ _), (by decide : 0 + 0 ≤ _)⟩)
      dsimp only [Pt.U, Pt.locs, Pt.cells, Pt.slots] at X7 l7 y7 z7 st7 hQ7
      subst l7 y7 z7
      obtain ⟨rfl, rfl, ec7⟩ := hQ7
      have c7 : Steps p.tables e below S0 (T7.setTop (mkF m 15 #[.val (.ref r), .val (.int (Int32.ofNat pp)), .val (.ref a), .val (.int (Int32.ofNat ds.length))] [(.int (cs.getD (pp + 0) 0))])) := by
        refine c6.trans ?_
        show Steps p.tables e below (T2.setTop (mkF m 12 #[.val (.ref r), .val (.int (Int32.ofNat pp)), .val (.ref a), .val (.int (Int32.ofNat ds.length))] [(.int (Int32.ofNat pp)), (.ref r)])) _
        refine st7.trans ?_
        exact Steps.refl _
      have c8 : Steps p.tables e below S0 (T7.setTop (mkF m 17 #[.val (.ref r), .val (.int (Int32.ofNat pp)), .val (.ref a), .val (.int (Int32.ofNat ds.length))] [(.int (0 : Int32)), (.ref a), (.int (cs.getD (pp + 0) 0))])) := by
        refine c7.trans ?_
        show Steps p.tables e below (T7.setTop (mkF m 15 #[.val (.ref r), .val (.int (Int32.ofNat pp)), .val (.ref a), .val (.int (Int32.ofNat ds.length))] [(.int (cs.getD (pp + 0) 0))])) _
        refine XS.aloadN X7.here hx rfl (hb hby dSm_15) rfl rfl ?_
        show Steps p.tables e below (T7.setTop (mkF m 16 #[.val (.ref r), .val (.int (Int32.ofNat pp)), .val (.ref a), .val (.int (Int32.ofNat ds.length))] [(.ref a), (.int (cs.getD (pp + 0) 0))])) _
        refine XS.iconst X7.here hx rfl (hb hby dSm_16) ?_
        exact Steps.refl _
      obtain ⟨cq9, kq9, q9a, q9b, q9c⟩ := isOf hZ ec7 S.1
      obtain ⟨_, _, ⟨T9, L9, k9, n9⟩, -, X9, ⟨Lc9, hQ9, l9, y9, z9⟩, st9⟩ := X7.virtualBack hx (y := (⟨"java/lang/String", "charAt", "(I)C"⟩ : MethodName)) (z := (⟨"java/lang/String", "charAt", "(I)C"⟩ : MethodName)) hown (mvT hZ (hw _ (List.mem_of_getElem? (i := 171) rfl))) (mvT hZ (hw _ (List.mem_of_getElem? (i := 172) rfl))) (notFace_of_selects (args := #[]) (mvT hZ (hw _ (List.mem_of_getElem? (i := 174) rfl)))) (mvT hZ (hw _ (List.mem_of_getElem? (i := 174) rfl))) (mvT hZ (hw _ (List.mem_of_getElem? (i := 173) rfl))) (by decide) (StrChars.Road.chN (W := 1) (i := 0) hZ (fun d hd => hw d ((by decide +kernel : ∀ d ∈ StrChars.Road.wordsChN, d ∈ tables_1) d hd)) (kI := 4) (hw _ (List.mem_of_getElem? (i := 5) rfl)) S.1 S.2.2.1 S.2.1 S.2.2.2.1.choose_spec S.cod S.wide (O2.ext X00.2) P5 (Sf.ext X00.2) rf S.2.2.2.2.2 (by omega) rfl (by decide) (by decide)) q9a q9c (g := (mkF m 17 #[.val (.ref r), .val (.int (Int32.ofNat pp)), .val (.ref a), .val (.int (Int32.ofNat ds.length))] [(.int (0 : Int32)), (.ref a), (.int (cs.getD (pp + 0) 0))])) rfl (by rw [hml]; rfl) (Steps.refl _) (argsL := [(.int (0 : Int32))]) (rest := [(.int (cs.getD (pp + 0) 0))]) (lenOf pd22 rfl) rfl (by show 2 * 0 + _ ≤ _; exact Nat.le_of_eq rfl) (hb hby dSm_17) (fun _ _ => ⟨rfl, ec7, (by decide : 0 + 0 ≤ _), (by decide : 0 + 0 ≤ _)⟩)
      dsimp only [Pt.U, Pt.locs, Pt.cells, Pt.slots] at X9 l9 y9 z9 st9 hQ9
      subst l9 y9 z9
      obtain ⟨rfl, rfl, ec9⟩ := hQ9
      have c9 : Steps p.tables e below S0 (T9.setTop (mkF m 20 #[.val (.ref r), .val (.int (Int32.ofNat pp)), .val (.ref a), .val (.int (Int32.ofNat ds.length))] [(.int (ds.getD 0 0)), (.int (cs.getD (pp + 0) 0))])) := by
        refine c8.trans ?_
        show Steps p.tables e below (T7.setTop (mkF m 17 #[.val (.ref r), .val (.int (Int32.ofNat pp)), .val (.ref a), .val (.int (Int32.ofNat ds.length))] [(.int (0 : Int32)), (.ref a), (.int (cs.getD (pp + 0) 0))])) _
        refine st9.trans ?_
        exact Steps.refl _
      have c10 : Steps p.tables e below S0 (T9.setTop (mkF m 23 #[.val (.ref r), .val (.int (Int32.ofNat pp)), .val (.ref a), .val (.int (Int32.ofNat ds.length))] [])) := by
        refine c9.trans ?_
        show Steps p.tables e below (T9.setTop (mkF m 20 #[.val (.ref r), .val (.int (Int32.ofNat pp)), .val (.ref a), .val (.int (Int32.ofNat ds.length))] [(.int (ds.getD 0 0)), (.int (cs.getD (pp + 0) 0))])) _
        refine XS.icmpNo X9.here hx rfl (hb hby dSm_20) rfl (teq (hsame 0 hj)).2 ?_
        exact Steps.refl _
      exact ⟨_, _, X9, ec9, Fr.app (Fr.app Nf (Fr.nil n0)) (Fr.nil n0), c10⟩
  obtain ⟨T12, LL12, X12, e12, Nf, c12⟩ : ∃ (T : State) (L : List Loc), Stand p l e ({ frames := 5, cells := 0, slots := 0, locals := 75 } : Room) s m #[(.ref r), (.int (Int32.ofNat pp)), (.ref a)] below meth c T L 0 0 ∧ T.heap = h0 ∧ Fr n0 L ∧ Steps p.tables e below S0 (T.setTop (mkF m 43 #[.val (.ref r), .val (.int (Int32.ofNat pp)), .val (.ref a), .val (.int (Int32.ofNat ds.length))] [])) := by
    by_cases hg : ds.length ≤ 1
    · have c19 : Steps p.tables e below S0 (T4.setTop (mkF m 43 #[.val (.ref r), .val (.int (Int32.ofNat pp)), .val (.ref a), .val (.int (Int32.ofNat ds.length))] [])) := by
        refine c4.trans ?_
        show Steps p.tables e below (T4.setTop (mkF m 23 #[.val (.ref r), .val (.int (Int32.ofNat pp)), .val (.ref a), .val (.int (Int32.ofNat ds.length))] [])) _
        refine XS.iloadN X4.here hx rfl (hb hby dSm_23) rfl ?_
        show Steps p.tables e below (T4.setTop (mkF m 24 #[.val (.ref r), .val (.int (Int32.ofNat pp)), .val (.ref a), .val (.int (Int32.ofNat ds.length))] [(.int (Int32.ofNat ds.length))])) _
        refine XS.iconst X4.here hx rfl (hb hby dSm_24) ?_
        show Steps p.tables e below (T4.setTop (mkF m 25 #[.val (.ref r), .val (.int (Int32.ofNat pp)), .val (.ref a), .val (.int (Int32.ofNat ds.length))] [(.int (2 : Int32)), (.int (Int32.ofNat ds.length))])) _
        refine XS.icmpYes X4.here hx rfl (pc0 := 25) (pc' := 43) rfl (hb hby dSm_25) rfl (tlt ((own_ltn (b := 2) (by omega) (by omega)).mpr (by omega))).1 (by decide) (by decide) ?_
        exact Steps.refl _
      exact ⟨_, _, X4, e4, Nf, c19⟩
    · have hj : 1 < ds.length := by omega
      have c13 : Steps p.tables e below S0 (T4.setTop (mkF m 28 #[.val (.ref r), .val (.int (Int32.ofNat pp)), .val (.ref a), .val (.int (Int32.ofNat ds.length))] [])) := by
        refine c4.trans ?_
        show Steps p.tables e below (T4.setTop (mkF m 23 #[.val (.ref r), .val (.int (Int32.ofNat pp)), .val (.ref a), .val (.int (Int32.ofNat ds.length))] [])) _
        refine XS.iloadN X4.here hx rfl (hb hby dSm_23) rfl ?_
        show Steps p.tables e below (T4.setTop (mkF m 24 #[.val (.ref r), .val (.int (Int32.ofNat pp)), .val (.ref a), .val (.int (Int32.ofNat ds.length))] [(.int (Int32.ofNat ds.length))])) _
        refine XS.iconst X4.here hx rfl (hb hby dSm_24) ?_
        show Steps p.tables e below (T4.setTop (mkF m 25 #[.val (.ref r), .val (.int (Int32.ofNat pp)), .val (.ref a), .val (.int (Int32.ofNat ds.length))] [(.int (2 : Int32)), (.int (Int32.ofNat ds.length))])) _
        refine XS.icmpNo X4.here hx rfl (hb hby dSm_25) rfl (flt (fun q => by have := (own_ltn (b := 2) (by omega) (by omega)).mp q; omega)).1 ?_
        exact Steps.refl _
      have c14 : Steps p.tables e below S0 (T4.setTop (mkF m 32 #[.val (.ref r), .val (.int (Int32.ofNat pp)), .val (.ref a), .val (.int (Int32.ofNat ds.length))] [(.int ((Int32.ofNat pp) + (1 : Int32))), (.ref r)])) := by
        refine c13.trans ?_
        show Steps p.tables e below (T4.setTop (mkF m 28 #[.val (.ref r), .val (.int (Int32.ofNat pp)), .val (.ref a), .val (.int (Int32.ofNat ds.length))] [])) _
        refine XS.aloadN X4.here hx rfl (hb hby dSm_28) rfl rfl ?_
        show Steps p.tables e below (T4.setTop (mkF m 29 #[.val (.ref r), .val (.int (Int32.ofNat pp)), .val (.ref a), .val (.int (Int32.ofNat ds.length))] [(.ref r)])) _
        refine XS.iloadN X4.here hx rfl (hb hby dSm_29) rfl ?_
        show Steps p.tables e below (T4.setTop (mkF m 30 #[.val (.ref r), .val (.int (Int32.ofNat pp)), .val (.ref a), .val (.int (Int32.ofNat ds.length))] [(.int (Int32.ofNat pp)), (.ref r)])) _
        refine XS.iconst X4.here hx rfl (hb hby dSm_30) ?_
        show Steps p.tables e below (T4.setTop (mkF m 31 #[.val (.ref r), .val (.int (Int32.ofNat pp)), .val (.ref a), .val (.int (Int32.ofNat ds.length))] [(.int (1 : Int32)), (.int (Int32.ofNat pp)), (.ref r)])) _
        refine XS.iadd X4.here hx rfl (hb hby dSm_31) rfl ?_
        exact Steps.refl _
      have ha : Int32.ofNat pp + (1 : Int32) = Int32.ofNat (pp + 1) := own_addn (b := 1) (by omega)
      obtain ⟨cq15, kq15, q15a, q15b, q15c⟩ := isOf hZ e4 Sr.1
      obtain ⟨_, _, ⟨T15, L15, k15, n15⟩, -, X15, ⟨Lc15, hQ15, l15, y15, z15⟩, st15⟩ := X4.virtualBack hx (y := (⟨"java/lang/String", "charAt", "(I)C"⟩ : MethodName)) (z := (⟨"java/lang/String", "charAt", "(I)C"⟩ : MethodName)) hown (mvT hZ (hw _ (List.mem_of_getElem? (i := 171) rfl))) (mvT hZ (hw _ (List.mem_of_getElem? (i := 172) rfl))) (notFace_of_selects (args := #[]) (mvT hZ (hw _ (List.mem_of_getElem? (i := 174) rfl)))) (mvT hZ (hw _ (List.mem_of_getElem? (i := 174) rfl))) (mvT hZ (hw _ (List.mem_of_getElem? (i := 173) rfl))) (by decide) (StrChars.Road.chN (W := 0) (i := (pp + 1)) hZ (fun d hd => hw d ((by decide +kernel : ∀ d ∈ StrChars.Road.wordsChN, d ∈ tables_1) d hd)) (kI := 4) (hw _ (List.mem_of_getElem? (i := 5) rfl)) Sr.1 Sr.2.2.1 Sr.2.1 Sr.2.2.2.1.choose_spec Sr.cod Sr.wide (O2.ext X00.2) P5 (Sf.ext X00.2) rf Sr.2.2.2.2.2 (by omega) ha (by decide) (by decide)) q15a q15c (g := (mkF m 32 #[.val (.ref r), .val (.int (Int32.ofNat pp)), .val (.ref a), .val (.int (Int32.ofNat ds.length))] [(.int ((Int32.ofNat pp) + (1 : Int32))), (.ref r)])) rfl (by rw [hml]; rfl) (Steps.refl _) (argsL := [(.int ((Int32.ofNat pp) + (1 : Int32)))]) (rest := []) (lenOf pd22 rfl) rfl (by show 2 * 0 + _ ≤ _; exact Nat.le_of_eq rfl) (hb hby dSm_32) (fun _ _ => ⟨rfl, e4, (by decide : 0 + 0 ≤ _), (by decide : 0 + 0 ≤ _)⟩)
      dsimp only [Pt.U, Pt.locs, Pt.cells, Pt.slots] at X15 l15 y15 z15 st15 hQ15
      subst l15 y15 z15
      obtain ⟨rfl, rfl, ec15⟩ := hQ15
      have c15 : Steps p.tables e below S0 (T15.setTop (mkF m 35 #[.val (.ref r), .val (.int (Int32.ofNat pp)), .val (.ref a), .val (.int (Int32.ofNat ds.length))] [(.int (cs.getD (pp + 1) 0))])) := by
        refine c14.trans ?_
        show Steps p.tables e below (T4.setTop (mkF m 32 #[.val (.ref r), .val (.int (Int32.ofNat pp)), .val (.ref a), .val (.int (Int32.ofNat ds.length))] [(.int ((Int32.ofNat pp) + (1 : Int32))), (.ref r)])) _
        refine st15.trans ?_
        exact Steps.refl _
      have c16 : Steps p.tables e below S0 (T15.setTop (mkF m 37 #[.val (.ref r), .val (.int (Int32.ofNat pp)), .val (.ref a), .val (.int (Int32.ofNat ds.length))] [(.int (1 : Int32)), (.ref a), (.int (cs.getD (pp + 1) 0))])) := by
        refine c15.trans ?_
        show Steps p.tables e below (T15.setTop (mkF m 35 #[.val (.ref r), .val (.int (Int32.ofNat pp)), .val (.ref a), .val (.int (Int32.ofNat ds.length))] [(.int (cs.getD (pp + 1) 0))])) _
        refine XS.aloadN X15.here hx rfl (hb hby dSm_35) rfl rfl ?_
        show Steps p.tables e below (T15.setTop (mkF m 36 #[.val (.ref r), .val (.int (Int32.ofNat pp)), .val (.ref a), .val (.int (Int32.ofNat ds.length))] [(.ref a), (.int (cs.getD (pp + 1) 0))])) _
        refine XS.iconst X15.here hx rfl (hb hby dSm_36) ?_
        exact Steps.refl _
      obtain ⟨cq17, kq17, q17a, q17b, q17c⟩ := isOf hZ ec15 S.1
      obtain ⟨_, _, ⟨T17, L17, k17, n17⟩, -, X17, ⟨Lc17, hQ17, l17, y17, z17⟩, st17⟩ := X15.virtualBack hx (y := (⟨"java/lang/String", "charAt", "(I)C"⟩ : MethodName)) (z := (⟨"java/lang/String", "charAt", "(I)C"⟩ : MethodName)) hown (mvT hZ (hw _ (List.mem_of_getElem? (i := 171) rfl))) (mvT hZ (hw _ (List.mem_of_getElem? (i := 172) rfl))) (notFace_of_selects (args := #[]) (mvT hZ (hw _ (List.mem_of_getElem? (i := 174) rfl)))) (mvT hZ (hw _ (List.mem_of_getElem? (i := 174) rfl))) (mvT hZ (hw _ (List.mem_of_getElem? (i := 173) rfl))) (by decide) (StrChars.Road.chN (W := 1) (i := 1) hZ (fun d hd => hw d ((by decide +kernel : ∀ d ∈ StrChars.Road.wordsChN, d ∈ tables_1) d hd)) (kI := 4) (hw _ (List.mem_of_getElem? (i := 5) rfl)) S.1 S.2.2.1 S.2.1 S.2.2.2.1.choose_spec S.cod S.wide (O2.ext X00.2) P5 (Sf.ext X00.2) rf S.2.2.2.2.2 (by omega) rfl (by decide) (by decide)) q17a q17c (g := (mkF m 37 #[.val (.ref r), .val (.int (Int32.ofNat pp)), .val (.ref a), .val (.int (Int32.ofNat ds.length))] [(.int (1 : Int32)), (.ref a), (.int (cs.getD (pp + 1) 0))])) rfl (by rw [hml]; rfl) (Steps.refl _) (argsL := [(.int (1 : Int32))]) (rest := [(.int (cs.getD (pp + 1) 0))]) (lenOf pd22 rfl) rfl (by show 2 * 0 + _ ≤ _; exact Nat.le_of_eq rfl) (hb hby dSm_37) (fun _ _ => ⟨rfl, ec15, (by decide : 0 + 0 ≤ _), (by decide : 0 + 0 ≤ _)⟩)
      dsimp only [Pt.U, Pt.locs, Pt.cells, Pt.slots] at X17 l17 y17 z17 st17 hQ17
      subst l17 y17 z17
      obtain ⟨rfl, rfl, ec17⟩ := hQ17
      have c17 : Steps p.tables e below S0 (T17.setTop (mkF m 40 #[.val (.ref r), .val (.int (Int32.ofNat pp)), .val (.ref a), .val (.int (Int32.ofNat ds.length))] [(.int (ds.getD 1 0)), (.int (cs.getD (pp + 1) 0))])) := by
        refine c16.trans ?_
        show Steps p.tables e below (T15.setTop (mkF m 37 #[.val (.ref r), .val (.int (Int32.ofNat pp)), .val (.ref a), .val (.int (Int32.ofNat ds.length))] [(.int (1 : Int32)), (.ref a), (.int (cs.getD (pp + 1) 0))])) _
        refine st17.trans ?_
        exact Steps.refl _
      have c18 : Steps p.tables e below S0 (T17.setTop (mkF m 43 #[.val (.ref r), .val (.int (Int32.ofNat pp)), .val (.ref a), .val (.int (Int32.ofNat ds.length))] [])) := by
        refine c17.trans ?_
        show Steps p.tables e below (T17.setTop (mkF m 40 #[.val (.ref r), .val (.int (Int32.ofNat pp)), .val (.ref a), .val (.int (Int32.ofNat ds.length))] [(.int (ds.getD 1 0)), (.int (cs.getD (pp + 1) 0))])) _
        refine XS.icmpNo X17.here hx rfl (hb hby dSm_40) rfl (teq (hsame 1 hj)).2 ?_
        exact Steps.refl _
      exact ⟨_, _, X17, ec17, Fr.app (Fr.app Nf (Fr.nil n0)) (Fr.nil n0), c18⟩
  obtain ⟨T20, LL20, X20, e20, Nf, c20⟩ : ∃ (T : State) (L : List Loc), Stand p l e ({ frames := 5, cells := 0, slots := 0, locals := 75 } : Room) s m #[(.ref r), (.int (Int32.ofNat pp)), (.ref a)] below meth c T L 0 0 ∧ T.heap = h0 ∧ Fr n0 L ∧ Steps p.tables e below S0 (T.setTop (mkF m 63 #[.val (.ref r), .val (.int (Int32.ofNat pp)), .val (.ref a), .val (.int (Int32.ofNat ds.length))] [])) := by
    by_cases hg : ds.length ≤ 2
    · have c27 : Steps p.tables e below S0 (T12.setTop (mkF m 63 #[.val (.ref r), .val (.int (Int32.ofNat pp)), .val (.ref a), .val (.int (Int32.ofNat ds.length))] [])) := by
        refine c12.trans ?_
        show Steps p.tables e below (T12.setTop (mkF m 43 #[.val (.ref r), .val (.int (Int32.ofNat pp)), .val (.ref a), .val (.int (Int32.ofNat ds.length))] [])) _
        refine XS.iloadN X12.here hx rfl (hb hby dSm_43) rfl ?_
        show Steps p.tables e below (T12.setTop (mkF m 44 #[.val (.ref r), .val (.int (Int32.ofNat pp)), .val (.ref a), .val (.int (Int32.ofNat ds.length))] [(.int (Int32.ofNat ds.length))])) _
        refine XS.iconst X12.here hx rfl (hb hby dSm_44) ?_
        show Steps p.tables e below (T12.setTop (mkF m 45 #[.val (.ref r), .val (.int (Int32.ofNat pp)), .val (.ref a), .val (.int (Int32.ofNat ds.length))] [(.int (3 : Int32)), (.int (Int32.ofNat ds.length))])) _
        refine XS.icmpYes X12.here hx rfl (pc0 := 45) (pc' := 63) rfl (hb hby dSm_45) rfl (tlt ((own_ltn (b := 3) (by omega) (by omega)).mpr (by omega))).1 (by decide) (by decide) ?_
        exact Steps.refl _
      exact ⟨_, _, X12, e12, Nf, c27⟩
    · have hj : 2 < ds.length := by omega
      have c21 : Steps p.tables e below S0 (T12.setTop (mkF m 48 #[.val (.ref r), .val (.int (Int32.ofNat pp)), .val (.ref a), .val (.int (Int32.ofNat ds.length))] [])) := by
        refine c12.trans ?_
        show Steps p.tables e below (T12.setTop (mkF m 43 #[.val (.ref r), .val (.int (Int32.ofNat pp)), .val (.ref a), .val (.int (Int32.ofNat ds.length))] [])) _
        refine XS.iloadN X12.here hx rfl (hb hby dSm_43) rfl ?_
        show Steps p.tables e below (T12.setTop (mkF m 44 #[.val (.ref r), .val (.int (Int32.ofNat pp)), .val (.ref a), .val (.int (Int32.ofNat ds.length))] [(.int (Int32.ofNat ds.length))])) _
        refine XS.iconst X12.here hx rfl (hb hby dSm_44) ?_
        show Steps p.tables e below (T12.setTop (mkF m 45 #[.val (.ref r), .val (.int (Int32.ofNat pp)), .val (.ref a), .val (.int (Int32.ofNat ds.length))] [(.int (3 : Int32)), (.int (Int32.ofNat ds.length))])) _
        refine XS.icmpNo X12.here hx rfl (hb hby dSm_45) rfl (flt (fun q => by have := (own_ltn (b := 3) (by omega) (by omega)).mp q; omega)).1 ?_
        exact Steps.refl _
      have c22 : Steps p.tables e below S0 (T12.setTop (mkF m 52 #[.val (.ref r), .val (.int (Int32.ofNat pp)), .val (.ref a), .val (.int (Int32.ofNat ds.length))] [(.int ((Int32.ofNat pp) + (2 : Int32))), (.ref r)])) := by
        refine c21.trans ?_
        show Steps p.tables e below (T12.setTop (mkF m 48 #[.val (.ref r), .val (.int (Int32.ofNat pp)), .val (.ref a), .val (.int (Int32.ofNat ds.length))] [])) _
        refine XS.aloadN X12.here hx rfl (hb hby dSm_48) rfl rfl ?_
        show Steps p.tables e below (T12.setTop (mkF m 49 #[.val (.ref r), .val (.int (Int32.ofNat pp)), .val (.ref a), .val (.int (Int32.ofNat ds.length))] [(.ref r)])) _
        refine XS.iloadN X12.here hx rfl (hb hby dSm_49) rfl ?_
        show Steps p.tables e below (T12.setTop (mkF m 50 #[.val (.ref r), .val (.int (Int32.ofNat pp)), .val (.ref a), .val (.int (Int32.ofNat ds.length))] [(.int (Int32.ofNat pp)), (.ref r)])) _
        refine XS.iconst X12.here hx rfl (hb hby dSm_50) ?_
        show Steps p.tables e below (T12.setTop (mkF m 51 #[.val (.ref r), .val (.int (Int32.ofNat pp)), .val (.ref a), .val (.int (Int32.ofNat ds.length))] [(.int (2 : Int32)), (.int (Int32.ofNat pp)), (.ref r)])) _
        refine XS.iadd X12.here hx rfl (hb hby dSm_51) rfl ?_
        exact Steps.refl _
      have ha : Int32.ofNat pp + (2 : Int32) = Int32.ofNat (pp + 2) := own_addn (b := 2) (by omega)
      obtain ⟨cq23, kq23, q23a, q23b, q23c⟩ := isOf hZ e12 Sr.1
      obtain ⟨_, _, ⟨T23, L23, k23, n23⟩, -, X23, ⟨Lc23, hQ23, l23, y23, z23⟩, st23⟩ := X12.virtualBack hx (y := (⟨"java/lang/String", "charAt", "(I)C"⟩ : MethodName)) (z := (⟨"java/lang/String", "charAt", "(I)C"⟩ : MethodName)) hown (mvT hZ (hw _ (List.mem_of_getElem? (i := 171) rfl))) (mvT hZ (hw _ (List.mem_of_getElem? (i := 172) rfl))) (notFace_of_selects (args := #[]) (mvT hZ (hw _ (List.mem_of_getElem? (i := 174) rfl)))) (mvT hZ (hw _ (List.mem_of_getElem? (i := 174) rfl))) (mvT hZ (hw _ (List.mem_of_getElem? (i := 173) rfl))) (by decide) (StrChars.Road.chN (W := 0) (i := (pp + 2)) hZ (fun d hd => hw d ((by decide +kernel : ∀ d ∈ StrChars.Road.wordsChN, d ∈ tables_1) d hd)) (kI := 4) (hw _ (List.mem_of_getElem? (i := 5) rfl)) Sr.1 Sr.2.2.1 Sr.2.1 Sr.2.2.2.1.choose_spec Sr.cod Sr.wide (O2.ext X00.2) P5 (Sf.ext X00.2) rf Sr.2.2.2.2.2 (by omega) ha (by decide) (by decide)) q23a q23c (g := (mkF m 52 #[.val (.ref r), .val (.int (Int32.ofNat pp)), .val (.ref a), .val (.int (Int32.ofNat ds.length))] [(.int ((Int32.ofNat pp) + (2 : Int32))), (.ref r)])) rfl (by rw [hml]; rfl) (Steps.refl _) (argsL := [(.int ((Int32.ofNat pp) + (2 : Int32)))]) (rest := []) (lenOf pd22 rfl) rfl (by show 2 * 0 + _ ≤ _; exact Nat.le_of_eq rfl) (hb hby dSm_52) (fun _ _ => ⟨rfl, e12, (by decide : 0 + 0 ≤ _), (by decide : 0 + 0 ≤ _)⟩)
      dsimp only [Pt.U, Pt.locs, Pt.cells, Pt.slots] at X23 l23 y23 z23 st23 hQ23
      subst l23 y23 z23
      obtain ⟨rfl, rfl, ec23⟩ := hQ23
      have c23 : Steps p.tables e below S0 (T23.setTop (mkF m 55 #[.val (.ref r), .val (.int (Int32.ofNat pp)), .val (.ref a), .val (.int (Int32.ofNat ds.length))] [(.int (cs.getD (pp + 2) 0))])) := by
        refine c22.trans ?_
        show Steps p.tables e below (T12.setTop (mkF m 52 #[.val (.ref r), .val (.int (Int32.ofNat pp)), .val (.ref a), .val (.int (Int32.ofNat ds.length))] [(.int ((Int32.ofNat pp) + (2 : Int32))), (.ref r)])) _
        refine st23.trans ?_
        exact Steps.refl _
      have c24 : Steps p.tables e below S0 (T23.setTop (mkF m 57 #[.val (.ref r), .val (.int (Int32.ofNat pp)), .val (.ref a), .val (.int (Int32.ofNat ds.length))] [(.int (2 : Int32)), (.ref a), (.int (cs.getD (pp + 2) 0))])) := by
        refine c23.trans ?_
        show Steps p.tables e below (T23.setTop (mkF m 55 #[.val (.ref r), .val (.int (Int32.ofNat pp)), .val (.ref a), .val (.int (Int32.ofNat ds.length))] [(.int (cs.getD (pp + 2) 0))])) _
        refine XS.aloadN X23.here hx rfl (hb hby dSm_55) rfl rfl ?_
        show Steps p.tables e below (T23.setTop (mkF m 56 #[.val (.ref r), .val (.int (Int32.ofNat pp)), .val (.ref a), .val (.int (Int32.ofNat ds.length))] [(.ref a), (.int (cs.getD (pp + 2) 0))])) _
        refine XS.iconst X23.here hx rfl (hb hby dSm_56) ?_
        exact Steps.refl _
      obtain ⟨cq25, kq25, q25a, q25b, q25c⟩ := isOf hZ ec23 S.1
      obtain ⟨_, _, ⟨T25, L25, k25, n25⟩, -, X25, ⟨Lc25, hQ25, l25, y25, z25⟩, st25⟩ := X23.virtualBack hx (y := (⟨"java/lang/String", "charAt", "(I)C"⟩ : MethodName)) (z := (⟨"java/lang/String", "charAt", "(I)C"⟩ : MethodName)) hown (mvT hZ (hw _ (List.mem_of_getElem? (i := 171) rfl))) (mvT hZ (hw _ (List.mem_of_getElem? (i := 172) rfl))) (notFace_of_selects (args := #[]) (mvT hZ (hw _ (List.mem_of_getElem? (i := 174) rfl)))) (mvT hZ (hw _ (List.mem_of_getElem? (i := 174) rfl))) (mvT hZ (hw _ (List.mem_of_getElem? (i := 173) rfl))) (by decide) (StrChars.Road.chN (W := 1) (i := 2) hZ (fun d hd => hw d ((by decide +kernel : ∀ d ∈ StrChars.Road.wordsChN, d ∈ tables_1) d hd)) (kI := 4) (hw _ (List.mem_of_getElem? (i := 5) rfl)) S.1 S.2.2.1 S.2.1 S.2.2.2.1.choose_spec S.cod S.wide (O2.ext X00.2) P5 (Sf.ext X00.2) rf S.2.2.2.2.2 (by omega) rfl (by decide) (by decide)) q25a q25c (g := (mkF m 57 #[.val (.ref r), .val (.int (Int32.ofNat pp)), .val (.ref a), .val (.int (Int32.ofNat ds.length))] [(.int (2 : Int32)), (.ref a), (.int (cs.getD (pp + 2) 0))])) rfl (by rw [hml]; rfl) (Steps.refl _) (argsL := [(.int (2 : Int32))]) (rest := [(.int (cs.getD (pp + 2) 0))]) (lenOf pd22 rfl) rfl (by show 2 * 0 + _ ≤ _; exact Nat.le_of_eq rfl) (hb hby dSm_57) (fun _ _ => ⟨rfl, ec23, (by decide : 0 + 0 ≤ _), (by decide : 0 + 0 ≤ _)⟩)
      dsimp only [Pt.U, Pt.locs, Pt.cells, Pt.slots] at X25 l25 y25 z25 st25 hQ25
      subst l25 y25 z25
      obtain ⟨rfl, rfl, ec25⟩ := hQ25
      have c25 : Steps p.tables e below S0 (T25.setTop (mkF m 60 #[.val (.ref r), .val (.int (Int32.ofNat pp)), .val (.ref a), .val (.int (Int32.ofNat ds.length))] [(.int (ds.getD 2 0)), (.int (cs.getD (pp + 2) 0))])) := by
        refine c24.trans ?_
        show Steps p.tables e below (T23.setTop (mkF m 57 #[.val (.ref r), .val (.int (Int32.ofNat pp)), .val (.ref a), .val (.int (Int32.ofNat ds.length))] [(.int (2 : Int32)), (.ref a), (.int (cs.getD (pp + 2) 0))])) _
        refine st25.trans ?_
        exact Steps.refl _
      have c26 : Steps p.tables e below S0 (T25.setTop (mkF m 63 #[.val (.ref r), .val (.int (Int32.ofNat pp)), .val (.ref a), .val (.int (Int32.ofNat ds.length))] [])) := by
        refine c25.trans ?_
        show Steps p.tables e below (T25.setTop (mkF m 60 #[.val (.ref r), .val (.int (Int32.ofNat pp)), .val (.ref a), .val (.int (Int32.ofNat ds.length))] [(.int (ds.getD 2 0)), (.int (cs.getD (pp + 2) 0))])) _
        refine XS.icmpNo X25.here hx rfl (hb hby dSm_60) rfl (teq (hsame 2 hj)).2 ?_
        exact Steps.refl _
      exact ⟨_, _, X25, ec25, Fr.app (Fr.app Nf (Fr.nil n0)) (Fr.nil n0), c26⟩
  obtain ⟨T28, LL28, X28, e28, Nf, c28⟩ : ∃ (T : State) (L : List Loc), Stand p l e ({ frames := 5, cells := 0, slots := 0, locals := 75 } : Room) s m #[(.ref r), (.int (Int32.ofNat pp)), (.ref a)] below meth c T L 0 0 ∧ T.heap = h0 ∧ Fr n0 L ∧ Steps p.tables e below S0 (T.setTop (mkF m 83 #[.val (.ref r), .val (.int (Int32.ofNat pp)), .val (.ref a), .val (.int (Int32.ofNat ds.length))] [])) := by
    by_cases hg : ds.length ≤ 3
    · have c35 : Steps p.tables e below S0 (T20.setTop (mkF m 83 #[.val (.ref r), .val (.int (Int32.ofNat pp)), .val (.ref a), .val (.int (Int32.ofNat ds.length))] [])) := by
        refine c20.trans ?_
        show Steps p.tables e below (T20.setTop (mkF m 63 #[.val (.ref r), .val (.int (Int32.ofNat pp)), .val (.ref a), .val (.int (Int32.ofNat ds.length))] [])) _
        refine XS.iloadN X20.here hx rfl (hb hby dSm_63) rfl ?_
        show Steps p.tables e below (T20.setTop (mkF m 64 #[.val (.ref r), .val (.int (Int32.ofNat pp)), .val (.ref a), .val (.int (Int32.ofNat ds.length))] [(.int (Int32.ofNat ds.length))])) _
        refine XS.iconst X20.here hx rfl (hb hby dSm_64) ?_
        show Steps p.tables e below (T20.setTop (mkF m 65 #[.val (.ref r), .val (.int (Int32.ofNat pp)), .val (.ref a), .val (.int (Int32.ofNat ds.length))] [(.int (4 : Int32)), (.int (Int32.ofNat ds.length))])) _
        refine XS.icmpYes X20.here hx rfl (pc0 := 65) (pc' := 83) rfl (hb hby dSm_65) rfl (tlt ((own_ltn (b := 4) (by omega) (by omega)).mpr (by omega))).1 (by decide) (by decide) ?_
        exact Steps.refl _
      exact ⟨_, _, X20, e20, Nf, c35⟩
    · have hj : 3 < ds.length := by omega
      have c29 : Steps p.tables e below S0 (T20.setTop (mkF m 68 #[.val (.ref r), .val (.int (Int32.ofNat pp)), .val (.ref a), .val (.int (Int32.ofNat ds.length))] [])) := by
        refine c20.trans ?_
        show Steps p.tables e below (T20.setTop (mkF m 63 #[.val (.ref r), .val (.int (Int32.ofNat pp)), .val (.ref a), .val (.int (Int32.ofNat ds.length))] [])) _
        refine XS.iloadN X20.here hx rfl (hb hby dSm_63) rfl ?_
        show Steps p.tables e below (T20.setTop (mkF m 64 #[.val (.ref r), .val (.int (Int32.ofNat pp)), .val (.ref a), .val (.int (Int32.ofNat ds.length))] [(.int (Int32.ofNat ds.length))])) _
        refine XS.iconst X20.here hx rfl (hb hby dSm_64) ?_
        show Steps p.tables e below (T20.setTop (mkF m 65 #[.val (.ref r), .val (.int (Int32.ofNat pp)), .val (.ref a), .val (.int (Int32.ofNat ds.length))] [(.int (4 : Int32)), (.int (Int32.ofNat ds.length))])) _
        refine XS.icmpNo X20.here hx rfl (hb hby dSm_65) rfl (flt (fun q => by have := (own_ltn (b := 4) (by omega) (by omega)).mp q; omega)).1 ?_
        exact Steps.refl _
      have c30 : Steps p.tables e below S0 (T20.setTop (mkF m 72 #[.val (.ref r), .val (.int (Int32.ofNat pp)), .val (.ref a), .val (.int (Int32.ofNat ds.length))] [(.int ((Int32.ofNat pp) + (3 : Int32))), (.ref r)])) := by
        refine c29.trans ?_
        show Steps p.tables e below (T20.setTop (mkF m 68 #[.val (.ref r), .val (.int (Int32.ofNat pp)), .val (.ref a), .val (.int (Int32.ofNat ds.length))] [])) _
        refine XS.aloadN X20.here hx rfl (hb hby dSm_68) rfl rfl ?_
        show Steps p.tables e below (T20.setTop (mkF m 69 #[.val (.ref r), .val (.int (Int32.ofNat pp)), .val (.ref a), .val (.int (Int32.ofNat ds.length))] [(.ref r)])) _
        refine XS.iloadN X20.here hx rfl (hb hby dSm_69) rfl ?_
        show Steps p.tables e below (T20.setTop (mkF m 70 #[.val (.ref r), .val (.int (Int32.ofNat pp)), .val (.ref a), .val (.int (Int32.ofNat ds.length))] [(.int (Int32.ofNat pp)), (.ref r)])) _
        refine XS.iconst X20.here hx rfl (hb hby dSm_70) ?_
        show Steps p.tables e below (T20.setTop (mkF m 71 #[.val (.ref r), .val (.int (Int32.ofNat pp)), .val (.ref a), .val (.int (Int32.ofNat ds.length))] [(.int (3 : Int32)), (.int (Int32.ofNat pp)), (.ref r)])) _
        refine XS.iadd X20.here hx rfl (hb hby dSm_71) rfl ?_
        exact Steps.refl _
      have ha : Int32.ofNat pp + (3 : Int32) = Int32.ofNat (pp + 3) := own_addn (b := 3) (by omega)
      obtain ⟨cq31, kq31, q31a, q31b, q31c⟩ := isOf hZ e20 Sr.1
      obtain ⟨_, _, ⟨T31, L31, k31, n31⟩, -, X31, ⟨Lc31, hQ31, l31, y31, z31⟩, st31⟩ := X20.virtualBack hx (y := (⟨"java/lang/String", "charAt", "(I)C"⟩ : MethodName)) (z := (⟨"java/lang/String", "charAt", "(I)C"⟩ : MethodName)) hown (mvT hZ (hw _ (List.mem_of_getElem? (i := 171) rfl))) (mvT hZ (hw _ (List.mem_of_getElem? (i := 172) rfl))) (notFace_of_selects (args := #[]) (mvT hZ (hw _ (List.mem_of_getElem? (i := 174) rfl)))) (mvT hZ (hw _ (List.mem_of_getElem? (i := 174) rfl))) (mvT hZ (hw _ (List.mem_of_getElem? (i := 173) rfl))) (by decide) (StrChars.Road.chN (W := 0) (i := (pp + 3)) hZ (fun d hd => hw d ((by decide +kernel : ∀ d ∈ StrChars.Road.wordsChN, d ∈ tables_1) d hd)) (kI := 4) (hw _ (List.mem_of_getElem? (i := 5) rfl)) Sr.1 Sr.2.2.1 Sr.2.1 Sr.2.2.2.1.choose_spec Sr.cod Sr.wide (O2.ext X00.2) P5 (Sf.ext X00.2) rf Sr.2.2.2.2.2 (by omega) ha (by decide) (by decide)) q31a q31c (g := (mkF m 72 #[.val (.ref r), .val (.int (Int32.ofNat pp)), .val (.ref a), .val (.int (Int32.ofNat ds.length))] [(.int ((Int32.ofNat pp) + (3 : Int32))), (.ref r)])) rfl (by rw [hml]; rfl) (Steps.refl _) (argsL := [(.int ((Int32.ofNat pp) + (3 : Int32)))]) (rest := []) (lenOf pd22 rfl) rfl (by show 2 * 0 + _ ≤ _; exact Nat.le_of_eq rfl) (hb hby dSm_72) (fun _ _ => ⟨rfl, e20, (by decide : 0 + 0 ≤ _), (by decide : 0 + 0 ≤ _)⟩)
      dsimp only [Pt.U, Pt.locs, Pt.cells, Pt.slots] at X31 l31 y31 z31 st31 hQ31
      subst l31 y31 z31
      obtain ⟨rfl, rfl, ec31⟩ := hQ31
      have c31 : Steps p.tables e below S0 (T31.setTop (mkF m 75 #[.val (.ref r), .val (.int (Int32.ofNat pp)), .val (.ref a), .val (.int (Int32.ofNat ds.length))] [(.int (cs.getD (pp + 3) 0))])) := by
        refine c30.trans ?_
        show Steps p.tables e below (T20.setTop (mkF m 72 #[.val (.ref r), .val (.int (Int32.ofNat pp)), .val (.ref a), .val (.int (Int32.ofNat ds.length))] [(.int ((Int32.ofNat pp) + (3 : Int32))), (.ref r)])) _
        refine st31.trans ?_
        exact Steps.refl _
      have c32 : Steps p.tables e below S0 (T31.setTop (mkF m 77 #[.val (.ref r), .val (.int (Int32.ofNat pp)), .val (.ref a), .val (.int (Int32.ofNat ds.length))] [(.int (3 : Int32)), (.ref a), (.int (cs.getD (pp + 3) 0))])) := by
        refine c31.trans ?_
        show Steps p.tables e below (T31.setTop (mkF m 75 #[.val (.ref r), .val (.int (Int32.ofNat pp)), .val (.ref a), .val (.int (Int32.ofNat ds.length))] [(.int (cs.getD (pp + 3) 0))])) _
        refine XS.aloadN X31.here hx rfl (hb hby dSm_75) rfl rfl ?_
        show Steps p.tables e below (T31.setTop (mkF m 76 #[.val (.ref r), .val (.int (Int32.ofNat pp)), .val (.ref a), .val (.int (Int32.ofNat ds.length))] [(.ref a), (.int (cs.getD (pp + 3) 0))])) _
        refine XS.iconst X31.here hx rfl (hb hby dSm_76) ?_
        exact Steps.refl _
      obtain ⟨cq33, kq33, q33a, q33b, q33c⟩ := isOf hZ ec31 S.1
      obtain ⟨_, _, ⟨T33, L33, k33, n33⟩, -, X33, ⟨Lc33, hQ33, l33, y33, z33⟩, st33⟩ := X31.virtualBack hx (y := (⟨"java/lang/String", "charAt", "(I)C"⟩ : MethodName)) (z := (⟨"java/lang/String", "charAt", "(I)C"⟩ : MethodName)) hown (mvT hZ (hw _ (List.mem_of_getElem? (i := 171) rfl))) (mvT hZ (hw _ (List.mem_of_getElem? (i := 172) rfl))) (notFace_of_selects (args := #[]) (mvT hZ (hw _ (List.mem_of_getElem? (i := 174) rfl)))) (mvT hZ (hw _ (List.mem_of_getElem? (i := 174) rfl))) (mvT hZ (hw _ (List.mem_of_getElem? (i := 173) rfl))) (by decide) (StrChars.Road.chN (W := 1) (i := 3) hZ (fun d hd => hw d ((by decide +kernel : ∀ d ∈ StrChars.Road.wordsChN, d ∈ tables_1) d hd)) (kI := 4) (hw _ (List.mem_of_getElem? (i := 5) rfl)) S.1 S.2.2.1 S.2.1 S.2.2.2.1.choose_spec S.cod S.wide (O2.ext X00.2) P5 (Sf.ext X00.2) rf S.2.2.2.2.2 (by omega) rfl (by decide) (by decide)) q33a q33c (g := (mkF m 77 #[.val (.ref r), .val (.int (Int32.ofNat pp)), .val (.ref a), .val (.int (Int32.ofNat ds.length))] [(.int (3 : Int32)), (.ref a), (.int (cs.getD (pp + 3) 0))])) rfl (by rw [hml]; rfl) (Steps.refl _) (argsL := [(.int (3 : Int32))]) (rest := [(.int (cs.getD (pp + 3) 0))]) (lenOf pd22 rfl) rfl (by show 2 * 0 + _ ≤ _; exact Nat.le_of_eq rfl) (hb hby dSm_77) (fun _ _ => ⟨rfl, ec31, (by decide : 0 + 0 ≤ _), (by decide : 0 + 0 ≤ _)⟩)
      dsimp only [Pt.U, Pt.locs, Pt.cells, Pt.slots] at X33 l33 y33 z33 st33 hQ33
      subst l33 y33 z33
      obtain ⟨rfl, rfl, ec33⟩ := hQ33
      have c33 : Steps p.tables e below S0 (T33.setTop (mkF m 80 #[.val (.ref r), .val (.int (Int32.ofNat pp)), .val (.ref a), .val (.int (Int32.ofNat ds.length))] [(.int (ds.getD 3 0)), (.int (cs.getD (pp + 3) 0))])) := by
        refine c32.trans ?_
        show Steps p.tables e below (T31.setTop (mkF m 77 #[.val (.ref r), .val (.int (Int32.ofNat pp)), .val (.ref a), .val (.int (Int32.ofNat ds.length))] [(.int (3 : Int32)), (.ref a), (.int (cs.getD (pp + 3) 0))])) _
        refine st33.trans ?_
        exact Steps.refl _
      have c34 : Steps p.tables e below S0 (T33.setTop (mkF m 83 #[.val (.ref r), .val (.int (Int32.ofNat pp)), .val (.ref a), .val (.int (Int32.ofNat ds.length))] [])) := by
        refine c33.trans ?_
        show Steps p.tables e below (T33.setTop (mkF m 80 #[.val (.ref r), .val (.int (Int32.ofNat pp)), .val (.ref a), .val (.int (Int32.ofNat ds.length))] [(.int (ds.getD 3 0)), (.int (cs.getD (pp + 3) 0))])) _
        refine XS.icmpNo X33.here hx rfl (hb hby dSm_80) rfl (teq (hsame 3 hj)).2 ?_
        exact Steps.refl _
      exact ⟨_, _, X33, ec33, Fr.app (Fr.app Nf (Fr.nil n0)) (Fr.nil n0), c34⟩
  obtain ⟨T36, LL36, X36, e36, Nf, c36⟩ : ∃ (T : State) (L : List Loc), Stand p l e ({ frames := 5, cells := 0, slots := 0, locals := 75 } : Room) s m #[(.ref r), (.int (Int32.ofNat pp)), (.ref a)] below meth c T L 0 0 ∧ T.heap = h0 ∧ Fr n0 L ∧ Steps p.tables e below S0 (T.setTop (mkF m 103 #[.val (.ref r), .val (.int (Int32.ofNat pp)), .val (.ref a), .val (.int (Int32.ofNat ds.length))] [])) := by
    by_cases hg : ds.length ≤ 4
    · have c43 : Steps p.tables e below S0 (T28.setTop (mkF m 103 #[.val (.ref r), .val (.int (Int32.ofNat pp)), .val (.ref a), .val (.int (Int32.ofNat ds.length))] [])) := by
        refine c28.trans ?_
        show Steps p.tables e below (T28.setTop (mkF m 83 #[.val (.ref r), .val (.int (Int32.ofNat pp)), .val (.ref a), .val (.int (Int32.ofNat ds.length))] [])) _
        refine XS.iloadN X28.here hx rfl (hb hby dSm_83) rfl ?_
        show Steps p.tables e below (T28.setTop (mkF m 84 #[.val (.ref r), .val (.int (Int32.ofNat pp)), .val (.ref a), .val (.int (Int32.ofNat ds.length))] [(.int (Int32.ofNat ds.length))])) _
        refine XS.iconst X28.here hx rfl (hb hby dSm_84) ?_
        show Steps p.tables e below (T28.setTop (mkF m 85 #[.val (.ref r), .val (.int (Int32.ofNat pp)), .val (.ref a), .val (.int (Int32.ofNat ds.length))] [(.int (5 : Int32)), (.int (Int32.ofNat ds.length))])) _
        refine XS.icmpYes X28.here hx rfl (pc0 := 85) (pc' := 103) rfl (hb hby dSm_85) rfl (tlt ((own_ltn (b := 5) (by omega) (by omega)).mpr (by omega))).1 (by decide) (by decide) ?_
        exact Steps.refl _
      exact ⟨_, _, X28, e28, Nf, c43⟩
    · have hj : 4 < ds.length := by omega
      have c37 : Steps p.tables e below S0 (T28.setTop (mkF m 88 #[.val (.ref r), .val (.int (Int32.ofNat pp)), .val (.ref a), .val (.int (Int32.ofNat ds.length))] [])) := by
        refine c28.trans ?_
        show Steps p.tables e below (T28.setTop (mkF m 83 #[.val (.ref r), .val (.int (Int32.ofNat pp)), .val (.ref a), .val (.int (Int32.ofNat ds.length))] [])) _
        refine XS.iloadN X28.here hx rfl (hb hby dSm_83) rfl ?_
        show Steps p.tables e below (T28.setTop (mkF m 84 #[.val (.ref r), .val (.int (Int32.ofNat pp)), .val (.ref a), .val (.int (Int32.ofNat ds.length))] [(.int (Int32.ofNat ds.length))])) _
        refine XS.iconst X28.here hx rfl (hb hby dSm_84) ?_
        show Steps p.tables e below (T28.setTop (mkF m 85 #[.val (.ref r), .val (.int (Int32.ofNat pp)), .val (.ref a), .val (.int (Int32.ofNat ds.length))] [(.int (5 : Int32)), (.int (Int32.ofNat ds.length))])) _
        refine XS.icmpNo X28.here hx rfl (hb hby dSm_85) rfl (flt (fun q => by have := (own_ltn (b := 5) (by omega) (by omega)).mp q; omega)).1 ?_
        exact Steps.refl _
      have c38 : Steps p.tables e below S0 (T28.setTop (mkF m 92 #[.val (.ref r), .val (.int (Int32.ofNat pp)), .val (.ref a), .val (.int (Int32.ofNat ds.length))] [(.int ((Int32.ofNat pp) + (4 : Int32))), (.ref r)])) := by
        refine c37.trans ?_
        show Steps p.tables e below (T28.setTop (mkF m 88 #[.val (.ref r), .val (.int (Int32.ofNat pp)), .val (.ref a), .val (.int (Int32.ofNat ds.length))] [])) _
        refine XS.aloadN X28.here hx rfl (hb hby dSm_88) rfl rfl ?_
        show Steps p.tables e below (T28.setTop (mkF m 89 #[.val (.ref r), .val (.int (Int32.ofNat pp)), .val (.ref a), .val (.int (Int32.ofNat ds.length))] [(.ref r)])) _
        refine XS.iloadN X28.here hx rfl (hb hby dSm_89) rfl ?_
        show Steps p.tables e below (T28.setTop (mkF m 90 #[.val (.ref r), .val (.int (Int32.ofNat pp)), .val (.ref a), .val (.int (Int32.ofNat ds.length))] [(.int (Int32.ofNat pp)), (.ref r)])) _
        refine XS.iconst X28.here hx rfl (hb hby dSm_90) ?_
        show Steps p.tables e below (T28.setTop (mkF m 91 #[.val (.ref r), .val (.int (Int32.ofNat pp)), .val (.ref a), .val (.int (Int32.ofNat ds.length))] [(.int (4 : Int32)), (.int (Int32.ofNat pp)), (.ref r)])) _
        refine XS.iadd X28.here hx rfl (hb hby dSm_91) rfl ?_
        exact Steps.refl _
      have ha : Int32.ofNat pp + (4 : Int32) = Int32.ofNat (pp + 4) := own_addn (b := 4) (by omega)
      obtain ⟨cq39, kq39, q39a, q39b, q39c⟩ := isOf hZ e28 Sr.1
      obtain ⟨_, _, ⟨T39, L39, k39, n39⟩, -, X39, ⟨Lc39, hQ39, l39, y39, z39⟩, st39⟩ := X28.virtualBack hx (y := (⟨"java/lang/String", "charAt", "(I)C"⟩ : MethodName)) (z := (⟨"java/lang/String", "charAt", "(I)C"⟩ : MethodName)) hown (mvT hZ (hw _ (List.mem_of_getElem? (i := 171) rfl))) (mvT hZ (hw _ (List.mem_of_getElem? (i := 172) rfl))) (notFace_of_selects (args := #[]) (mvT hZ (hw _ (List.mem_of_getElem? (i := 174) rfl)))) (mvT hZ (hw _ (List.mem_of_getElem? (i := 174) rfl))) (mvT hZ (hw _ (List.mem_of_getElem? (i := 173) rfl))) (by decide) (StrChars.Road.chN (W := 0) (i := (pp + 4)) hZ (fun d hd => hw d ((by decide +kernel : ∀ d ∈ StrChars.Road.wordsChN, d ∈ tables_1) d hd)) (kI := 4) (hw _ (List.mem_of_getElem? (i := 5) rfl)) Sr.1 Sr.2.2.1 Sr.2.1 Sr.2.2.2.1.choose_spec Sr.cod Sr.wide (O2.ext X00.2) P5 (Sf.ext X00.2) rf Sr.2.2.2.2.2 (by omega) ha (by decide) (by decide)) q39a q39c (g := (mkF m 92 #[.val (.ref r), .val (.int (Int32.ofNat pp)), .val (.ref a), .val (.int (Int32.ofNat ds.length))] [(.int ((Int32.ofNat pp) + (4 : Int32))), (.ref r)])) rfl (by rw [hml]; rfl) (Steps.refl _) (argsL := [(.int ((Int32.ofNat pp) + (4 : Int32)))]) (rest := []) (lenOf pd22 rfl) rfl (by show 2 * 0 + _ ≤ _; exact Nat.le_of_eq rfl) (hb hby dSm_92) (fun _ _ => ⟨rfl, e28, (by decide : 0 + 0 ≤ _), (by decide : 0 + 0 ≤ _)⟩)
      dsimp only [Pt.U, Pt.locs, Pt.cells, Pt.slots] at X39 l39 y39 z39 st39 hQ39
      subst l39 y39 z39
      obtain ⟨rfl, rfl, ec39⟩ := hQ39
      have c39 : Steps p.tables e below S0 (T39.setTop (mkF m 95 #[.val (.ref r), .val (.int (Int32.ofNat pp)), .val (.ref a), .val (.int (Int32.ofNat ds.length))] [(.int (cs.getD (pp + 4) 0))])) := by
        refine c38.trans ?_
        show Steps p.tables e below (T28.setTop (mkF m 92 #[.val (.ref r), .val (.int (Int32.ofNat pp)), .val (.ref a), .val (.int (Int32.ofNat ds.length))] [(.int ((Int32.ofNat pp) + (4 : Int32))), (.ref r)])) _
        refine st39.trans ?_
        exact Steps.refl _
      have c40 : Steps p.tables e below S0 (T39.setTop (mkF m 97 #[.val (.ref r), .val (.int (Int32.ofNat pp)), .val (.ref a), .val (.int (Int32.ofNat ds.length))] [(.int (4 : Int32)), (.ref a), (.int (cs.getD (pp + 4) 0))])) := by
        refine c39.trans ?_
        show Steps p.tables e below (T39.setTop (mkF m 95 #[.val (.ref r), .val (.int (Int32.ofNat pp)), .val (.ref a), .val (.int (Int32.ofNat ds.length))] [(.int (cs.getD (pp + 4) 0))])) _
        refine XS.aloadN X39.here hx rfl (hb hby dSm_95) rfl rfl ?_
        show Steps p.tables e below (T39.setTop (mkF m 96 #[.val (.ref r), .val (.int (Int32.ofNat pp)), .val (.ref a), .val (.int (Int32.ofNat ds.length))] [(.ref a), (.int (cs.getD (pp + 4) 0))])) _
        refine XS.iconst X39.here hx rfl (hb hby dSm_96) ?_
        exact Steps.refl _
      obtain ⟨cq41, kq41, q41a, q41b, q41c⟩ := isOf hZ ec39 S.1
      obtain ⟨_, _, ⟨T41, L41, k41, n41⟩, -, X41, ⟨Lc41, hQ41, l41, y41, z41⟩, st41⟩ := X39.virtualBack hx (y := (⟨"java/lang/String", "charAt", "(I)C"⟩ : MethodName)) (z := (⟨"java/lang/String", "charAt", "(I)C"⟩ : MethodName)) hown (mvT hZ (hw _ (List.mem_of_getElem? (i := 171) rfl))) (mvT hZ (hw _ (List.mem_of_getElem? (i := 172) rfl))) (notFace_of_selects (args := #[]) (mvT hZ (hw _ (List.mem_of_getElem? (i := 174) rfl)))) (mvT hZ (hw _ (List.mem_of_getElem? (i := 174) rfl))) (mvT hZ (hw _ (List.mem_of_getElem? (i := 173) rfl))) (by decide) (StrChars.Road.chN (W := 1) (i := 4) hZ (fun d hd => hw d ((by decide +kernel : ∀ d ∈ StrChars.Road.wordsChN, d ∈ tables_1) d hd)) (kI := 4) (hw _ (List.mem_of_getElem? (i := 5) rfl)) S.1 S.2.2.1 S.2.1 S.2.2.2.1.choose_spec S.cod S.wide (O2.ext X00.2) P5 (Sf.ext X00.2) rf S.2.2.2.2.2 (by omega) rfl (by decide) (by decide)) q41a q41c (g := (mkF m 97 #[.val (.ref r), .val (.int (Int32.ofNat pp)), .val (.ref a), .val (.int (Int32.ofNat ds.length))] [(.int (4 : Int32)), (.ref a), (.int (cs.getD (pp + 4) 0))])) rfl (by rw [hml]; rfl) (Steps.refl _) (argsL := [(.int (4 : Int32))]) (rest := [(.int (cs.getD (pp + 4) 0))]) (lenOf pd22 rfl) rfl (by show 2 * 0 + _ ≤ _; exact Nat.le_of_eq rfl) (hb hby dSm_97) (fun _ _ => ⟨rfl, ec39, (by decide : 0 + 0 ≤ _), (by decide : 0 + 0 ≤ _)⟩)
      dsimp only [Pt.U, Pt.locs, Pt.cells, Pt.slots] at X41 l41 y41 z41 st41 hQ41
      subst l41 y41 z41
      obtain ⟨rfl, rfl, ec41⟩ := hQ41
      have c41 : Steps p.tables e below S0 (T41.setTop (mkF m 100 #[.val (.ref r), .val (.int (Int32.ofNat pp)), .val (.ref a), .val (.int (Int32.ofNat ds.length))] [(.int (ds.getD 4 0)), (.int (cs.getD (pp + 4) 0))])) := by
        refine c40.trans ?_
        show Steps p.tables e below (T39.setTop (mkF m 97 #[.val (.ref r), .val (.int (Int32.ofNat pp)), .val (.ref a), .val (.int (Int32.ofNat ds.length))] [(.int (4 : Int32)), (.ref a), (.int (cs.getD (pp + 4) 0))])) _
        refine st41.trans ?_
        exact Steps.refl _
      have c42 : Steps p.tables e below S0 (T41.setTop (mkF m 103 #[.val (.ref r), .val (.int (Int32.ofNat pp)), .val (.ref a), .val (.int (Int32.ofNat ds.length))] [])) := by
        refine c41.trans ?_
        show Steps p.tables e below (T41.setTop (mkF m 100 #[.val (.ref r), .val (.int (Int32.ofNat pp)), .val (.ref a), .val (.int (Int32.ofNat ds.length))] [(.int (ds.getD 4 0)), (.int (cs.getD (pp + 4) 0))])) _
        refine XS.icmpNo X41.here hx rfl (hb hby dSm_100) rfl (teq (hsame 4 hj)).2 ?_
        exact Steps.refl _
      exact ⟨_, _, X41, ec41, Fr.app (Fr.app Nf (Fr.nil n0)) (Fr.nil n0), c42⟩
  obtain ⟨T44, LL44, X44, e44, Nf, c44⟩ : ∃ (T : State) (L : List Loc), Stand p l e ({ frames := 5, cells := 0, slots := 0, locals := 75 } : Room) s m #[(.ref r), (.int (Int32.ofNat pp)), (.ref a)] below meth c T L 0 0 ∧ T.heap = h0 ∧ Fr n0 L ∧ Steps p.tables e below S0 (T.setTop (mkF m 124 #[.val (.ref r), .val (.int (Int32.ofNat pp)), .val (.ref a), .val (.int (Int32.ofNat ds.length))] [])) := by
    by_cases hg : ds.length ≤ 5
    · have c51 : Steps p.tables e below S0 (T36.setTop (mkF m 124 #[.val (.ref r), .val (.int (Int32.ofNat pp)), .val (.ref a), .val (.int (Int32.ofNat ds.length))] [])) := by
        refine c36.trans ?_
        show Steps p.tables e below (T36.setTop (mkF m 103 #[.val (.ref r), .val (.int (Int32.ofNat pp)), .val (.ref a), .val (.int (Int32.ofNat ds.length))] [])) _
        refine XS.iloadN X36.here hx rfl (hb hby dSm_103) rfl ?_
        show Steps p.tables e below (T36.setTop (mkF m 104 #[.val (.ref r), .val (.int (Int32.ofNat pp)), .val (.ref a), .val (.int (Int32.ofNat ds.length))] [(.int (Int32.ofNat ds.length))])) _
        refine XS.bipush X36.here hx rfl (hb hby dSm_104) ?_
        show Steps p.tables e below (T36.setTop (mkF m 106 #[.val (.ref r), .val (.int (Int32.ofNat pp)), .val (.ref a), .val (.int (Int32.ofNat ds.length))] [(.int (6 : Int32)), (.int (Int32.ofNat ds.length))])) _
        refine XS.icmpYes X36.here hx rfl (pc0 := 106) (pc' := 124) rfl (hb hby dSm_106) rfl (tlt ((own_ltn (b := 6) (by omega) (by omega)).mpr (by omega))).1 (by decide) (by decide) ?_
        exact Steps.refl _
      exact ⟨_, _, X36, e36, Nf, c51⟩
    · have hj : 5 < ds.length := by omega
      have c45 : Steps p.tables e below S0 (T36.setTop (mkF m 109 #[.val (.ref r), .val (.int (Int32.ofNat pp)), .val (.ref a), .val (.int (Int32.ofNat ds.length))] [])) := by
        refine c36.trans ?_
        show Steps p.tables e below (T36.setTop (mkF m 103 #[.val (.ref r), .val (.int (Int32.ofNat pp)), .val (.ref a), .val (.int (Int32.ofNat ds.length))] [])) _
        refine XS.iloadN X36.here hx rfl (hb hby dSm_103) rfl ?_
        show Steps p.tables e below (T36.setTop (mkF m 104 #[.val (.ref r), .val (.int (Int32.ofNat pp)), .val (.ref a), .val (.int (Int32.ofNat ds.length))] [(.int (Int32.ofNat ds.length))])) _
        refine XS.bipush X36.here hx rfl (hb hby dSm_104) ?_
        show Steps p.tables e below (T36.setTop (mkF m 106 #[.val (.ref r), .val (.int (Int32.ofNat pp)), .val (.ref a), .val (.int (Int32.ofNat ds.length))] [(.int (6 : Int32)), (.int (Int32.ofNat ds.length))])) _
        refine XS.icmpNo X36.here hx rfl (hb hby dSm_106) rfl (flt (fun q => by have := (own_ltn (b := 6) (by omega) (by omega)).mp q; omega)).1 ?_
        exact Steps.refl _
      have c46 : Steps p.tables e below S0 (T36.setTop (mkF m 113 #[.val (.ref r), .val (.int (Int32.ofNat pp)), .val (.ref a), .val (.int (Int32.ofNat ds.length))] [(.int ((Int32.ofNat pp) + (5 : Int32))), (.ref r)])) := by
        refine c45.trans ?_
        show Steps p.tables e below (T36.setTop (mkF m 109 #[.val (.ref r), .val (.int (Int32.ofNat pp)), .val (.ref a), .val (.int (Int32.ofNat ds.length))] [])) _
        refine XS.aloadN X36.here hx rfl (hb hby dSm_109) rfl rfl ?_
        show Steps p.tables e below (T36.setTop (mkF m 110 #[.val (.ref r), .val (.int (Int32.ofNat pp)), .val (.ref a), .val (.int (Int32.ofNat ds.length))] [(.ref r)])) _
        refine XS.iloadN X36.here hx rfl (hb hby dSm_110) rfl ?_
        show Steps p.tables e below (T36.setTop (mkF m 111 #[.val (.ref r), .val (.int (Int32.ofNat pp)), .val (.ref a), .val (.int (Int32.ofNat ds.length))] [(.int (Int32.ofNat pp)), (.ref r)])) _
        refine XS.iconst X36.here hx rfl (hb hby dSm_111) ?_
        show Steps p.tables e below (T36.setTop (mkF m 112 #[.val (.ref r), .val (.int (Int32.ofNat pp)), .val (.ref a), .val (.int (Int32.ofNat ds.length))] [(.int (5 : Int32)), (.int (Int32.ofNat pp)), (.ref r)])) _
        refine XS.iadd X36.here hx rfl (hb hby dSm_112) rfl ?_
        exact Steps.refl _
      have ha : Int32.ofNat pp + (5 : Int32) = Int32.ofNat (pp + 5) := own_addn (b := 5) (by omega)
      obtain ⟨cq47, kq47, q47a, q47b, q47c⟩ := isOf hZ e36 Sr.1
      obtain ⟨_, _, ⟨T47, L47, k47, n47⟩, -, X47, ⟨Lc47, hQ47, l47, y47, z47⟩, st47⟩ := X36.virtualBack hx (y := (⟨"java/lang/String", "charAt", "(I)C"⟩ : MethodName)) (z := (⟨"java/lang/String", "charAt", "(I)C"⟩ : MethodName)) hown (mvT hZ (hw _ (List.mem_of_getElem? (i := 171) rfl))) (mvT hZ (hw _ (List.mem_of_getElem? (i := 172) rfl))) (notFace_of_selects (args := #[]) (mvT hZ (hw _ (List.mem_of_getElem? (i := 174) rfl)))) (mvT hZ (hw _ (List.mem_of_getElem? (i := 174) rfl))) (mvT hZ (hw _ (List.mem_of_getElem? (i := 173) rfl))) (by decide) (StrChars.Road.chN (W := 0) (i := (pp + 5)) hZ (fun d hd => hw d ((by decide +kernel : ∀ d ∈ StrChars.Road.wordsChN, d ∈ tables_1) d hd)) (kI := 4) (hw _ (List.mem_of_getElem? (i := 5) rfl)) Sr.1 Sr.2.2.1 Sr.2.1 Sr.2.2.2.1.choose_spec Sr.cod Sr.wide (O2.ext X00.2) P5 (Sf.ext X00.2) rf Sr.2.2.2.2.2 (by omega) ha (by decide) (by decide)) q47a q47c (g := (mkF m 113 #[.val (.ref r), .val (.int (Int32.ofNat pp)), .val (.ref a), .val (.int (Int32.ofNat ds.length))] [(.int ((Int32.ofNat pp) + (5 : Int32))), (.ref r)])) rfl (by rw [hml]; rfl) (Steps.refl _) (argsL := [(.int ((Int32.ofNat pp) + (5 : Int32)))]) (rest := []) (lenOf pd22 rfl) rfl (by show 2 * 0 + _ ≤ _; exact Nat.le_of_eq rfl) (hb hby dSm_113) (fun _ _ => ⟨rfl, e36, (by decide : 0 + 0 ≤ _), (by decide : 0 + 0 ≤ _)⟩)
      dsimp only [Pt.U, Pt.locs, Pt.cells, Pt.slots] at X47 l47 y47 z47 st47 hQ47
      subst l47 y47 z47
      obtain ⟨rfl, rfl, ec47⟩ := hQ47
      have c47 : Steps p.tables e below S0 (T47.setTop (mkF m 116 #[.val (.ref r), .val (.int (Int32.ofNat pp)), .val (.ref a), .val (.int (Int32.ofNat ds.length))] [(.int (cs.getD (pp + 5) 0))])) := by
        refine c46.trans ?_
        show Steps p.tables e below (T36.setTop (mkF m 113 #[.val (.ref r), .val (.int (Int32.ofNat pp)), .val (.ref a), .val (.int (Int32.ofNat ds.length))] [(.int ((Int32.ofNat pp) + (5 : Int32))), (.ref r)])) _
        refine st47.trans ?_
        exact Steps.refl _
      have c48 : Steps p.tables e below S0 (T47.setTop (mkF m 118 #[.val (.ref r), .val (.int (Int32.ofNat pp)), .val (.ref a), .val (.int (Int32.ofNat ds.length))] [(.int (5 : Int32)), (.ref a), (.int (cs.getD (pp + 5) 0))])) := by
        refine c47.trans ?_
        show Steps p.tables e below (T47.setTop (mkF m 116 #[.val (.ref r), .val (.int (Int32.ofNat pp)), .val (.ref a), .val (.int (Int32.ofNat ds.length))] [(.int (cs.getD (pp + 5) 0))])) _
        refine XS.aloadN X47.here hx rfl (hb hby dSm_116) rfl rfl ?_
        show Steps p.tables e below (T47.setTop (mkF m 117 #[.val (.ref r), .val (.int (Int32.ofNat pp)), .val (.ref a), .val (.int (Int32.ofNat ds.length))] [(.ref a), (.int (cs.getD (pp + 5) 0))])) _
        refine XS.iconst X47.here hx rfl (hb hby dSm_117) ?_
        exact Steps.refl _
      obtain ⟨cq49, kq49, q49a, q49b, q49c⟩ := isOf hZ ec47 S.1
      obtain ⟨_, _, ⟨T49, L49, k49, n49⟩, -, X49, ⟨Lc49, hQ49, l49, y49, z49⟩, st49⟩ := X47.virtualBack hx (y := (⟨"java/lang/String", "charAt", "(I)C"⟩ : MethodName)) (z := (⟨"java/lang/String", "charAt", "(I)C"⟩ : MethodName)) hown (mvT hZ (hw _ (List.mem_of_getElem? (i := 171) rfl))) (mvT hZ (hw _ (List.mem_of_getElem? (i := 172) rfl))) (notFace_of_selects (args := #[]) (mvT hZ (hw _ (List.mem_of_getElem? (i := 174) rfl)))) (mvT hZ (hw _ (List.mem_of_getElem? (i := 174) rfl))) (mvT hZ (hw _ (List.mem_of_getElem? (i := 173) rfl))) (by decide) (StrChars.Road.chN (W := 1) (i := 5) hZ (fun d hd => hw d ((by decide +kernel : ∀ d ∈ StrChars.Road.wordsChN, d ∈ tables_1) d hd)) (kI := 4) (hw _ (List.mem_of_getElem? (i := 5) rfl)) S.1 S.2.2.1 S.2.1 S.2.2.2.1.choose_spec S.cod S.wide (O2.ext X00.2) P5 (Sf.ext X00.2) rf S.2.2.2.2.2 (by omega) rfl (by decide) (by decide)) q49a q49c (g := (mkF m 118 #[.val (.ref r), .val (.int (Int32.ofNat pp)), .val (.ref a), .val (.int (Int32.ofNat ds.length))] [(.int (5 : Int32)), (.ref a), (.int (cs.getD (pp + 5) 0))])) rfl (by rw [hml]; rfl) (Steps.refl _) (argsL := [(.int (5 : Int32))]) (rest := [(.int (cs.getD (pp + 5) 0))]) (lenOf pd22 rfl) rfl (by show 2 * 0 + _ ≤ _; exact Nat.le_of_eq rfl) (hb hby dSm_118) (fun _ _ => ⟨rfl, ec47, (by decide : 0 + 0 ≤ _), (by decide : 0 + 0 ≤ _)⟩)
      dsimp only [Pt.U, Pt.locs, Pt.cells, Pt.slots] at X49 l49 y49 z49 st49 hQ49
      subst l49 y49 z49
      obtain ⟨rfl, rfl, ec49⟩ := hQ49
      have c49 : Steps p.tables e below S0 (T49.setTop (mkF m 121 #[.val (.ref r), .val (.int (Int32.ofNat pp)), .val (.ref a), .val (.int (Int32.ofNat ds.length))] [(.int (ds.getD 5 0)), (.int (cs.getD (pp + 5) 0))])) := by
        refine c48.trans ?_
        show Steps p.tables e below (T47.setTop (mkF m 118 #[.val (.ref r), .val (.int (Int32.ofNat pp)), .val (.ref a), .val (.int (Int32.ofNat ds.length))] [(.int (5 : Int32)), (.ref a), (.int (cs.getD (pp + 5) 0))])) _
        refine st49.trans ?_
        exact Steps.refl _
      have c50 : Steps p.tables e below S0 (T49.setTop (mkF m 124 #[.val (.ref r), .val (.int (Int32.ofNat pp)), .val (.ref a), .val (.int (Int32.ofNat ds.length))] [])) := by
        refine c49.trans ?_
        show Steps p.tables e below (T49.setTop (mkF m 121 #[.val (.ref r), .val (.int (Int32.ofNat pp)), .val (.ref a), .val (.int (Int32.ofNat ds.length))] [(.int (ds.getD 5 0)), (.int (cs.getD (pp + 5) 0))])) _
        refine XS.icmpNo X49.here hx rfl (hb hby dSm_121) rfl (teq (hsame 5 hj)).2 ?_
        exact Steps.refl _
      exact ⟨_, _, X49, ec49, Fr.app (Fr.app Nf (Fr.nil n0)) (Fr.nil n0), c50⟩
  obtain ⟨T52, LL52, X52, e52, Nf, c52⟩ : ∃ (T : State) (L : List Loc), Stand p l e ({ frames := 5, cells := 0, slots := 0, locals := 75 } : Room) s m #[(.ref r), (.int (Int32.ofNat pp)), (.ref a)] below meth c T L 0 0 ∧ T.heap = h0 ∧ Fr n0 L ∧ Steps p.tables e below S0 (T.setTop (mkF m 147 #[.val (.ref r), .val (.int (Int32.ofNat pp)), .val (.ref a), .val (.int (Int32.ofNat ds.length))] [])) := by
    by_cases hg : ds.length ≤ 6
    · have c59 : Steps p.tables e below S0 (T44.setTop (mkF m 147 #[.val (.ref r), .val (.int (Int32.ofNat pp)), .val (.ref a), .val (.int (Int32.ofNat ds.length))] [])) := by
        refine c44.trans ?_
        show Steps p.tables e below (T44.setTop (mkF m 124 #[.val (.ref r), .val (.int (Int32.ofNat pp)), .val (.ref a), .val (.int (Int32.ofNat ds.length))] [])) _
        refine XS.iloadN X44.here hx rfl (hb hby dSm_124) rfl ?_
        show Steps p.tables e below (T44.setTop (mkF m 125 #[.val (.ref r), .val (.int (Int32.ofNat pp)), .val (.ref a), .val (.int (Int32.ofNat ds.length))] [(.int (Int32.ofNat ds.length))])) _
        refine XS.bipush X44.here hx rfl (hb hby dSm_125) ?_
        show Steps p.tables e below (T44.setTop (mkF m 127 #[.val (.ref r), .val (.int (Int32.ofNat pp)), .val (.ref a), .val (.int (Int32.ofNat ds.length))] [(.int (7 : Int32)), (.int (Int32.ofNat ds.length))])) _
        refine XS.icmpYes X44.here hx rfl (pc0 := 127) (pc' := 147) rfl (hb hby dSm_127) rfl (tlt ((own_ltn (b := 7) (by omega) (by omega)).mpr (by omega))).1 (by decide) (by decide) ?_
        exact Steps.refl _
      exact ⟨_, _, X44, e44, Nf, c59⟩
    · have hj : 6 < ds.length := by omega
      have c53 : Steps p.tables e below S0 (T44.setTop (mkF m 130 #[.val (.ref r), .val (.int (Int32.ofNat pp)), .val (.ref a), .val (.int (Int32.ofNat ds.length))] [])) := by
        refine c44.trans ?_
        show Steps p.tables e below (T44.setTop (mkF m 124 #[.val (.ref r), .val (.int (Int32.ofNat pp)), .val (.ref a), .val (.int (Int32.ofNat ds.length))] [])) _
        refine XS.iloadN X44.here hx rfl (hb hby dSm_124) rfl ?_
        show Steps p.tables e below (T44.setTop (mkF m 125 #[.val (.ref r), .val (.int (Int32.ofNat pp)), .val (.ref a), .val (.int (Int32.ofNat ds.length))] [(.int (Int32.ofNat ds.length))])) _
        refine XS.bipush X44.here hx rfl (hb hby dSm_125) ?_
        show Steps p.tables e below (T44.setTop (mkF m 127 #[.val (.ref r), .val (.int (Int32.ofNat pp)), .val (.ref a), .val (.int (Int32.ofNat ds.length))] [(.int (7 : Int32)), (.int (Int32.ofNat ds.length))])) _
        refine XS.icmpNo X44.here hx rfl (hb hby dSm_127) rfl (flt (fun q => by have := (own_ltn (b := 7) (by omega) (by omega)).mp q; omega)).1 ?_
        exact Steps.refl _
      have c54 : Steps p.tables e below S0 (T44.setTop (mkF m 135 #[.val (.ref r), .val (.int (Int32.ofNat pp)), .val (.ref a), .val (.int (Int32.ofNat ds.length))] [(.int ((Int32.ofNat pp) + (6 : Int32))), (.ref r)])) := by
        refine c53.trans ?_
        show Steps p.tables e below (T44.setTop (mkF m 130 #[.val (.ref r), .val (.int (Int32.ofNat pp)), .val (.ref a), .val (.int (Int32.ofNat ds.length))] [])) _
        refine XS.aloadN X44.here hx rfl (hb hby dSm_130) rfl rfl ?_
        show Steps p.tables e below (T44.setTop (mkF m 131 #[.val (.ref r), .val (.int (Int32.ofNat pp)), .val (.ref a), .val (.int (Int32.ofNat ds.length))] [(.ref r)])) _
        refine XS.iloadN X44.here hx rfl (hb hby dSm_131) rfl ?_
        show Steps p.tables e below (T44.setTop (mkF m 132 #[.val (.ref r), .val (.int (Int32.ofNat pp)), .val (.ref a), .val (.int (Int32.ofNat ds.length))] [(.int (Int32.ofNat pp)), (.ref r)])) _
        refine XS.bipush X44.here hx rfl (hb hby dSm_132) ?_
        show Steps p.tables e below (T44.setTop (mkF m 134 #[.val (.ref r), .val (.int (Int32.ofNat pp)), .val (.ref a), .val (.int (Int32.ofNat ds.length))] [(.int (6 : Int32)), (.int (Int32.ofNat pp)), (.ref r)])) _
        refine XS.iadd X44.here hx rfl (hb hby dSm_134) rfl ?_
        exact Steps.refl _
      have ha : Int32.ofNat pp + (6 : Int32) = Int32.ofNat (pp + 6) := own_addn (b := 6) (by omega)
      obtain ⟨cq55, kq55, q55a, q55b, q55c⟩ := isOf hZ e44 Sr.1
      obtain ⟨_, _, ⟨T55, L55, k55, n55⟩, -, X55, ⟨Lc55, hQ55, l55, y55, z55⟩, st55⟩ := X44.virtualBack hx (y := (⟨"java/lang/String", "charAt", "(I)C"⟩ : MethodName)) (z := (⟨"java/lang/String", "charAt", "(I)C"⟩ : MethodName)) hown (mvT hZ (hw _ (List.mem_of_getElem? (i := 171) rfl))) (mvT hZ (hw _ (List.mem_of_getElem? (i := 172) rfl))) (notFace_of_selects (args := #[]) (mvT hZ (hw _ (List.mem_of_getElem? (i := 174) rfl)))) (mvT hZ (hw _ (List.mem_of_getElem? (i := 174) rfl))) (mvT hZ (hw _ (List.mem_of_getElem? (i := 173) rfl))) (by decide) (StrChars.Road.chN (W := 0) (i := (pp + 6)) hZ (fun d hd => hw d ((by decide +kernel : ∀ d ∈ StrChars.Road.wordsChN, d ∈ tables_1) d hd)) (kI := 4) (hw _ (List.mem_of_getElem? (i := 5) rfl)) Sr.1 Sr.2.2.1 Sr.2.1 Sr.2.2.2.1.choose_spec Sr.cod Sr.wide (O2.ext X00.2) P5 (Sf.ext X00.2) rf Sr.2.2.2.2.2 (by omega) ha (by decide) (by decide)) q55a q55c (g := (mkF m 135 #[.val (.ref r), .val (.int (Int32.ofNat pp)), .val (.ref a), .val (.int (Int32.ofNat ds.length))] [(.int ((Int32.ofNat pp) + (6 : Int32))), (.ref r)])) rfl (by rw [hml]; rfl) (Steps.refl _) (argsL := [(.int ((Int32.ofNat pp) + (6 : Int32)))]) (rest := []) (lenOf pd22 rfl) rfl (by show 2 * 0 + _ ≤ _; exact Nat.le_of_eq rfl) (hb hby dSm_135) (fun _ _ => ⟨rfl, e44, (by decide : 0 + 0 ≤ _), (by decide : 0 + 0 ≤ _)⟩)
      dsimp only [Pt.U, Pt.locs, Pt.cells, Pt.slots] at X55 l55 y55 z55 st55 hQ55
      subst l55 y55 z55
      obtain ⟨rfl, rfl, ec55⟩ := hQ55
      have c55 : Steps p.tables e below S0 (T55.setTop (mkF m 138 #[.val (.ref r), .val (.int (Int32.ofNat pp)), .val (.ref a), .val (.int (Int32.ofNat ds.length))] [(.int (cs.getD (pp + 6) 0))])) := by
        refine c54.trans ?_
        show Steps p.tables e below (T44.setTop (mkF m 135 #[.val (.ref r), .val (.int (Int32.ofNat pp)), .val (.ref a), .val (.int (Int32.ofNat ds.length))] [(.int ((Int32.ofNat pp) + (6 : Int32))), (.ref r)])) _
        refine st55.trans ?_
        exact Steps.refl _
      have c56 : Steps p.tables e below S0 (T55.setTop (mkF m 141 #[.val (.ref r), .val (.int (Int32.ofNat pp)), .val (.ref a), .val (.int (Int32.ofNat ds.length))] [(.int (6 : Int32)), (.ref a), (.int (cs.getD (pp + 6) 0))])) := by
        refine c55.trans ?_
        show Steps p.tables e below (T55.setTop (mkF m 138 #[.val (.ref r), .val (.int (Int32.ofNat pp)), .val (.ref a), .val (.int (Int32.ofNat ds.length))] [(.int (cs.getD (pp + 6) 0))])) _
        refine XS.aloadN X55.here hx rfl (hb hby dSm_138) rfl rfl ?_
        show Steps p.tables e below (T55.setTop (mkF m 139 #[.val (.ref r), .val (.int (Int32.ofNat pp)), .val (.ref a), .val (.int (Int32.ofNat ds.length))] [(.ref a), (.int (cs.getD (pp + 6) 0))])) _
        refine XS.bipush X55.here hx rfl (hb hby dSm_139) ?_
        exact Steps.refl _
      obtain ⟨cq57, kq57, q57a, q57b, q57c⟩ := isOf hZ ec55 S.1
      obtain ⟨_, _, ⟨T57, L57, k57, n57⟩, -, X57, ⟨Lc57, hQ57, l57, y57, z57⟩, st57⟩ := X55.virtualBack hx (y := (⟨"java/lang/String", "charAt", "(I)C"⟩ : MethodName)) (z := (⟨"java/lang/String", "charAt", "(I)C"⟩ : MethodName)) hown (mvT hZ (hw _ (List.mem_of_getElem? (i := 171) rfl))) (mvT hZ (hw _ (List.mem_of_getElem? (i := 172) rfl))) (notFace_of_selects (args := #[]) (mvT hZ (hw _ (List.mem_of_getElem? (i := 174) rfl)))) (mvT hZ (hw _ (List.mem_of_getElem? (i := 174) rfl))) (mvT hZ (hw _ (List.mem_of_getElem? (i := 173) rfl))) (by decide) (StrChars.Road.chN (W := 1) (i := 6) hZ (fun d hd => hw d ((by decide +kernel : ∀ d ∈ StrChars.Road.wordsChN, d ∈ tables_1) d hd)) (kI := 4) (hw _ (List.mem_of_getElem? (i := 5) rfl)) S.1 S.2.2.1 S.2.1 S.2.2.2.1.choose_spec S.cod S.wide (O2.ext X00.2) P5 (Sf.ext X00.2) rf S.2.2.2.2.2 (by omega) rfl (by decide) (by decide)) q57a q57c (g := (mkF m 141 #[.val (.ref r), .val (.int (Int32.ofNat pp)), .val (.ref a), .val (.int (Int32.ofNat ds.length))] [(.int (6 : Int32)), (.ref a), (.int (cs.getD (pp + 6) 0))])) rfl (by rw [hml]; rfl) (Steps.refl _) (argsL := [(.int (6 : Int32))]) (rest := [(.int (cs.getD (pp + 6) 0))]) (lenOf pd22 rfl) rfl (by show 2 * 0 + _ ≤ _; exact Nat.le_of_eq rfl) (hb hby dSm_141) (fun _ _ => ⟨rfl, ec55, (by decide : 0 + 0 ≤ _), (by decide : 0 + 0 ≤ _)⟩)
      dsimp only [Pt.U, Pt.locs, Pt.cells, Pt.slots] at X57 l57 y57 z57 st57 hQ57
      subst l57 y57 z57
      obtain ⟨rfl, rfl, ec57⟩ := hQ57
      have c57 : Steps p.tables e below S0 (T57.setTop (mkF m 144 #[.val (.ref r), .val (.int (Int32.ofNat pp)), .val (.ref a), .val (.int (Int32.ofNat ds.length))] [(.int (ds.getD 6 0)), (.int (cs.getD (pp + 6) 0))])) := by
        refine c56.trans ?_
        show Steps p.tables e below (T55.setTop (mkF m 141 #[.val (.ref r), .val (.int (Int32.ofNat pp)), .val (.ref a), .val (.int (Int32.ofNat ds.length))] [(.int (6 : Int32)), (.ref a), (.int (cs.getD (pp + 6) 0))])) _
        refine st57.trans ?_
        exact Steps.refl _
      have c58 : Steps p.tables e below S0 (T57.setTop (mkF m 147 #[.val (.ref r), .val (.int (Int32.ofNat pp)), .val (.ref a), .val (.int (Int32.ofNat ds.length))] [])) := by
        refine c57.trans ?_
        show Steps p.tables e below (T57.setTop (mkF m 144 #[.val (.ref r), .val (.int (Int32.ofNat pp)), .val (.ref a), .val (.int (Int32.ofNat ds.length))] [(.int (ds.getD 6 0)), (.int (cs.getD (pp + 6) 0))])) _
        refine XS.icmpNo X57.here hx rfl (hb hby dSm_144) rfl (teq (hsame 6 hj)).2 ?_
        exact Steps.refl _
      exact ⟨_, _, X57, ec57, Fr.app (Fr.app Nf (Fr.nil n0)) (Fr.nil n0), c58⟩
  obtain ⟨T60, LL60, X60, e60, Nf, c60⟩ : ∃ (T : State) (L : List Loc), Stand p l e ({ frames := 5, cells := 0, slots := 0, locals := 75 } : Room) s m #[(.ref r), (.int (Int32.ofNat pp)), (.ref a)] below meth c T L 0 0 ∧ T.heap = h0 ∧ Fr n0 L ∧ Steps p.tables e below S0 (T.setTop (mkF m 170 #[.val (.ref r), .val (.int (Int32.ofNat pp)), .val (.ref a), .val (.int (Int32.ofNat ds.length))] [])) := by
    by_cases hg : ds.length ≤ 7
    · have c67 : Steps p.tables e below S0 (T52.setTop (mkF m 170 #[.val (.ref r), .val (.int (Int32.ofNat pp)), .val (.ref a), .val (.int (Int32.ofNat ds.length))] [])) := by
        refine c52.trans ?_
        show Steps p.tables e below (T52.setTop (mkF m 147 #[.val (.ref r), .val (.int (Int32.ofNat pp)), .val (.ref a), .val (.int (Int32.ofNat ds.length))] [])) _
        refine XS.iloadN X52.here hx rfl (hb hby dSm_147) rfl ?_
        show Steps p.tables e below (T52.setTop (mkF m 148 #[.val (.ref r), .val (.int (Int32.ofNat pp)), .val (.ref a), .val (.int (Int32.ofNat ds.length))] [(.int (Int32.ofNat ds.length))])) _
        refine XS.bipush X52.here hx rfl (hb hby dSm_148) ?_
        show Steps p.tables e below (T52.setTop (mkF m 150 #[.val (.ref r), .val (.int (Int32.ofNat pp)), .val (.ref a), .val (.int (Int32.ofNat ds.length))] [(.int (8 : Int32)), (.int (Int32.ofNat ds.length))])) _
        refine XS.icmpYes X52.here hx rfl (pc0 := 150) (pc' := 170) rfl (hb hby dSm_150) rfl (tlt ((own_ltn (b := 8) (by omega) (by omega)).mpr (by omega))).1 (by decide) (by decide) ?_
        exact Steps.refl _
      exact ⟨_, _, X52, e52, Nf, c67⟩
    · have hj : 7 < ds.length := by omega
      have c61 : Steps p.tables e below S0 (T52.setTop (mkF m 153 #[.val (.ref r), .val (.int (Int32.ofNat pp)), .val (.ref a), .val (.int (Int32.ofNat ds.length))] [])) := by
        refine c52.trans ?_
        show Steps p.tables e below (T52.setTop (mkF m 147 #[.val (.ref r), .val (.int (Int32.ofNat pp)), .val (.ref a), .val (.int (Int32.ofNat ds.length))] [])) _
        refine XS.iloadN X52.here hx rfl (hb hby dSm_147) rfl ?_
        show Steps p.tables e below (T52.setTop (mkF m 148 #[.val (.ref r), .val (.int (Int32.ofNat pp)), .val (.ref a), .val (.int (Int32.ofNat ds.length))] [(.int (Int32.ofNat ds.length))])) _
        refine XS.bipush X52.here hx rfl (hb hby dSm_148) ?_
        show Steps p.tables e below (T52.setTop (mkF m 150 #[.val (.ref r), .val (.int (Int32.ofNat pp)), .val (.ref a), .val (.int (Int32.ofNat ds.length))] [(.int (8 : Int32)), (.int (Int32.ofNat ds.length))])) _
        refine XS.icmpNo X52.here hx rfl (hb hby dSm_150) rfl (flt (fun q => by have := (own_ltn (b := 8) (by omega) (by omega)).mp q; omega)).1 ?_
        exact Steps.refl _
      have c62 : Steps p.tables e below S0 (T52.setTop (mkF m 158 #[.val (.ref r), .val (.int (Int32.ofNat pp)), .val (.ref a), .val (.int (Int32.ofNat ds.length))] [(.int ((Int32.ofNat pp) + (7 : Int32))), (.ref r)])) := by
        refine c61.trans ?_
        show Steps p.tables e below (T52.setTop (mkF m 153 #[.val (.ref r), .val (.int (Int32.ofNat pp)), .val (.ref a), .val (.int (Int32.ofNat ds.length))] [])) _
        refine XS.aloadN X52.here hx rfl (hb hby dSm_153) rfl rfl ?_
        show Steps p.tables e below (T52.setTop (mkF m 154 #[.val (.ref r), .val (.int (Int32.ofNat pp)), .val (.ref a), .val (.int (Int32.ofNat ds.length))] [(.ref r)])) _
        refine XS.iloadN X52.here hx rfl (hb hby dSm_154) rfl ?_
        show Steps p.tables e below (T52.setTop (mkF m 155 #[.val (.ref r), .val (.int (Int32.ofNat pp)), .val (.ref a), .val (.int (Int32.ofNat ds.length))] [(.int (Int32.ofNat pp)), (.ref r)])) _
        refine XS.bipush X52.here hx rfl (hb hby dSm_155) ?_
        show Steps p.tables e below (T52.setTop (mkF m 157 #[.val (.ref r), .val (.int (Int32.ofNat pp)), .val (.ref a), .val (.int (Int32.ofNat ds.length))] [(.int (7 : Int32)), (.int (Int32.ofNat pp)), (.ref r)])) _
        refine XS.iadd X52.here hx rfl (hb hby dSm_157) rfl ?_
        exact Steps.refl _
      have ha : Int32.ofNat pp + (7 : Int32) = Int32.ofNat (pp + 7) := own_addn (b := 7) (by omega)
      obtain ⟨cq63, kq63, q63a, q63b, q63c⟩ := isOf hZ e52 Sr.1
      obtain ⟨_, _, ⟨T63, L63, k63, n63⟩, -, X63, ⟨Lc63, hQ63, l63, y63, z63⟩, st63⟩ := X52.virtualBack hx (y := (⟨"java/lang/String", "charAt", "(I)C"⟩ : MethodName)) (z := (⟨"java/lang/String", "charAt", "(I)C"⟩ : MethodName)) hown (mvT hZ (hw _ (List.mem_of_getElem? (i := 171) rfl))) (mvT hZ (hw _ (List.mem_of_getElem? (i := 172) rfl))) (notFace_of_selects (args := #[]) (mvT hZ (hw _ (List.mem_of_getElem? (i := 174) rfl)))) (mvT hZ (hw _ (List.mem_of_getElem? (i := 174) rfl))) (mvT hZ (hw _ (List.mem_of_getElem? (i := 173) rfl))) (by decide) (StrChars.Road.chN (W := 0) (i := (pp + 7)) hZ (fun d hd => hw d ((by decide +kernel : ∀ d ∈ StrChars.Road.wordsChN, d ∈ tables_1) d hd)) (kI := 4) (hw _ (List.mem_of_getElem? (i := 5) rfl)) Sr.1 Sr.2.2.1 Sr.2.1 Sr.2.2.2.1.choose_spec Sr.cod Sr.wide (O2.ext X00.2) P5 (Sf.ext X00.2) rf Sr.2.2.2.2.2 (by omega) ha (by decide) (by decide)) q63a q63c (g := (mkF m 158 #[.val (.ref r), .val (.int (Int32.ofNat pp)), .val (.ref a), .val (.int (Int32.ofNat ds.length))] [(.int ((Int32.ofNat pp) + (7 : Int32))), (.ref r)])) rfl (by rw [hml]; rfl) (Steps.refl _) (argsL := [(.int ((Int32.ofNat pp) + (7 : Int32)))]) (rest := []) (lenOf pd22 rfl) rfl (by show 2 * 0 + _ ≤ _; exact Nat.le_of_eq rfl) (hb hby dSm_158) (fun _ _ => ⟨rfl, e52, (by decide : 0 + 0 ≤ _), (by decide : 0 + 0 ≤ _)⟩)
      dsimp only [Pt.U, Pt.locs, Pt.cells, Pt.slots] at X63 l63 y63 z63 st63 hQ63
      subst l63 y63 z63
      obtain ⟨rfl, rfl, ec63⟩ := hQ63
      have c63 : Steps p.tables e below S0 (T63.setTop (mkF m 161 #[.val (.ref r), .val (.int (Int32.ofNat pp)), .val (.ref a), .val (.int (Int32.ofNat ds.length))] [(.int (cs.getD (pp + 7) 0))])) := by
        refine c62.trans ?_
        show Steps p.tables e below (T52.setTop (mkF m 158 #[.val (.ref r), .val (.int (Int32.ofNat pp)), .val (.ref a), .val (.int (Int32.ofNat ds.length))] [(.int ((Int32.ofNat pp) + (7 : Int32))), (.ref r)])) _
        refine st63.trans ?_
        exact Steps.refl _
      have c64 : Steps p.tables e below S0 (T63.setTop (mkF m 164 #[.val (.ref r), .val (.int (Int32.ofNat pp)), .val (.ref a), .val (.int (Int32.ofNat ds.length))] [(.int (7 : Int32)), (.ref a), (.int (cs.getD (pp + 7) 0))])) := by
        refine c63.trans ?_
        show Steps p.tables e below (T63.setTop (mkF m 161 #[.val (.ref r), .val (.int (Int32.ofNat pp)), .val (.ref a), .val (.int (Int32.ofNat ds.length))] [(.int (cs.getD (pp + 7) 0))])) _
        refine XS.aloadN X63.here hx rfl (hb hby dSm_161) rfl rfl ?_
        show Steps p.tables e below (T63.setTop (mkF m 162 #[.val (.ref r), .val (.int (Int32.ofNat pp)), .val (.ref a), .val (.int (Int32.ofNat ds.length))] [(.ref a), (.int (cs.getD (pp + 7) 0))])) _
        refine XS.bipush X63.here hx rfl (hb hby dSm_162) ?_
        exact Steps.refl _
      obtain ⟨cq65, kq65, q65a, q65b, q65c⟩ := isOf hZ ec63 S.1
      obtain ⟨_, _, ⟨T65, L65, k65, n65⟩, -, X65, ⟨Lc65, hQ65, l65, y65, z65⟩, st65⟩ := X63.virtualBack hx (y := (⟨"java/lang/String", "charAt", "(I)C"⟩ : MethodName)) (z := (⟨"java/lang/String", "charAt", "(I)C"⟩ : MethodName)) hown (mvT hZ (hw _ (List.mem_of_getElem? (i := 171) rfl))) (mvT hZ (hw _ (List.mem_of_getElem? (i := 172) rfl))) (notFace_of_selects (args := #[]) (mvT hZ (hw _ (List.mem_of_getElem? (i := 174) rfl)))) (mvT hZ (hw _ (List.mem_of_getElem? (i := 174) rfl))) (mvT hZ (hw _ (List.mem_of_getElem? (i := 173) rfl))) (by decide) (StrChars.Road.chN (W := 1) (i := 7) hZ (fun d hd => hw d ((by decide +kernel : ∀ d ∈ StrChars.Road.wordsChN, d ∈ tables_1) d hd)) (kI := 4) (hw _ (List.mem_of_getElem? (i := 5) rfl)) S.1 S.2.2.1 S.2.1 S.2.2.2.1.choose_spec S.cod S.wide (O2.ext X00.2) P5 (Sf.ext X00.2) rf S.2.2.2.2.2 (by omega) rfl (by decide) (by decide)) q65a q65c (g := (mkF m 164 #[.val (.ref r), .val (.int (Int32.ofNat pp)), .val (.ref a), .val (.int (Int32.ofNat ds.length))] [(.int (7 : Int32)), (.ref a), (.int (cs.getD (pp + 7) 0))])) rfl (by rw [hml]; rfl) (Steps.refl _) (argsL := [(.int (7 : Int32))]) (rest := [(.int (cs.getD (pp + 7) 0))]) (lenOf pd22 rfl) rfl (by show 2 * 0 + _ ≤ _; exact Nat.le_of_eq rfl) (hb hby dSm_164) (fun _ _ => ⟨rfl, ec63, (by decide : 0 + 0 ≤ _), (by decide : 0 + 0 ≤ _)⟩)
      dsimp only [Pt.U, Pt.locs, Pt.cells, Pt.slots] at X65 l65 y65 z65 st65 hQ65
      subst l65 y65 z65
      obtain ⟨rfl, rfl, ec65⟩ := hQ65
      have c65 : Steps p.tables e below S0 (T65.setTop (mkF m 167 #[.val (.ref r), .val (.int (Int32.ofNat pp)), .val (.ref a), .val (.int (Int32.ofNat ds.length))] [(.int (ds.getD 7 0)), (.int (cs.getD (pp + 7) 0))])) := by
        refine c64.trans ?_
        show Steps p.tables e below (T63.setTop (mkF m 164 #[.val (.ref r), .val (.int (Int32.ofNat pp)), .val (.ref a), .val (.int (Int32.ofNat ds.length))] [(.int (7 : Int32)), (.ref a), (.int (cs.getD (pp + 7) 0))])) _
        refine st65.trans ?_
        exact Steps.refl _
      have c66 : Steps p.tables e below S0 (T65.setTop (mkF m 170 #[.val (.ref r), .val (.int (Int32.ofNat pp)), .val (.ref a), .val (.int (Int32.ofNat ds.length))] [])) := by
        refine c65.trans ?_
        show Steps p.tables e below (T65.setTop (mkF m 167 #[.val (.ref r), .val (.int (Int32.ofNat pp)), .val (.ref a), .val (.int (Int32.ofNat ds.length))] [(.int (ds.getD 7 0)), (.int (cs.getD (pp + 7) 0))])) _
        refine XS.icmpNo X65.here hx rfl (hb hby dSm_167) rfl (teq (hsame 7 hj)).2 ?_
        exact Steps.refl _
      exact ⟨_, _, X65, ec65, Fr.app (Fr.app Nf (Fr.nil n0)) (Fr.nil n0), c66⟩
  obtain ⟨T68, LL68, X68, e68, Nf, c68⟩ : ∃ (T : State) (L : List Loc), Stand p l e ({ frames := 5, cells := 0, slots := 0, locals := 75 } : Room) s m #[(.ref r), (.int (Int32.ofNat pp)), (.ref a)] below meth c T L 0 0 ∧ T.heap = h0 ∧ Fr n0 L ∧ Steps p.tables e below S0 (T.setTop (mkF m 193 #[.val (.ref r), .val (.int (Int32.ofNat pp)), .val (.ref a), .val (.int (Int32.ofNat ds.length))] [])) := by
    by_cases hg : ds.length ≤ 8
    · have c75 : Steps p.tables e below S0 (T60.setTop (mkF m 193 #[.val (.ref r), .val (.int (Int32.ofNat pp)), .val (.ref a), .val (.int (Int32.ofNat ds.length))] [])) := by
        refine c60.trans ?_
        show Steps p.tables e below (T60.setTop (mkF m 170 #[.val (.ref r), .val (.int (Int32.ofNat pp)), .val (.ref a), .val (.int (Int32.ofNat ds.length))] [])) _
        refine XS.iloadN X60.here hx rfl (hb hby dSm_170) rfl ?_
        show Steps p.tables e below (T60.setTop (mkF m 171 #[.val (.ref r), .val (.int (Int32.ofNat pp)), .val (.ref a), .val (.int (Int32.ofNat ds.length))] [(.int (Int32.ofNat ds.length))])) _
        refine XS.bipush X60.here hx rfl (hb hby dSm_171) ?_
        show Steps p.tables e below (T60.setTop (mkF m 173 #[.val (.ref r), .val (.int (Int32.ofNat pp)), .val (.ref a), .val (.int (Int32.ofNat ds.length))] [(.int (9 : Int32)), (.int (Int32.ofNat ds.length))])) _
        refine XS.icmpYes X60.here hx rfl (pc0 := 173) (pc' := 193) rfl (hb hby dSm_173) rfl (tlt ((own_ltn (b := 9) (by omega) (by omega)).mpr (by omega))).1 (by decide) (by decide) ?_
        exact Steps.refl _
      exact ⟨_, _, X60, e60, Nf, c75⟩
    · have hj : 8 < ds.length := by omega
      have c69 : Steps p.tables e below S0 (T60.setTop (mkF m 176 #[.val (.ref r), .val (.int (Int32.ofNat pp)), .val (.ref a), .val (.int (Int32.ofNat ds.length))] [])) := by
        refine c60.trans ?_
        show Steps p.tables e below (T60.setTop (mkF m 170 #[.val (.ref r), .val (.int (Int32.ofNat pp)), .val (.ref a), .val (.int (Int32.ofNat ds.length))] [])) _
        refine XS.iloadN X60.here hx rfl (hb hby dSm_170) rfl ?_
        show Steps p.tables e below (T60.setTop (mkF m 171 #[.val (.ref r), .val (.int (Int32.ofNat pp)), .val (.ref a), .val (.int (Int32.ofNat ds.length))] [(.int (Int32.ofNat ds.length))])) _
        refine XS.bipush X60.here hx rfl (hb hby dSm_171) ?_
        show Steps p.tables e below (T60.setTop (mkF m 173 #[.val (.ref r), .val (.int (Int32.ofNat pp)), .val (.ref a), .val (.int (Int32.ofNat ds.length))] [(.int (9 : Int32)), (.int (Int32.ofNat ds.length))])) _
        refine XS.icmpNo X60.here hx rfl (hb hby dSm_173) rfl (flt (fun q => by have := (own_ltn (b := 9) (by omega) (by omega)).mp q; omega)).1 ?_
        exact Steps.refl _
      have c70 : Steps p.tables e below S0 (T60.setTop (mkF m 181 #[.val (.ref r), .val (.int (Int32.ofNat pp)), .val (.ref a), .val (.int (Int32.ofNat ds.length))] [(.int ((Int32.ofNat pp) + (8 : Int32))), (.ref r)])) := by
        refine c69.trans ?_
        show Steps p.tables e below (T60.setTop (mkF m 176 #[.val (.ref r), .val (.int (Int32.ofNat pp)), .val (.ref a), .val (.int (Int32.ofNat ds.length))] [])) _
        refine XS.aloadN X60.here hx rfl (hb hby dSm_176) rfl rfl ?_
        show Steps p.tables e below (T60.setTop (mkF m 177 #[.val (.ref r), .val (.int (Int32.ofNat pp)), .val (.ref a), .val (.int (Int32.ofNat ds.length))] [(.ref r)])) _
        refine XS.iloadN X60.here hx rfl (hb hby dSm_177) rfl ?_
        show Steps p.tables e below (T60.setTop (mkF m 178 #[.val (.ref r), .val (.int (Int32.ofNat pp)), .val (.ref a), .val (.int (Int32.ofNat ds.length))] [(.int (Int32.ofNat pp)), (.ref r)])) _
        refine XS.bipush X60.here hx rfl (hb hby dSm_178) ?_
        show Steps p.tables e below (T60.setTop (mkF m 180 #[.val (.ref r), .val (.int (Int32.ofNat pp)), .val (.ref a), .val (.int (Int32.ofNat ds.length))] [(.int (8 : Int32)), (.int (Int32.ofNat pp)), (.ref r)])) _
        refine XS.iadd X60.here hx rfl (hb hby dSm_180) rfl ?_
        exact Steps.refl _
      have ha : Int32.ofNat pp + (8 : Int32) = Int32.ofNat (pp + 8) := own_addn (b := 8) (by omega)
      obtain ⟨cq71, kq71, q71a, q71b, q71c⟩ := isOf hZ e60 Sr.1
      obtain ⟨_, _, ⟨T71, L71, k71, n71⟩, -, X71, ⟨Lc71, hQ71, l71, y71, z71⟩, st71⟩ := X60.virtualBack hx (y := (⟨"java/lang/String", "charAt", "(I)C"⟩ : MethodName)) (z := (⟨"java/lang/String", "charAt", "(I)C"⟩ : MethodName)) hown (mvT hZ (hw _ (List.mem_of_getElem? (i := 171) rfl))) (mvT hZ (hw _ (List.mem_of_getElem? (i := 172) rfl))) (notFace_of_selects (args := #[]) (mvT hZ (hw _ (List.mem_of_getElem? (i := 174) rfl)))) (mvT hZ (hw _ (List.mem_of_getElem? (i := 174) rfl))) (mvT hZ (hw _ (List.mem_of_getElem? (i := 173) rfl))) (by decide) (StrChars.Road.chN (W := 0) (i := (pp + 8)) hZ (fun d hd => hw d ((by decide +kernel : ∀ d ∈ StrChars.Road.wordsChN, d ∈ tables_1) d hd)) (kI := 4) (hw _ (List.mem_of_getElem? (i := 5) rfl)) Sr.1 Sr.2.2.1 Sr.2.1 Sr.2.2.2.1.choose_spec Sr.cod Sr.wide (O2.ext X00.2) P5 (Sf.ext X00.2) rf Sr.2.2.2.2.2 (by omega) ha (by decide) (by decide)) q71a q71c (g := (mkF m 181 #[.val (.ref r), .val (.int (Int32.ofNat pp)), .val (.ref a), .val (.int (Int32.ofNat ds.length))] [(.int ((Int32.ofNat pp) + (8 : Int32))), (.ref r)])) rfl (by rw [hml]; rfl) (Steps.refl _) (argsL := [(.int ((Int32.ofNat pp) + (8 : Int32)))]) (rest := []) (lenOf pd22 rfl) rfl (by show 2 * 0 + _ ≤ _; exact Nat.le_of_eq rfl) (hb hby dSm_181) (fun _ _ => ⟨rfl, e60, (by decide : 0 + 0 ≤ _), (by decide : 0 + 0 ≤ _)⟩)
      dsimp only [Pt.U, Pt.locs, Pt.cells, Pt.slots] at X71 l71 y71 z71 st71 hQ71
      subst l71 y71 z71
      obtain ⟨rfl, rfl, ec71⟩ := hQ71
      have c71 : Steps p.tables e below S0 (T71.setTop (mkF m 184 #[.val (.ref r), .val (.int (Int32.ofNat pp)), .val (.ref a), .val (.int (Int32.ofNat ds.length))] [(.int (cs.getD (pp + 8) 0))])) := by
        refine c70.trans ?_
        show Steps p.tables e below (T60.setTop (mkF m 181 #[.val (.ref r), .val (.int (Int32.ofNat pp)), .val (.ref a), .val (.int (Int32.ofNat ds.length))] [(.int ((Int32.ofNat pp) + (8 : Int32))), (.ref r)])) _
        refine st71.trans ?_
        exact Steps.refl _
      have c72 : Steps p.tables e below S0 (T71.setTop (mkF m 187 #[.val (.ref r), .val (.int (Int32.ofNat pp)), .val (.ref a), .val (.int (Int32.ofNat ds.length))] [(.int (8 : Int32)), (.ref a), (.int (cs.getD (pp + 8) 0))])) := by
        refine c71.trans ?_
        show Steps p.tables e below (T71.setTop (mkF m 184 #[.val (.ref r), .val (.int (Int32.ofNat pp)), .val (.ref a), .val (.int (Int32.ofNat ds.length))] [(.int (cs.getD (pp + 8) 0))])) _
        refine XS.aloadN X71.here hx rfl (hb hby dSm_184) rfl rfl ?_
        show Steps p.tables e below (T71.setTop (mkF m 185 #[.val (.ref r), .val (.int (Int32.ofNat pp)), .val (.ref a), .val (.int (Int32.ofNat ds.length))] [(.ref a), (.int (cs.getD (pp + 8) 0))])) _
        refine XS.bipush X71.here hx rfl (hb hby dSm_185) ?_
        exact Steps.refl _
      obtain ⟨cq73, kq73, q73a, q73b, q73c⟩ := isOf hZ ec71 S.1
      obtain ⟨_, _, ⟨T73, L73, k73, n73⟩, -, X73, ⟨Lc73, hQ73, l73, y73, z73⟩, st73⟩ := X71.virtualBack hx (y := (⟨"java/lang/String", "charAt", "(I)C"⟩ : MethodName)) (z := (⟨"java/lang/String", "charAt", "(I)C"⟩ : MethodName)) hown (mvT hZ (hw _ (List.mem_of_getElem? (i := 171) rfl))) (mvT hZ (hw _ (List.mem_of_getElem? (i := 172) rfl))) (notFace_of_selects (args := #[]) (mvT hZ (hw _ (List.mem_of_getElem? (i := 174) rfl)))) (mvT hZ (hw _ (List.mem_of_getElem? (i := 174) rfl))) (mvT hZ (hw _ (List.mem_of_getElem? (i := 173) rfl))) (by decide) (StrChars.Road.chN (W := 1) (i := 8) hZ (fun d hd => hw d ((by decide +kernel : ∀ d ∈ StrChars.Road.wordsChN, d ∈ tables_1) d hd)) (kI := 4) (hw _ (List.mem_of_getElem? (i := 5) rfl)) S.1 S.2.2.1 S.2.1 S.2.2.2.1.choose_spec S.cod S.wide (O2.ext X00.2) P5 (Sf.ext X00.2) rf S.2.2.2.2.2 (by omega) rfl (by decide) (by decide)) q73a q73c (g := (mkF m 187 #[.val (.ref r), .val (.int (Int32.ofNat pp)), .val (.ref a), .val (.int (Int32.ofNat ds.length))] [(.int (8 : Int32)), (.ref a), (.int (cs.getD (pp + 8) 0))])) rfl (by rw [hml]; rfl) (Steps.refl _) (argsL := [(.int (8 : Int32))]) (rest := [(.int (cs.getD (pp + 8) 0))]) (lenOf pd22 rfl) rfl (by show 2 * 0 + _ ≤ _; exact Nat.le_of_eq rfl) (hb hby dSm_187) (fun _ _ => ⟨rfl, ec71, (by decide : 0 + 0 ≤ _), (by decide : 0 + 0 ≤ _)⟩)
      dsimp only [Pt.U, Pt.locs, Pt.cells, Pt.slots] at X73 l73 y73 z73 st73 hQ73
      subst l73 y73 z73
      obtain ⟨rfl, rfl, ec73⟩ := hQ73
      have c73 : Steps p.tables e below S0 (T73.setTop (mkF m 190 #[.val (.ref r), .val (.int (Int32.ofNat pp)), .val (.ref a), .val (.int (Int32.ofNat ds.length))] [(.int (ds.getD 8 0)), (.int (cs.getD (pp + 8) 0))])) := by
        refine c72.trans ?_
        show Steps p.tables e below (T71.setTop (mkF m 187 #[.val (.ref r), .val (.int (Int32.ofNat pp)), .val (.ref a), .val (.int (Int32.ofNat ds.length))] [(.int (8 : Int32)), (.ref a), (.int (cs.getD (pp + 8) 0))])) _
        refine st73.trans ?_
        exact Steps.refl _
      have c74 : Steps p.tables e below S0 (T73.setTop (mkF m 193 #[.val (.ref r), .val (.int (Int32.ofNat pp)), .val (.ref a), .val (.int (Int32.ofNat ds.length))] [])) := by
        refine c73.trans ?_
        show Steps p.tables e below (T73.setTop (mkF m 190 #[.val (.ref r), .val (.int (Int32.ofNat pp)), .val (.ref a), .val (.int (Int32.ofNat ds.length))] [(.int (ds.getD 8 0)), (.int (cs.getD (pp + 8) 0))])) _
        refine XS.icmpNo X73.here hx rfl (hb hby dSm_190) rfl (teq (hsame 8 hj)).2 ?_
        exact Steps.refl _
      exact ⟨_, _, X73, ec73, Fr.app (Fr.app Nf (Fr.nil n0)) (Fr.nil n0), c74⟩
  obtain ⟨T76, LL76, X76, e76, Nf, c76⟩ : ∃ (T : State) (L : List Loc), Stand p l e ({ frames := 5, cells := 0, slots := 0, locals := 75 } : Room) s m #[(.ref r), (.int (Int32.ofNat pp)), (.ref a)] below meth c T L 0 0 ∧ T.heap = h0 ∧ Fr n0 L ∧ Steps p.tables e below S0 (T.setTop (mkF m 216 #[.val (.ref r), .val (.int (Int32.ofNat pp)), .val (.ref a), .val (.int (Int32.ofNat ds.length))] [])) := by
    by_cases hg : ds.length ≤ 9
    · have c83 : Steps p.tables e below S0 (T68.setTop (mkF m 216 #[.val (.ref r), .val (.int (Int32.ofNat pp)), .val (.ref a), .val (.int (Int32.ofNat ds.length))] [])) := by
        refine c68.trans ?_
        show Steps p.tables e below (T68.setTop (mkF m 193 #[.val (.ref r), .val (.int (Int32.ofNat pp)), .val (.ref a), .val (.int (Int32.ofNat ds.length))] [])) _
        refine XS.iloadN X68.here hx rfl (hb hby dSm_193) rfl ?_
        show Steps p.tables e below (T68.setTop (mkF m 194 #[.val (.ref r), .val (.int (Int32.ofNat pp)), .val (.ref a), .val (.int (Int32.ofNat ds.length))] [(.int (Int32.ofNat ds.length))])) _
        refine XS.bipush X68.here hx rfl (hb hby dSm_194) ?_
        show Steps p.tables e below (T68.setTop (mkF m 196 #[.val (.ref r), .val (.int (Int32.ofNat pp)), .val (.ref a), .val (.int (Int32.ofNat ds.length))] [(.int (10 : Int32)), (.int (Int32.ofNat ds.length))])) _
        refine XS.icmpYes X68.here hx rfl (pc0 := 196) (pc' := 216) rfl (hb hby dSm_196) rfl (tlt ((own_ltn (b := 10) (by omega) (by omega)).mpr (by omega))).1 (by decide) (by decide) ?_
        exact Steps.refl _
      exact ⟨_, _, X68, e68, Nf, c83⟩
    · have hj : 9 < ds.length := by omega
      have c77 : Steps p.tables e below S0 (T68.setTop (mkF m 199 #[.val (.ref r), .val (.int (Int32.ofNat pp)), .val (.ref a), .val (.int (Int32.ofNat ds.length))] [])) := by
        refine c68.trans ?_
        show Steps p.tables e below (T68.setTop (mkF m 193 #[.val (.ref r), .val (.int (Int32.ofNat pp)), .val (.ref a), .val (.int (Int32.ofNat ds.length))] [])) _
        refine XS.iloadN X68.here hx rfl (hb hby dSm_193) rfl ?_
        show Steps p.tables e below (T68.setTop (mkF m 194 #[.val (.ref r), .val (.int (Int32.ofNat pp)), .val (.ref a), .val (.int (Int32.ofNat ds.length))] [(.int (Int32.ofNat ds.length))])) _
        refine XS.bipush X68.here hx rfl (hb hby dSm_194) ?_
        show Steps p.tables e below (T68.setTop (mkF m 196 #[.val (.ref r), .val (.int (Int32.ofNat pp)), .val (.ref a), .val (.int (Int32.ofNat ds.length))] [(.int (10 : Int32)), (.int (Int32.ofNat ds.length))])) _
        refine XS.icmpNo X68.here hx rfl (hb hby dSm_196) rfl (flt (fun q => by have := (own_ltn (b := 10) (by omega) (by omega)).mp q; omega)).1 ?_
        exact Steps.refl _
      have c78 : Steps p.tables e below S0 (T68.setTop (mkF m 204 #[.val (.ref r), .val (.int (Int32.ofNat pp)), .val (.ref a), .val (.int (Int32.ofNat ds.length))] [(.int ((Int32.ofNat pp) + (9 : Int32))), (.ref r)])) := by
        refine c77.trans ?_
        show Steps p.tables e below (T68.setTop (mkF m 199 #[.val (.ref r), .val (.int (Int32.ofNat pp)), .val (.ref a), .val (.int (Int32.ofNat ds.length))] [])) _
        refine XS.aloadN X68.here hx rfl (hb hby dSm_199) rfl rfl ?_
        show Steps p.tables e below (T68.setTop (mkF m 200 #[.val (.ref r), .val (.int (Int32.ofNat pp)), .val (.ref a), .val (.int (Int32.ofNat ds.length))] [(.ref r)])) _
        refine XS.iloadN X68.here hx rfl (hb hby dSm_200) rfl ?_
        show Steps p.tables e below (T68.setTop (mkF m 201 #[.val (.ref r), .val (.int (Int32.ofNat pp)), .val (.ref a), .val (.int (Int32.ofNat ds.length))] [(.int (Int32.ofNat pp)), (.ref r)])) _
        refine XS.bipush X68.here hx rfl (hb hby dSm_201) ?_
        show Steps p.tables e below (T68.setTop (mkF m 203 #[.val (.ref r), .val (.int (Int32.ofNat pp)), .val (.ref a), .val (.int (Int32.ofNat ds.length))] [(.int (9 : Int32)), (.int (Int32.ofNat pp)), (.ref r)])) _
        refine XS.iadd X68.here hx rfl (hb hby dSm_203) rfl ?_
        exact Steps.refl _
      have ha : Int32.ofNat pp + (9 : Int32) = Int32.ofNat (pp + 9) := own_addn (b := 9) (by omega)
      obtain ⟨cq79, kq79, q79a, q79b, q79c⟩ := isOf hZ e68 Sr.1
      obtain ⟨_, _, ⟨T79, L79, k79, n79⟩, -, X79, ⟨Lc79, hQ79, l79, y79, z79⟩, st79⟩ := X68.virtualBack hx (y := (⟨"java/lang/String", "charAt", "(I)C"⟩ : MethodName)) (z := (⟨"java/lang/String", "charAt", "(I)C"⟩ : MethodName)) hown (mvT hZ (hw _ (List.mem_of_getElem? (i := 171) rfl))) (mvT hZ (hw _ (List.mem_of_getElem? (i := 172) rfl))) (notFace_of_selects (args := #[]) (mvT hZ (hw _ (List.mem_of_getElem? (i := 174) rfl)))) (mvT hZ (hw _ (List.mem_of_getElem? (i := 174) rfl))) (mvT hZ (hw _ (List.mem_of_getElem? (i := 173) rfl))) (by decide) (StrChars.Road.chN (W := 0) (i := (pp + 9)) hZ (fun d hd => hw d ((by decide +kernel : ∀ d ∈ StrChars.Road.wordsChN, d ∈ tables_1) d hd)) (kI := 4) (hw _ (List.mem_of_getElem? (i := 5) rfl)) Sr.1 Sr.2.2.1 Sr.2.1 Sr.2.2.2.1.choose_spec Sr.cod Sr.wide (O2.ext X00.2) P5 (Sf.ext X00.2) rf Sr.2.2.2.2.2 (by omega) ha (by decide) (by decide)) q79a q79c (g := (mkF m 204 #[.val (.ref r), .val (.int (Int32.ofNat pp)), .val (.ref a), .val (.int (Int32.ofNat ds.length))] [(.int ((Int32.ofNat pp) + (9 : Int32))), (.ref r)])) rfl (by rw [hml]; rfl) (Steps.refl _) (argsL := [(.int ((Int32.ofNat pp) + (9 : Int32)))]) (rest := []) (lenOf pd22 rfl) rfl (by show 2 * 0 + _ ≤ _; exact Nat.le_of_eq rfl) (hb hby dSm_204) (fun _ _ => ⟨rfl, e68, (by decide : 0 + 0 ≤ _), (by decide : 0 + 0 ≤ _)⟩)
      dsimp only [Pt.U, Pt.locs, Pt.cells, Pt.slots] at X79 l79 y79 z79 st79 hQ79
      subst l79 y79 z79
      obtain ⟨rfl, rfl, ec79⟩ := hQ79
      have c79 : Steps p.tables e below S0 (T79.setTop (mkF m 207 #[.val (.ref r), .val (.int (Int32.ofNat pp)), .val (.ref a), .val (.int (Int32.ofNat ds.length))] [(.int (cs.getD (pp + 9) 0))])) := by
        refine c78.trans ?_
        show Steps p.tables e below (T68.setTop (mkF m 204 #[.val (.ref r), .val (.int (Int32.ofNat pp)), .val (.ref a), .val (.int (Int32.ofNat ds.length))] [(.int ((Int32.ofNat pp) + (9 : Int32))), (.ref r)])) _
        refine st79.trans ?_
        exact Steps.refl _
      have c80 : Steps p.tables e below S0 (T79.setTop (mkF m 210 #[.val (.ref r), .val (.int (Int32.ofNat pp)), .val (.ref a), .val (.int (Int32.ofNat ds.length))] [(.int (9 : Int32)), (.ref a), (.int (cs.getD (pp + 9) 0))])) := by
        refine c79.trans ?_
        show Steps p.tables e below (T79.setTop (mkF m 207 #[.val (.ref r), .val (.int (Int32.ofNat pp)), .val (.ref a), .val (.int (Int32.ofNat ds.length))] [(.int (cs.getD (pp + 9) 0))])) _
        refine XS.aloadN X79.here hx rfl (hb hby dSm_207) rfl rfl ?_
        show Steps p.tables e below (T79.setTop (mkF m 208 #[.val (.ref r), .val (.int (Int32.ofNat pp)), .val (.ref a), .val (.int (Int32.ofNat ds.length))] [(.ref a), (.int (cs.getD (pp + 9) 0))])) _
        refine XS.bipush X79.here hx rfl (hb hby dSm_208) ?_
        exact Steps.refl _
      obtain ⟨cq81, kq81, q81a, q81b, q81c⟩ := isOf hZ ec79 S.1
      obtain ⟨_, _, ⟨T81, L81, k81, n81⟩, -, X81, ⟨Lc81, hQ81, l81, y81, z81⟩, st81⟩ := X79.virtualBack hx (y := (⟨"java/lang/String", "charAt", "(I)C"⟩ : MethodName)) (z := (⟨"java/lang/String", "charAt", "(I)C"⟩ : MethodName)) hown (mvT hZ (hw _ (List.mem_of_getElem? (i := 171) rfl))) (mvT hZ (hw _ (List.mem_of_getElem? (i := 172) rfl))) (notFace_of_selects (args := #[]) (mvT hZ (hw _ (List.mem_of_getElem? (i := 174) rfl)))) (mvT hZ (hw _ (List.mem_of_getElem? (i := 174) rfl))) (mvT hZ (hw _ (List.mem_of_getElem? (i := 173) rfl))) (by decide) (StrChars.Road.chN (W := 1) (i := 9) hZ (fun d hd => hw d ((by decide +kernel : ∀ d ∈ StrChars.Road.wordsChN, d ∈ tables_1) d hd)) (kI := 4) (hw _ (List.mem_of_getElem? (i := 5) rfl)) S.1 S.2.2.1 S.2.1 S.2.2.2.1.choose_spec S.cod S.wide (O2.ext X00.2) P5 (Sf.ext X00.2) rf S.2.2.2.2.2 (by omega) rfl (by decide) (by decide)) q81a q81c (g := (mkF m 210 #[.val (.ref r), .val (.int (Int32.ofNat pp)), .val (.ref a), .val (.int (Int32.ofNat ds.length))] [(.int (9 : Int32)), (.ref a), (.int (cs.getD (pp + 9) 0))])) rfl (by rw [hml]; rfl) (Steps.refl _) (argsL := [(.int (9 : Int32))]) (rest := [(.int (cs.getD (pp + 9) 0))]) (lenOf pd22 rfl) rfl (by show 2 * 0 + _ ≤ _; exact Nat.le_of_eq rfl) (hb hby dSm_210) (fun _ _ => ⟨rfl, ec79, (by decide : 0 + 0 ≤ _), (by decide : 0 + 0 ≤ _)⟩)
      dsimp only [Pt.U, Pt.locs, Pt.cells, Pt.slots] at X81 l81 y81 z81 st81 hQ81
      subst l81 y81 z81
      obtain ⟨rfl, rfl, ec81⟩ := hQ81
      have c81 : Steps p.tables e below S0 (T81.setTop (mkF m 213 #[.val (.ref r), .val (.int (Int32.ofNat pp)), .val (.ref a), .val (.int (Int32.ofNat ds.length))] [(.int (ds.getD 9 0)), (.int (cs.getD (pp + 9) 0))])) := by
        refine c80.trans ?_
        show Steps p.tables e below (T79.setTop (mkF m 210 #[.val (.ref r), .val (.int (Int32.ofNat pp)), .val (.ref a), .val (.int (Int32.ofNat ds.length))] [(.int (9 : Int32)), (.ref a), (.int (cs.getD (pp + 9) 0))])) _
        refine st81.trans ?_
        exact Steps.refl _
      have c82 : Steps p.tables e below S0 (T81.setTop (mkF m 216 #[.val (.ref r), .val (.int (Int32.ofNat pp)), .val (.ref a), .val (.int (Int32.ofNat ds.length))] [])) := by
        refine c81.trans ?_
        show Steps p.tables e below (T81.setTop (mkF m 213 #[.val (.ref r), .val (.int (Int32.ofNat pp)), .val (.ref a), .val (.int (Int32.ofNat ds.length))] [(.int (ds.getD 9 0)), (.int (cs.getD (pp + 9) 0))])) _
        refine XS.icmpNo X81.here hx rfl (hb hby dSm_213) rfl (teq (hsame 9 hj)).2 ?_
        exact Steps.refl _
      exact ⟨_, _, X81, ec81, Fr.app (Fr.app Nf (Fr.nil n0)) (Fr.nil n0), c82⟩
  obtain ⟨T84, LL84, X84, e84, Nf, c84⟩ : ∃ (T : State) (L : List Loc), Stand p l e ({ frames := 5, cells := 0, slots := 0, locals := 75 } : Room) s m #[(.ref r), (.int (Int32.ofNat pp)), (.ref a)] below meth c T L 0 0 ∧ T.heap = h0 ∧ Fr n0 L ∧ Steps p.tables e below S0 (T.setTop (mkF m 239 #[.val (.ref r), .val (.int (Int32.ofNat pp)), .val (.ref a), .val (.int (Int32.ofNat ds.length))] [])) := by
    by_cases hg : ds.length ≤ 10
    · have c91 : Steps p.tables e below S0 (T76.setTop (mkF m 239 #[.val (.ref r), .val (.int (Int32.ofNat pp)), .val (.ref a), .val (.int (Int32.ofNat ds.length))] [])) := by
        refine c76.trans ?_
        show Steps p.tables e below (T76.setTop (mkF m 216 #[.val (.ref r), .val (.int (Int32.ofNat pp)), .val (.ref a), .val (.int (Int32.ofNat ds.length))] [])) _
        refine XS.iloadN X76.here hx rfl (hb hby dSm_216) rfl ?_
        show Steps p.tables e below (T76.setTop (mkF m 217 #[.val (.ref r), .val (.int (Int32.ofNat pp)), .val (.ref a), .val (.int (Int32.ofNat ds.length))] [(.int (Int32.ofNat ds.length))])) _
        refine XS.bipush X76.here hx rfl (hb hby dSm_217) ?_
        show Steps p.tables e below (T76.setTop (mkF m 219 #[.val (.ref r), .val (.int (Int32.ofNat pp)), .val (.ref a), .val (.int (Int32.ofNat ds.length))] [(.int (11 : Int32)), (.int (Int32.ofNat ds.length))])) _
        refine XS.icmpYes X76.here hx rfl (pc0 := 219) (pc' := 239) rfl (hb hby dSm_219) rfl (tlt ((own_ltn (b := 11) (by omega) (by omega)).mpr (by omega))).1 (by decide) (by decide) ?_
        exact Steps.refl _
      exact ⟨_, _, X76, e76, Nf, c91⟩
    · have hj : 10 < ds.length := by omega
      have c85 : Steps p.tables e below S0 (T76.setTop (mkF m 222 #[.val (.ref r), .val (.int (Int32.ofNat pp)), .val (.ref a), .val (.int (Int32.ofNat ds.length))] [])) := by
        refine c76.trans ?_
        show Steps p.tables e below (T76.setTop (mkF m 216 #[.val (.ref r), .val (.int (Int32.ofNat pp)), .val (.ref a), .val (.int (Int32.ofNat ds.length))] [])) _
        refine XS.iloadN X76.here hx rfl (hb hby dSm_216) rfl ?_
        show Steps p.tables e below (T76.setTop (mkF m 217 #[.val (.ref r), .val (.int (Int32.ofNat pp)), .val (.ref a), .val (.int (Int32.ofNat ds.length))] [(.int (Int32.ofNat ds.length))])) _
        refine XS.bipush X76.here hx rfl (hb hby dSm_217) ?_
        show Steps p.tables e below (T76.setTop (mkF m 219 #[.val (.ref r), .val (.int (Int32.ofNat pp)), .val (.ref a), .val (.int (Int32.ofNat ds.length))] [(.int (11 : Int32)), (.int (Int32.ofNat ds.length))])) _
        refine XS.icmpNo X76.here hx rfl (hb hby dSm_219) rfl (flt (fun q => by have := (own_ltn (b := 11) (by omega) (by omega)).mp q; omega)).1 ?_
        exact Steps.refl _
      have c86 : Steps p.tables e below S0 (T76.setTop (mkF m 227 #[.val (.ref r), .val (.int (Int32.ofNat pp)), .val (.ref a), .val (.int (Int32.ofNat ds.length))] [(.int ((Int32.ofNat pp) + (10 : Int32))), (.ref r)])) := by
        refine c85.trans ?_
        show Steps p.tables e below (T76.setTop (mkF m 222 #[.val (.ref r), .val (.int (Int32.ofNat pp)), .val (.ref a), .val (.int (Int32.ofNat ds.length))] [])) _
        refine XS.aloadN X76.here hx rfl (hb hby dSm_222) rfl rfl ?_
        show Steps p.tables e below (T76.setTop (mkF m 223 #[.val (.ref r), .val (.int (Int32.ofNat pp)), .val (.ref a), .val (.int (Int32.ofNat ds.length))] [(.ref r)])) _
        refine XS.iloadN X76.here hx rfl (hb hby dSm_223) rfl ?_
        show Steps p.tables e below (T76.setTop (mkF m 224 #[.val (.ref r), .val (.int (Int32.ofNat pp)), .val (.ref a), .val (.int (Int32.ofNat ds.length))] [(.int (Int32.ofNat pp)), (.ref r)])) _
        refine XS.bipush X76.here hx rfl (hb hby dSm_224) ?_
        show Steps p.tables e below (T76.setTop (mkF m 226 #[.val (.ref r), .val (.int (Int32.ofNat pp)), .val (.ref a), .val (.int (Int32.ofNat ds.length))] [(.int (10 : Int32)), (.int (Int32.ofNat pp)), (.ref r)])) _
        refine XS.iadd X76.here hx rfl (hb hby dSm_226) rfl ?_
        exact Steps.refl _
      have ha : Int32.ofNat pp + (10 : Int32) = Int32.ofNat (pp + 10) := own_addn (b := 10) (by omega)
      obtain ⟨cq87, kq87, q87a, q87b, q87c⟩ := isOf hZ e76 Sr.1
      obtain ⟨_, _, ⟨T87, L87, k87, n87⟩, -, X87, ⟨Lc87, hQ87, l87, y87, z87⟩, st87⟩ := X76.virtualBack hx (y := (⟨"java/lang/String", "charAt", "(I)C"⟩ : MethodName)) (z := (⟨"java/lang/String", "charAt", "(I)C"⟩ : MethodName)) hown (mvT hZ (hw _ (List.mem_of_getElem? (i := 171) rfl))) (mvT hZ (hw _ (List.mem_of_getElem? (i := 172) rfl))) (notFace_of_selects (args := #[]) (mvT hZ (hw _ (List.mem_of_getElem? (i := 174) rfl)))) (mvT hZ (hw _ (List.mem_of_getElem? (i := 174) rfl))) (mvT hZ (hw _ (List.mem_of_getElem? (i := 173) rfl))) (by decide) (StrChars.Road.chN (W := 0) (i := (pp + 10)) hZ (fun d hd => hw d ((by decide +kernel : ∀ d ∈ StrChars.Road.wordsChN, d ∈ tables_1) d hd)) (kI := 4) (hw _ (List.mem_of_getElem? (i := 5) rfl)) Sr.1 Sr.2.2.1 Sr.2.1 Sr.2.2.2.1.choose_spec Sr.cod Sr.wide (O2.ext X00.2) P5 (Sf.ext X00.2) rf Sr.2.2.2.2.2 (by omega) ha (by decide) (by decide)) q87a q87c (g := (mkF m 227 #[.val (.ref r), .val (.int (Int32.ofNat pp)), .val (.ref a), .val (.int (Int32.ofNat ds.length))] [(.int ((Int32.ofNat pp) + (10 : Int32))), (.ref r)])) rfl (by rw [hml]; rfl) (Steps.refl _) (argsL := [(.int ((Int32.ofNat pp) + (10 : Int32)))]) (rest := []) (lenOf pd22 rfl) rfl (by show 2 * 0 + _ ≤ _; exact Nat.le_of_eq rfl) (hb hby dSm_227) (fun _ _ => ⟨rfl, e76, (by decide : 0 + 0 ≤ _), (by decide : 0 + 0 ≤ _)⟩)
      dsimp only [Pt.U, Pt.locs, Pt.cells, Pt.slots] at X87 l87 y87 z87 st87 hQ87
      subst l87 y87 z87
      obtain ⟨rfl, rfl, ec87⟩ := hQ87
      have c87 : Steps p.tables e below S0 (T87.setTop (mkF m 230 #[.val (.ref r), .val (.int (Int32.ofNat pp)), .val (.ref a), .val (.int (Int32.ofNat ds.length))] [(.int (cs.getD (pp + 10) 0))])) := by
        refine c86.trans ?_
        show Steps p.tables e below (T76.setTop (mkF m 227 #[.val (.ref r), .val (.int (Int32.ofNat pp)), .val (.ref a), .val (.int (Int32.ofNat ds.length))] [(.int ((Int32.ofNat pp) + (10 : Int32))), (.ref r)])) _
        refine st87.trans ?_
        exact Steps.refl _
      have c88 : Steps p.tables e below S0 (T87.setTop (mkF m 233 #[.val (.ref r), .val (.int (Int32.ofNat pp)), .val (.ref a), .val (.int (Int32.ofNat ds.length))] [(.int (10 : Int32)), (.ref a), (.int (cs.getD (pp + 10) 0))])) := by
        refine c87.trans ?_
        show Steps p.tables e below (T87.setTop (mkF m 230 #[.val (.ref r), .val (.int (Int32.ofNat pp)), .val (.ref a), .val (.int (Int32.ofNat ds.length))] [(.int (cs.getD (pp + 10) 0))])) _
        refine XS.aloadN X87.here hx rfl (hb hby dSm_230) rfl rfl ?_
        show Steps p.tables e below (T87.setTop (mkF m 231 #[.val (.ref r), .val (.int (Int32.ofNat pp)), .val (.ref a), .val (.int (Int32.ofNat ds.length))] [(.ref a), (.int (cs.getD (pp + 10) 0))])) _
        refine XS.bipush X87.here hx rfl (hb hby dSm_231) ?_
        exact Steps.refl _
      obtain ⟨cq89, kq89, q89a, q89b, q89c⟩ := isOf hZ ec87 S.1
      obtain ⟨_, _, ⟨T89, L89, k89, n89⟩, -, X89, ⟨Lc89, hQ89, l89, y89, z89⟩, st89⟩ := X87.virtualBack hx (y := (⟨"java/lang/String", "charAt", "(I)C"⟩ : MethodName)) (z := (⟨"java/lang/String", "charAt", "(I)C"⟩ : MethodName)) hown (mvT hZ (hw _ (List.mem_of_getElem? (i := 171) rfl))) (mvT hZ (hw _ (List.mem_of_getElem? (i := 172) rfl))) (notFace_of_selects (args := #[]) (mvT hZ (hw _ (List.mem_of_getElem? (i := 174) rfl)))) (mvT hZ (hw _ (List.mem_of_getElem? (i := 174) rfl))) (mvT hZ (hw _ (List.mem_of_getElem? (i := 173) rfl))) (by decide) (StrChars.Road.chN (W := 1) (i := 10) hZ (fun d hd => hw d ((by decide +kernel : ∀ d ∈ StrChars.Road.wordsChN, d ∈ tables_1) d hd)) (kI := 4) (hw _ (List.mem_of_getElem? (i := 5) rfl)) S.1 S.2.2.1 S.2.1 S.2.2.2.1.choose_spec S.cod S.wide (O2.ext X00.2) P5 (Sf.ext X00.2) rf S.2.2.2.2.2 (by omega) rfl (by decide) (by decide)) q89a q89c (g := (mkF m 233 #[.val (.ref r), .val (.int (Int32.ofNat pp)), .val (.ref a), .val (.int (Int32.ofNat ds.length))] [(.int (10 : Int32)), (.ref a), (.int (cs.getD (pp + 10) 0))])) rfl (by rw [hml]; rfl) (Steps.refl _) (argsL := [(.int (10 : Int32))]) (rest := [(.int (cs.getD (pp + 10) 0))]) (lenOf pd22 rfl) rfl (by show 2 * 0 + _ ≤ _; exact Nat.le_of_eq rfl) (hb hby dSm_233) (fun _ _ => ⟨rfl, ec87, (by decide : 0 + 0 ≤ _), (by decide : 0 + 0 ≤ _)⟩)
      dsimp only [Pt.U, Pt.locs, Pt.cells, Pt.slots] at X89 l89 y89 z89 st89 hQ89
      subst l89 y89 z89
      obtain ⟨rfl, rfl, ec89⟩ := hQ89
      have c89 : Steps p.tables e below S0 (T89.setTop (mkF m 236 #[.val (.ref r), .val (.int (Int32.ofNat pp)), .val (.ref a), .val (.int (Int32.ofNat ds.length))] [(.int (ds.getD 10 0)), (.int (cs.getD (pp + 10) 0))])) := by
        refine c88.trans ?_
        show Steps p.tables e below (T87.setTop (mkF m 233 #[.val (.ref r), .val (.int (Int32.ofNat pp)), .val (.ref a), .val (.int (Int32.ofNat ds.length))] [(.int (10 : Int32)), (.ref a), (.int (cs.getD (pp + 10) 0))])) _
        refine st89.trans ?_
        exact Steps.refl _
      have c90 : Steps p.tables e below S0 (T89.setTop (mkF m 239 #[.val (.ref r), .val (.int (Int32.ofNat pp)), .val (.ref a), .val (.int (Int32.ofNat ds.length))] [])) := by
        refine c89.trans ?_
        show Steps p.tables e below (T89.setTop (mkF m 236 #[.val (.ref r), .val (.int (Int32.ofNat pp)), .val (.ref a), .val (.int (Int32.ofNat ds.length))] [(.int (ds.getD 10 0)), (.int (cs.getD (pp + 10) 0))])) _
        refine XS.icmpNo X89.here hx rfl (hb hby dSm_236) rfl (teq (hsame 10 hj)).2 ?_
        exact Steps.refl _
      exact ⟨_, _, X89, ec89, Fr.app (Fr.app Nf (Fr.nil n0)) (Fr.nil n0), c90⟩
  obtain ⟨T92, LL92, X92, e92, Nf, c92⟩ : ∃ (T : State) (L : List Loc), Stand p l e ({ frames := 5, cells := 0, slots := 0, locals := 75 } : Room) s m #[(.ref r), (.int (Int32.ofNat pp)), (.ref a)] below meth c T L 0 0 ∧ T.heap = h0 ∧ Fr n0 L ∧ Steps p.tables e below S0 (T.setTop (mkF m 262 #[.val (.ref r), .val (.int (Int32.ofNat pp)), .val (.ref a), .val (.int (Int32.ofNat ds.length))] [])) := by
    by_cases hg : ds.length ≤ 11
    · have c99 : Steps p.tables e below S0 (T84.setTop (mkF m 262 #[.val (.ref r), .val (.int (Int32.ofNat pp)), .val (.ref a), .val (.int (Int32.ofNat ds.length))] [])) := by
        refine c84.trans ?_
        show Steps p.tables e below (T84.setTop (mkF m 239 #[.val (.ref r), .val (.int (Int32.ofNat pp)), .val (.ref a), .val (.int (Int32.ofNat ds.length))] [])) _
        refine XS.iloadN X84.here hx rfl (hb hby dSm_239) rfl ?_
        show Steps p.tables e below (T84.setTop (mkF m 240 #[.val (.ref r), .val (.int (Int32.ofNat pp)), .val (.ref a), .val (.int (Int32.ofNat ds.length))] [(.int (Int32.ofNat ds.length))])) _
        refine XS.bipush X84.here hx rfl (hb hby dSm_240) ?_
        show Steps p.tables e below (T84.setTop (mkF m 242 #[.val (.ref r), .val (.int (Int32.ofNat pp)), .val (.ref a), .val (.int (Int32.ofNat ds.length))] [(.int (12 : Int32)), (.int (Int32.ofNat ds.length))])) _
        refine XS.icmpYes X84.here hx rfl (pc0 := 242) (pc' := 262) rfl (hb hby dSm_242) rfl (tlt ((own_ltn (b := 12) (by omega) (by omega)).mpr (by omega))).1 (by decide) (by decide) ?_
        exact Steps.refl _
      exact ⟨_, _, X84, e84, Nf, c99⟩
    · have hj : 11 < ds.length := by omega
      have c93 : Steps p.tables e below S0 (T84.setTop (mkF m 245 #[.val (.ref r), .val (.int (Int32.ofNat pp)), .val (.ref a), .val (.int (Int32.ofNat ds.length))] [])) := by
        refine c84.trans ?_
        show Steps p.tables e below (T84.setTop (mkF m 239 #[.val (.ref r), .val (.int (Int32.ofNat pp)), .val (.ref a), .val (.int (Int32.ofNat ds.length))] [])) _
        refine XS.iloadN X84.here hx rfl (hb hby dSm_239) rfl ?_
        show Steps p.tables e below (T84.setTop (mkF m 240 #[.val (.ref r), .val (.int (Int32.ofNat pp)), .val (.ref a), .val (.int (Int32.ofNat ds.length))] [(.int (Int32.ofNat ds.length))])) _
        refine XS.bipush X84.here hx rfl (hb hby dSm_240) ?_
        show Steps p.tables e below (T84.setTop (mkF m 242 #[.val (.ref r), .val (.int (Int32.ofNat pp)), .val (.ref a), .val (.int (Int32.ofNat ds.length))] [(.int (12 : Int32)), (.int (Int32.ofNat ds.length))])) _
        refine XS.icmpNo X84.here hx rfl (hb hby dSm_242) rfl (flt (fun q => by have := (own_ltn (b := 12) (by omega) (by omega)).mp q; omega)).1 ?_
        exact Steps.refl _
      have c94 : Steps p.tables e below S0 (T84.setTop (mkF m 250 #[.val (.ref r), .val (.int (Int32.ofNat pp)), .val (.ref a), .val (.int (Int32.ofNat ds.length))] [(.int ((Int32.ofNat pp) + (11 : Int32))), (.ref r)])) := by
        refine c93.trans ?_
        show Steps p.tables e below (T84.setTop (mkF m 245 #[.val (.ref r), .val (.int (Int32.ofNat pp)), .val (.ref a), .val (.int (Int32.ofNat ds.length))] [])) _
        refine XS.aloadN X84.here hx rfl (hb hby dSm_245) rfl rfl ?_
        show Steps p.tables e below (T84.setTop (mkF m 246 #[.val (.ref r), .val (.int (Int32.ofNat pp)), .val (.ref a), .val (.int (Int32.ofNat ds.length))] [(.ref r)])) _
        refine XS.iloadN X84.here hx rfl (hb hby dSm_246) rfl ?_
        show Steps p.tables e below (T84.setTop (mkF m 247 #[.val (.ref r), .val (.int (Int32.ofNat pp)), .val (.ref a), .val (.int (Int32.ofNat ds.length))] [(.int (Int32.ofNat pp)), (.ref r)])) _
        refine XS.bipush X84.here hx rfl (hb hby dSm_247) ?_
        show Steps p.tables e below (T84.setTop (mkF m 249 #[.val (.ref r), .val (.int (Int32.ofNat pp)), .val (.ref a), .val (.int (Int32.ofNat ds.length))] [(.int (11 : Int32)), (.int (Int32.ofNat pp)), (.ref r)])) _
        refine XS.iadd X84.here hx rfl (hb hby dSm_249) rfl ?_
        exact Steps.refl _
      have ha : Int32.ofNat pp + (11 : Int32) = Int32.ofNat (pp + 11) := own_addn (b := 11) (by omega)
      obtain ⟨cq95, kq95, q95a, q95b, q95c⟩ := isOf hZ e84 Sr.1
      obtain ⟨_, _, ⟨T95, L95, k95, n95⟩, -, X95, ⟨Lc95, hQ95, l95, y95, z95⟩, st95⟩ := X84.virtualBack hx (y := (⟨"java/lang/String", "charAt", "(I)C"⟩ : MethodName)) (z := (⟨"java/lang/String", "charAt", "(I)C"⟩ : MethodName)) hown (mvT hZ (hw _ (List.mem_of_getElem? (i := 171) rfl))) (mvT hZ (hw _ (List.mem_of_getElem? (i := 172) rfl))) (notFace_of_selects (args := #[]) (mvT hZ (hw _ (List.mem_of_getElem? (i := 174) rfl)))) (mvT hZ (hw _ (List.mem_of_getElem? (i := 174) rfl))) (mvT hZ (hw _ (List.mem_of_getElem? (i := 173) rfl))) (by decide) (StrChars.Road.chN (W := 0) (i := (pp + 11)) hZ (fun d hd => hw d ((by decide +kernel : ∀ d ∈ StrChars.Road.wordsChN, d ∈ tables_1) d hd)) (kI := 4) (hw _ (List.mem_of_getElem? (i := 5) rfl)) Sr.1 Sr.2.2.1 Sr.2.1 Sr.2.2.2.1.choose_spec Sr.cod Sr.wide (O2.ext X00.2) P5 (Sf.ext X00.2) rf Sr.2.2.2.2.2 (by omega) ha (by decide) (by decide)) q95a q95c (g := (mkF m 250 #[.val (.ref r), .val (.int (Int32.ofNat pp)), .val (.ref a), .val (.int (Int32.ofNat ds.length))] [(.int ((Int32.ofNat pp) + (11 : Int32))), (.ref r)])) rfl (by rw [hml]; rfl) (Steps.refl _) (argsL := [(.int ((Int32.ofNat pp) + (11 : Int32)))]) (rest := []) (lenOf pd22 rfl) rfl (by show 2 * 0 + _ ≤ _; exact Nat.le_of_eq rfl) (hb hby dSm_250) (fun _ _ => ⟨rfl, e84, (by decide : 0 + 0 ≤ _), (by decide : 0 + 0 ≤ _)⟩)
      dsimp only [Pt.U, Pt.locs, Pt.cells, Pt.slots] at X95 l95 y95 z95 st95 hQ95
      subst l95 y95 z95
      obtain ⟨rfl, rfl, ec95⟩ := hQ95
      have c95 : Steps p.tables e below S0 (T95.setTop (mkF m 253 #[.val (.ref r), .val (.int (Int32.ofNat pp)), .val (.ref a), .val (.int (Int32.ofNat ds.length))] [(.int (cs.getD (pp + 11) 0))])) := by
        refine c94.trans ?_
        show Steps p.tables e below (T84.setTop (mkF m 250 #[.val (.ref r), .val (.int (Int32.ofNat pp)), .val (.ref a), .val (.int (Int32.ofNat ds.length))] [(.int ((Int32.ofNat pp) + (11 : Int32))), (.ref r)])) _
        refine st95.trans ?_
        exact Steps.refl _
      have c96 : Steps p.tables e below S0 (T95.setTop (mkF m 256 #[.val (.ref r), .val (.int (Int32.ofNat pp)), .val (.ref a), .val (.int (Int32.ofNat ds.length))] [(.int (11 : Int32)), (.ref a), (.int (cs.getD (pp + 11) 0))])) := by
        refine c95.trans ?_
        show Steps p.tables e below (T95.setTop (mkF m 253 #[.val (.ref r), .val (.int (Int32.ofNat pp)), .val (.ref a), .val (.int (Int32.ofNat ds.length))] [(.int (cs.getD (pp + 11) 0))])) _
        refine XS.aloadN X95.here hx rfl (hb hby dSm_253) rfl rfl ?_
        show Steps p.tables e below (T95.setTop (mkF m 254 #[.val (.ref r), .val (.int (Int32.ofNat pp)), .val (.ref a), .val (.int (Int32.ofNat ds.length))] [(.ref a), (.int (cs.getD (pp + 11) 0))])) _
        refine XS.bipush X95.here hx rfl (hb hby dSm_254) ?_
        exact Steps.refl _
      obtain ⟨cq97, kq97, q97a, q97b, q97c⟩ := isOf hZ ec95 S.1
      obtain ⟨_, _, ⟨T97, L97, k97, n97⟩, -, X97, ⟨Lc97, hQ97, l97, y97, z97⟩, st97⟩ := X95.virtualBack hx (y := (⟨"java/lang/String", "charAt", "(I)C"⟩ : MethodName)) (z := (⟨"java/lang/String", "charAt", "(I)C"⟩ : MethodName)) hown (mvT hZ (hw _ (List.mem_of_getElem? (i := 171) rfl))) (mvT hZ (hw _ (List.mem_of_getElem? (i := 172) rfl))) (notFace_of_selects (args := #[]) (mvT hZ (hw _ (List.mem_of_getElem? (i := 174) rfl)))) (mvT hZ (hw _ (List.mem_of_getElem? (i := 174) rfl))) (mvT hZ (hw _ (List.mem_of_getElem? (i := 173) rfl))) (by decide) (StrChars.Road.chN (W := 1) (i := 11) hZ (fun d hd => hw d ((by decide +kernel : ∀ d ∈ StrChars.Road.wordsChN, d ∈ tables_1) d hd)) (kI := 4) (hw _ (List.mem_of_getElem? (i := 5) rfl)) S.1 S.2.2.1 S.2.1 S.2.2.2.1.choose_spec S.cod S.wide (O2.ext X00.2) P5 (Sf.ext X00.2) rf S.2.2.2.2.2 (by omega) rfl (by decide) (by decide)) q97a q97c (g := (mkF m 256 #[.val (.ref r), .val (.int (Int32.ofNat pp)), .val (.ref a), .val (.int (Int32.ofNat ds.length))] [(.int (11 : Int32)), (.ref a), (.int (cs.getD (pp + 11) 0))])) rfl (by rw [hml]; rfl) (Steps.refl _) (argsL := [(.int (11 : Int32))]) (rest := [(.int (cs.getD (pp + 11) 0))]) (lenOf pd22 rfl) rfl (by show 2 * 0 + _ ≤ _; exact Nat.le_of_eq rfl) (hb hby dSm_256) (fun _ _ => ⟨rfl, ec95, (by decide : 0 + 0 ≤ _), (by decide : 0 + 0 ≤ _)⟩)
      dsimp only [Pt.U, Pt.locs, Pt.cells, Pt.slots] at X97 l97 y97 z97 st97 hQ97
      subst l97 y97 z97
      obtain ⟨rfl, rfl, ec97⟩ := hQ97
      have c97 : Steps p.tables e below S0 (T97.setTop (mkF m 259 #[.val (.ref r), .val (.int (Int32.ofNat pp)), .val (.ref a), .val (.int (Int32.ofNat ds.length))] [(.int (ds.getD 11 0)), (.int (cs.getD (pp + 11) 0))])) := by
        refine c96.trans ?_
        show Steps p.tables e below (T95.setTop (mkF m 256 #[.val (.ref r), .val (.int (Int32.ofNat pp)), .val (.ref a), .val (.int (Int32.ofNat ds.length))] [(.int (11 : Int32)), (.ref a), (.int (cs.getD (pp + 11) 0))])) _
        refine st97.trans ?_
        exact Steps.refl _
      have c98 : Steps p.tables e below S0 (T97.setTop (mkF m 262 #[.val (.ref r), .val (.int (Int32.ofNat pp)), .val (.ref a), .val (.int (Int32.ofNat ds.length))] [])) := by
        refine c97.trans ?_
        show Steps p.tables e below (T97.setTop (mkF m 259 #[.val (.ref r), .val (.int (Int32.ofNat pp)), .val (.ref a), .val (.int (Int32.ofNat ds.length))] [(.int (ds.getD 11 0)), (.int (cs.getD (pp + 11) 0))])) _
        refine XS.icmpNo X97.here hx rfl (hb hby dSm_259) rfl (teq (hsame 11 hj)).2 ?_
        exact Steps.refl _
      exact ⟨_, _, X97, ec97, Fr.app (Fr.app Nf (Fr.nil n0)) (Fr.nil n0), c98⟩
  have c100 : Steps p.tables e below S0 (T92.setTop (mkF m 267 #[.val (.ref r), .val (.int (Int32.ofNat pp)), .val (.ref a), .val (.int (Int32.ofNat ds.length))] [(.int (1 : Int32))])) := by
    refine c92.trans ?_
    show Steps p.tables e below (T92.setTop (mkF m 262 #[.val (.ref r), .val (.int (Int32.ofNat pp)), .val (.ref a), .val (.int (Int32.ofNat ds.length))] [])) _
    refine XS.iconst X92.here hx rfl (hb hby dSm_262) ?_
    show Steps p.tables e below (T92.setTop (mkF m 263 #[.val (.ref r), .val (.int (Int32.ofNat pp)), .val (.ref a), .val (.int (Int32.ofNat ds.length))] [(.int (1 : Int32))])) _
    refine XS.goto X92.here hx rfl (pc0 := 263) (pc' := 267) rfl (hb hby dSm_263) (by decide) (by decide) ?_
    exact Steps.refl _
  obtain ⟨fs, hr, hrun, hended, hW, hsame⟩ := X92.leave (v := some (.int 1)) (fun h => by rw [Bd.returns] at h; cases h)
  refine ⟨_, _, c100.trans ?_, hrun, hended, _, _, rfl, ?_, ⟨_, rfl⟩, hW, hsame.mono (by decide) (by decide)⟩
  · show Steps p.tables e below (T92.setTop (mkF m 267 #[.val (.ref r), .val (.int (Int32.ofNat pp)), .val (.ref a), .val (.int (Int32.ofNat ds.length))] [(.int (1 : Int32))])) _
    exact retN X92 hx (t := .boolean) Bd.returns (by simp) (hb hby dSm_267) hr
  · show QSm Z r tr cs pp a ta ds G1 fm h0 n0 _ T92.heap _
    rw [e92]
    exact ⟨rfl, Nf, rfl⟩
def Q0 (Z : State) (i0 : Int32) (i1 : Int32) (i2 : Int32) (G1 : Int32) (fm : Value) (h0 : Heap) (n0 : Nat) (v : Option Value) (h : Heap) (L : List Loc) : Prop := v = some (.int 1) ∧ Fr n0 L
theorem ef0 (m : MethodId) (i0 : Int32) (i1 : Int32) (i2 : Int32) : entryFrame m #[(.int i0), (.int i1), (.int i2)] maxLocals = mkF m 0 #[.val (.int i0), .val (.int i1), .val (.int i2), .unset, .unset, .unset, .unset, .unset, .unset] [] := by first | (simp [entryFrame, mkF, argsToLocals, Value.category, maxLocals]; done) | rfl
set_option maxRecDepth 65536 in
set_option maxHeartbeats 40000000 in
theorem rm0 (l : Launch) (Z : State) (a0 : Array Value) (hw : ∀ d ∈ tables_1, d.before a0 Z = true) (ws : List Jvm.Cond) (i0 : Int32) (i1 : Int32) (i2 : Int32) (G1 : Int32) (fm : Value) (h0 : Heap) (n0 : Nat) (Z0 : n0 ≤ h0.size) (O2 : Sta Z Z.heap "java/lang/String" "COMPACT_STRINGS" "Z" (.int G1)) (P5 : ¬ G1 = 0) (X00 : Old Z n0 h0) (Sf : Sta Z Z.heap "jdk/internal/util/Preconditions" "SIOOBE_FORMATTER" "Ljava/util/function/BiFunction;" fm) (rf : fm.isRef = true) :
    MetFree l x (head1 (Jvm.Cond.code x code maxLocals ret :: ws) room_1) (fun aa UU => aa = #[(.int i0), (.int i1), (.int i2)] ∧ Z.Warmed39 UU.vm ∧ UU.heap = h0 ∧ CHv Z consts_1 UU.vm h0 ∧ ∀ x ∈ ([] : List Addr), Safe Z consts_1 UU.vm h0 x) (fun _ _ _ _ _ => True) (fun _ UU oo UT => ∃ vv LL, oo = .returned vv ∧ Q0 Z i0 i1 i2 G1 fm h0 n0 vv UT.heap LL ∧ CHr Z consts_1 UU.vm UU.heap UT.vm UT.heap ∧ ReturnedEndW UU oo UT LL 40 4416) := by
  refine MetFree.of_bodySF (plainFor_of_name pn0) hisR ?_
  intro p e s m args below meth c s₁ Bd hml0 hP hK
  obtain ⟨rfl, hZ, hh, hC, hX⟩ := hP
  have hx := Bd.exec
  have hby := Bd.bytes
  have hml : c.maxLocals = 9 := hml0
  have hown : s.vm.findClass "implicitwiring/internal/SettingDescribedPinLaw" = some m.cls := findClass_of_methodNamed Bd.named
  have hnm := (name_of_methodNamed Bd.named Bd.method).1
  have X0 : Stand p l e room_1 s m #[(.int i0), (.int i1), (.int i2)] below meth c s₁ [] 0 0 := Stand.of_body Bd
  have e0 : s₁.heap = h0 := by rw [← hh, Bd.state]; rfl
  have N0 := Fr.nil n0
  have c0 : Steps p.tables e below (s₁.setTop (entryFrame m #[(.int i0), (.int i1), (.int i2)] maxLocals)) (s₁.setTop (mkF m 0 #[.val (.int i0), .val (.int i1), .val (.int i2), .unset, .unset, .unset, .unset, .unset, .unset] [])) := castTop (ef0 m i0 i1 i2) (Steps.refl _)
  show ∃ s₂ oo, Steps p.tables e below (s₁.setTop (entryFrame m #[(.int i0), (.int i1), (.int i2)] maxLocals)) s₂ ∧ _ ∧ _ ∧ _
  generalize s₁.setTop (entryFrame m #[(.int i0), (.int i1), (.int i2)] maxLocals) = S0 at c0 ⊢
  obtain ⟨V0, hV0⟩ : ∃ V, V = s.vm := ⟨_, rfl⟩
  have Xs : Stand p l e room_1 (s.setVm V0) m #[(.int i0), (.int i1), (.int i2)] below meth c s₁ [] 0 0 := by subst hV0; exact X0
  have hS : s.Since V0 h0.size := by subst hV0; exact (State.WarmedH.refl s).since _
  replace hZ : Z.Warmed39 (s.setVm V0).vm := by subst hV0; exact hZ
  replace hown : (s.setVm V0).vm.findClass "implicitwiring/internal/SettingDescribedPinLaw" = some m.cls := by subst hV0; exact hown
  have hk : h0.size ≤ h0.size := Nat.le_refl _
  have Zh := Z0
  have hR : CHr Z consts_1 V0 h0 V0 h0 := by subst hV0; exact CHr.refl hC
  have hEL := own_EW hw
  have hKp := Keep.refl h0 []
  have Nf := N0
  have c1 : Steps p.tables e below S0 (s₁.setTop (mkF m 11 #[.val (.int i0), .val (.int i1), .val (.int i2), .val (.int (i2 &&& (3 : Int32))), .val (.int (((i2.toUInt32 >>> ((2 : Int32) &&& 31).toUInt32).toInt32) &&& (3 : Int32))), .unset, .unset, .unset, .unset] [])) := by
    refine c0.trans ?_
    show Steps p.tables e below (s₁.setTop (mkF m 0 #[.val (.int i0), .val (.int i1), .val (.int i2), .unset, .unset, .unset, .unset, .unset, .unset] [])) _
    refine XS.iloadN Xs.here hx rfl (hb hby at_0) rfl ?_
    show Steps p.tables e below (s₁.setTop (mkF m 1 #[.val (.int i0), .val (.int i1), .val (.int i2), .unset, .unset, .unset, .unset, .unset, .unset] [(.int i2)])) _
    refine XS.iconst Xs.here hx rfl (hb hby at_1) ?_
    show Steps p.tables e below (s₁.setTop (mkF m 2 #[.val (.int i0), .val (.int i1), .val (.int i2), .unset, .unset, .unset, .unset, .unset, .unset] [(.int (3 : Int32)), (.int i2)])) _
    refine XS.iand Xs.here hx rfl (hb hby at_2) rfl ?_
    show Steps p.tables e below (s₁.setTop (mkF m 3 #[.val (.int i0), .val (.int i1), .val (.int i2), .unset, .unset, .unset, .unset, .unset, .unset] [(.int (i2 &&& (3 : Int32)))])) _
    refine XS.istoreN Xs.here hx rfl (hb hby at_3) rfl (l' := #[.val (.int i0), .val (.int i1), .val (.int i2), .val (.int (i2 &&& (3 : Int32))), .unset, .unset, .unset, .unset, .unset]) rfl ?_
    show Steps p.tables e below (s₁.setTop (mkF m 4 #[.val (.int i0), .val (.int i1), .val (.int i2), .val (.int (i2 &&& (3 : Int32))), .unset, .unset, .unset, .unset, .unset] [])) _
    refine XS.iloadN Xs.here hx rfl (hb hby at_4) rfl ?_
    show Steps p.tables e below (s₁.setTop (mkF m 5 #[.val (.int i0), .val (.int i1), .val (.int i2), .val (.int (i2 &&& (3 : Int32))), .unset, .unset, .unset, .unset, .unset] [(.int i2)])) _
    refine XS.iconst Xs.here hx rfl (hb hby at_5) ?_
    show Steps p.tables e below (s₁.setTop (mkF m 6 #[.val (.int i0), .val (.int i1), .val (.int i2), .val (.int (i2 &&& (3 : Int32))), .unset, .unset, .unset, .unset, .unset] [(.int (2 : Int32)), (.int i2)])) _
    refine XS.iushr Xs.here hx rfl (hb hby at_6) rfl ?_
    show Steps p.tables e below (s₁.setTop (mkF m 7 #[.val (.int i0), .val (.int i1), .val (.int i2), .val (.int (i2 &&& (3 : Int32))), .unset, .unset, .unset, .unset, .unset] [(.int ((i2.toUInt32 >>> ((2 : Int32) &&& 31).toUInt32).toInt32))])) _
    refine XS.iconst Xs.here hx rfl (hb hby at_7) ?_
    show Steps p.tables e below (s₁.setTop (mkF m 8 #[.val (.int i0), .val (.int i1), .val (.int i2), .val (.int (i2 &&& (3 : Int32))), .unset, .unset, .unset, .unset, .unset] [(.int (3 : Int32)), (.int ((i2.toUInt32 >>> ((2 : Int32) &&& 31).toUInt32).toInt32))])) _
    refine XS.iand Xs.here hx rfl (hb hby at_8) rfl ?_
    show Steps p.tables e below (s₁.setTop (mkF m 9 #[.val (.int i0), .val (.int i1), .val (.int i2), .val (.int (i2 &&& (3 : Int32))), .unset, .unset, .unset, .unset, .unset] [(.int (((i2.toUInt32 >>> ((2 : Int32) &&& 31).toUInt32).toInt32) &&& (3 : Int32)))])) _
    refine XS.istore Xs.here hx rfl (hb hby at_9) rfl (l' := #[.val (.int i0), .val (.int i1), .val (.int i2), .val (.int (i2 &&& (3 : Int32))), .val (.int (((i2.toUInt32 >>> ((2 : Int32) &&& 31).toUInt32).toInt32) &&& (3 : Int32))), .unset, .unset, .unset, .unset]) rfl ?_
    exact Steps.refl _
  have hv := own_m3 i2
  have ho := own_m3 (i2.toUInt32 >>> ((2 : Int32) &&& 31).toUInt32).toInt32
  generalize (i2 &&& (3 : Int32)) = vl at c1 hv
  generalize (((i2.toUInt32 >>> ((2 : Int32) &&& 31).toUInt32).toInt32) &&& (3 : Int32)) = ol at c1 ho
  have c2 : Steps p.tables e below S0 (s₁.setTop (mkF m 13 #[.val (.int i0), .val (.int i1), .val (.int i2), .val (.int vl), .val (.int ol), .unset, .unset, .unset, .unset] [(.int i0), (.int vl)])) := by
    refine c1.trans ?_
    show Steps p.tables e below (s₁.setTop (mkF m 11 #[.val (.int i0), .val (.int i1), .val (.int i2), .val (.int vl), .val (.int ol), .unset, .unset, .unset, .unset] [])) _
    refine XS.iloadN Xs.here hx rfl (hb hby at_11) rfl ?_
    show Steps p.tables e below (s₁.setTop (mkF m 12 #[.val (.int i0), .val (.int i1), .val (.int i2), .val (.int vl), .val (.int ol), .unset, .unset, .unset, .unset] [(.int vl)])) _
    refine XS.iloadN Xs.here hx rfl (hb hby at_12) rfl ?_
    exact Steps.refl _
  obtain ⟨_, _, ⟨T3, L3, k3, n3⟩, -, X3, hS3, hge3, ⟨Lc3, hQ3, l3, y3, z3, hCr3⟩, st3⟩ := callSS Xs hx (y := (⟨"implicitwiring/internal/SettingDescribedPinLaw", "mk", "(II)Ljava/lang/String;"⟩ : MethodName)) hown (mvT hZ (hw _ (List.mem_of_getElem? (i := 0) rfl))) (mvT hZ (hw _ (List.mem_of_getElem? (i := 1) rfl))) (mvT hZ (hw _ (List.mem_of_getElem? (i := 2) rfl))) (mvT hZ (hw _ (List.mem_of_getElem? (i := 3) rfl))) (by decide) (backOfSX (W := 0) (rmM l Z a0 hw [] vl i0 G1 h0 n0 Zh O2 P5 (X00.keep hKp (fun x hx => by cases hx)) hv) hZ (hw _ (List.mem_of_getElem? (i := 3) rfl)) (hw _ (List.mem_of_getElem? (i := 2) rfl)) (by decide) (by decide) hEL hR.1 (fun x hx => by cases hx)) (g := (mkF m 13 #[.val (.int i0), .val (.int i1), .val (.int i2), .val (.int vl), .val (.int ol), .unset, .unset, .unset, .unset] [(.int i0), (.int vl)])) rfl (by rw [hml]; rfl) (argsL := [(.int vl), (.int i0)]) (rest := []) (lenOf pd23 rfl) rfl (by show 2 * 0 + _ ≤ _; exact Nat.le_of_eq rfl) (hb hby at_13) (fun _ _ => ⟨rfl, e0, (by decide : 0 + 6 ≤ _), (by decide : 0 + 12 ≤ _)⟩)
  dsimp only [Pt.U, Pt.locs, Pt.cells, Pt.slots] at X3 l3 y3 z3 st3 hQ3 hS3 hge3 hCr3
  subst l3 y3 z3
  obtain ⟨X3, hS, hZ, hown⟩ := rebS hS (by rw [e0]; exact hk) X3 hS3 hge3 hZ hown
  have hk : T3.heap.size ≤ T3.heap.size := Nat.le_refl _
  have hR := hR.trans hCr3
  obtain ⟨⟨rv, tv, csv, rfl, hlv, llv, Sv⟩, Nd, Kd⟩ := hQ3
  have c3 : Steps p.tables e below S0 (T3.setTop (mkF m 16 #[.val (.int i0), .val (.int i1), .val (.int i2), .val (.int vl), .val (.int ol), .unset, .unset, .unset, .unset] [(.ref rv)])) := by
    refine c2.trans ?_
    show Steps p.tables e below (s₁.setTop (mkF m 13 #[.val (.int i0), .val (.int i1), .val (.int i2), .val (.int vl), .val (.int ol), .unset, .unset, .unset, .unset] [(.int i0), (.int vl)])) _
    refine st3.trans ?_
    exact Steps.refl _
  have Zh := Nat.le_trans Zh Kd.1
  have Nf := Fr.app Nf Nd
  have hKp := hKp.trans Kd (fun x hx => by cases hx)
  subst hlv
  have c4 : Steps p.tables e below S0 (T3.setTop (mkF m 21 #[.val (.int i0), .val (.int i1), .val (.int i2), .val (.int (Int32.ofNat csv.length)), .val (.int ol), .val (.ref rv), .unset, .unset, .unset] [(.int i1), (.int ol)])) := by
    refine c3.trans ?_
    show Steps p.tables e below (T3.setTop (mkF m 16 #[.val (.int i0), .val (.int i1), .val (.int i2), .val (.int (Int32.ofNat csv.length)), .val (.int ol), .unset, .unset, .unset, .unset] [(.ref rv)])) _
    refine XS.astore X3.here hx rfl (hb hby at_16) rfl rfl (l' := #[.val (.int i0), .val (.int i1), .val (.int i2), .val (.int (Int32.ofNat csv.length)), .val (.int ol), .val (.ref rv), .unset, .unset, .unset]) rfl ?_
    show Steps p.tables e below (T3.setTop (mkF m 18 #[.val (.int i0), .val (.int i1), .val (.int i2), .val (.int (Int32.ofNat csv.length)), .val (.int ol), .val (.ref rv), .unset, .unset, .unset] [])) _
    refine XS.iload X3.here hx rfl (hb hby at_18) rfl ?_
    show Steps p.tables e below (T3.setTop (mkF m 20 #[.val (.int i0), .val (.int i1), .val (.int i2), .val (.int (Int32.ofNat csv.length)), .val (.int ol), .val (.ref rv), .unset, .unset, .unset] [(.int ol)])) _
    refine XS.iloadN X3.here hx rfl (hb hby at_20) rfl ?_
    exact Steps.refl _
  obtain ⟨_, _, ⟨T5, L5, k5, n5⟩, -, X5, hS5, hge5, ⟨Lc5, hQ5, l5, y5, z5, hCr5⟩, st5⟩ := callSS X3 hx (y := (⟨"implicitwiring/internal/SettingDescribedPinLaw", "mk", "(II)Ljava/lang/String;"⟩ : MethodName)) hown (mvT hZ (hw _ (List.mem_of_getElem? (i := 0) rfl))) (mvT hZ (hw _ (List.mem_of_getElem? (i := 1) rfl))) (mvT hZ (hw _ (List.mem_of_getElem? (i := 2) rfl))) (mvT hZ (hw _ (List.mem_of_getElem? (i := 3) rfl))) (by decide) (backOfSX (W := 0) (rmM l Z a0 hw [] ol i1 G1 T3.heap n0 Zh O2 P5 (X00.keep hKp (fun x hx => by cases hx)) ho) hZ (hw _ (List.mem_of_getElem? (i := 3) rfl)) (hw _ (List.mem_of_getElem? (i := 2) rfl)) (by decide) (by decide) hEL hR.1 (fun x hx => by cases hx)) (g := (mkF m 21 #[.val (.int i0), .val (.int i1), .val (.int i2), .val (.int (Int32.ofNat csv.length)), .val (.int ol), .val (.ref rv), .unset, .unset, .unset] [(.int i1), (.int ol)])) rfl (by rw [hml]; rfl) (argsL := [(.int ol), (.int i1)]) (rest := []) (lenOf pd23 rfl) rfl (by show 2 * 0 + _ ≤ _; exact Nat.le_of_eq rfl) (hb hby at_21) (fun _ _ => ⟨rfl, rfl, (by decide : 6 + 6 ≤ _), (by decide : 12 + 12 ≤ _)⟩)
  dsimp only [Pt.U, Pt.locs, Pt.cells, Pt.slots] at X5 l5 y5 z5 st5 hQ5 hS5 hge5 hCr5
  subst l5 y5 z5
  obtain ⟨X5, hS, hZ, hown⟩ := rebS hS hk X5 hS5 hge5 hZ hown
  have hk : T5.heap.size ≤ T5.heap.size := Nat.le_refl _
  have hR := hR.trans hCr5
  obtain ⟨⟨ro, to, cso, rfl, hlo, llo, So⟩, Nd, Kd⟩ := hQ5
  have c5 : Steps p.tables e below S0 (T5.setTop (mkF m 24 #[.val (.int i0), .val (.int i1), .val (.int i2), .val (.int (Int32.ofNat csv.length)), .val (.int ol), .val (.ref rv), .unset, .unset, .unset] [(.ref ro)])) := by
    refine c4.trans ?_
    show Steps p.tables e below (T3.setTop (mkF m 21 #[.val (.int i0), .val (.int i1), .val (.int i2), .val (.int (Int32.ofNat csv.length)), .val (.int ol), .val (.ref rv), .unset, .unset, .unset] [(.int i1), (.int ol)])) _
    refine st5.trans ?_
    exact Steps.refl _
  have Zh := Nat.le_trans Zh Kd.1
  have Nf := Fr.app Nf Nd
  have hKp := hKp.trans Kd (fun x hx => by cases hx)
  subst hlo
  have Sv := Sv.keep0 Kd
  have c6 : Steps p.tables e below S0 (T5.setTop (mkF m 26 #[.val (.int i0), .val (.int i1), .val (.int i2), .val (.int (Int32.ofNat csv.length)), .val (.int (Int32.ofNat cso.length)), .val (.ref rv), .val (.ref ro), .unset, .unset] [])) := by
    refine c5.trans ?_
    show Steps p.tables e below (T5.setTop (mkF m 24 #[.val (.int i0), .val (.int i1), .val (.int i2), .val (.int (Int32.ofNat csv.length)), .val (.int (Int32.ofNat cso.length)), .val (.ref rv), .unset, .unset, .unset] [(.ref ro)])) _
    refine XS.astore X5.here hx rfl (hb hby at_24) rfl rfl (l' := #[.val (.int i0), .val (.int i1), .val (.int i2), .val (.int (Int32.ofNat csv.length)), .val (.int (Int32.ofNat cso.length)), .val (.ref rv), .val (.ref ro), .unset, .unset]) rfl ?_
    exact Steps.refl _
  obtain ⟨T7, h7, X7, e7, E7, A7, D7, -, st7⟩ := newO X5 hx hZ hown (hw _ (List.mem_of_getElem? (i := 37) rfl)) (hw _ (List.mem_of_getElem? (i := 38) rfl)) (hw _ (List.mem_of_getElem? (i := 39) rfl)) rfl (g := (mkF m 26 #[.val (.int i0), .val (.int i1), .val (.int i2), .val (.int (Int32.ofNat csv.length)), .val (.int (Int32.ofNat cso.length)), .val (.ref rv), .val (.ref ro), .unset, .unset] [])) rfl (hb hby at_26) (by decide) (by decide)
  obtain ⟨b7, g7⟩ : ∃ z, z = T5.heap.size := ⟨_, rfl⟩
  rw [← g7] at A7 D7 st7
  have c7 : Steps p.tables e below S0 (T7.setTop (mkF m 29 #[.val (.int i0), .val (.int i1), .val (.int i2), .val (.int (Int32.ofNat csv.length)), .val (.int (Int32.ofNat cso.length)), .val (.ref rv), .val (.ref ro), .unset, .unset] [(.ref b7)])) := by
    refine c6.trans ?_
    show Steps p.tables e below (T5.setTop (mkF m 26 #[.val (.int i0), .val (.int i1), .val (.int i2), .val (.int (Int32.ofNat csv.length)), .val (.int (Int32.ofNat cso.length)), .val (.ref rv), .val (.ref ro), .unset, .unset] [])) _
    refine st7 _ ?_
    exact Steps.refl _
  have Sf_b7 := Safe.ext E7 hR.1 (Safe.new (Nat.le_of_eq g7.symm))
  have gb7 : n0 ≤ b7 := Nat.le_trans Zh (Nat.le_of_eq g7.symm)
  have hRs7 := CHr.ext E7 hR.1
  have hR := hR.trans hRs7
  have Zh := Nat.le_trans Zh E7.1
  have hk := Nat.le_trans hk E7.1
  have zo : h0.size ≤ b7 := Nat.le_trans hKp.1 (Nat.le_of_eq g7.symm)
  have hKp := hKp.ext E7
  have Sv := Sv.ext E7
  have So := So.ext E7
  have Gv : Fld Z h7 b7 "implicitwiring/internal/SettingSources$Setting" "value" "Ljava/lang/String;" .null := D7 (Or.inr (hw _ (List.mem_of_getElem? (i := 50) rfl))) (ty := (.object "java/lang/String")) (by decide)
  have Go : Fld Z h7 b7 "implicitwiring/internal/SettingSources$Setting" "origin" "Ljava/lang/String;" .null := D7 (Or.inr (hw _ (List.mem_of_getElem? (i := 52) rfl))) (ty := (.object "java/lang/String")) (by decide)
  have c8 : Steps p.tables e below S0 (T7.setTop (mkF m 34 #[.val (.int i0), .val (.int i1), .val (.int i2), .val (.int (Int32.ofNat csv.length)), .val (.int (Int32.ofNat cso.length)), .val (.ref rv), .val (.ref ro), .unset, .unset] [(.ref ro), (.ref rv), (.ref b7), (.ref b7)])) := by
    refine c7.trans ?_
    show Steps p.tables e below (T7.setTop (mkF m 29 #[.val (.int i0), .val (.int i1), .val (.int i2), .val (.int (Int32.ofNat csv.length)), .val (.int (Int32.ofNat cso.length)), .val (.ref rv), .val (.ref ro), .unset, .unset] [(.ref b7)])) _
    refine XS.dup X7.here hx rfl (hb hby at_29) rfl rfl ?_
    show Steps p.tables e below (T7.setTop (mkF m 30 #[.val (.int i0), .val (.int i1), .val (.int i2), .val (.int (Int32.ofNat csv.length)), .val (.int (Int32.ofNat cso.length)), .val (.ref rv), .val (.ref ro), .unset, .unset] [(.ref b7), (.ref b7)])) _
    refine XS.aload X7.here hx rfl (hb hby at_30) rfl rfl ?_
    show Steps p.tables e below (T7.setTop (mkF m 32 #[.val (.int i0), .val (.int i1), .val (.int i2), .val (.int (Int32.ofNat csv.length)), .val (.int (Int32.ofNat cso.length)), .val (.ref rv), .val (.ref ro), .unset, .unset] [(.ref rv), (.ref b7), (.ref b7)])) _
    refine XS.aload X7.here hx rfl (hb hby at_32) rfl rfl ?_
    exact Steps.refl _
  obtain ⟨_, _, ⟨T9, L9, k9, n9⟩, -, X9, ⟨Lc9, hQ9, l9, y9, z9⟩, st9⟩ := X7.specialBack hx (y := (⟨"implicitwiring/internal/SettingSources$Setting", "<init>", "(Ljava/lang/String;Ljava/lang/String;)V"⟩ : MethodName)) rfl hown (mvT hZ (hw _ (List.mem_of_getElem? (i := 40) rfl))) (mvT hZ (hw _ (List.mem_of_getElem? (i := 41) rfl))) (mvT hZ (hw _ (List.mem_of_getElem? (i := 42) rfl))) (by decide) (backOf (W := 1) (rmSt l Z a0 hw [] b7 rv ro h7 n0 Zh A7 Gv Go gb7) hZ (hw _ (List.mem_of_getElem? (i := 42) rfl)) (hw _ (List.mem_of_getElem? (i := 39) rfl)) (by decide) (by decide)) (g := (mkF m 34 #[.val (.int i0), .val (.int i1), .val (.int i2), .val (.int (Int32.ofNat csv.length)), .val (.int (Int32.ofNat cso.length)), .val (.ref rv), .val (.ref ro), .unset, .unset] [(.ref ro), (.ref rv), (.ref b7), (.ref b7)])) rfl (by rw [hml]; rfl) (Steps.refl _) (a := b7) (argsL := [(.ref rv), (.ref ro)]) (rest := [(.ref b7)]) (lenOf pd24 rfl) rfl (by show 2 * 0 + _ ≤ _; exact Nat.le_of_eq rfl) (hb hby at_34) (fun _ _ => ⟨rfl, e7, (by decide : 13 + 0 ≤ _), (by decide : 26 + 0 ≤ _)⟩)
  dsimp only [Pt.U, Pt.locs, Pt.cells, Pt.slots] at X9 l9 y9 z9 st9 hQ9
  subst l9 y9 z9
  obtain ⟨rfl, Nd, Kd, Eo, Fv, Fo⟩ := hQ9
  have c9 : Steps p.tables e below S0 (T9.setTop (mkF m 37 #[.val (.int i0), .val (.int i1), .val (.int i2), .val (.int (Int32.ofNat csv.length)), .val (.int (Int32.ofNat cso.length)), .val (.ref rv), .val (.ref ro), .unset, .unset] [(.ref b7)])) := by
    refine c8.trans ?_
    show Steps p.tables e below (T7.setTop (mkF m 34 #[.val (.int i0), .val (.int i1), .val (.int i2), .val (.int (Int32.ofNat csv.length)), .val (.int (Int32.ofNat cso.length)), .val (.ref rv), .val (.ref ro), .unset, .unset] [(.ref ro), (.ref rv), (.ref b7), (.ref b7)])) _
    refine st9.trans ?_
    exact Steps.refl _
  have hRs9 := CHr.keep Kd (fun x hx => by cases List.mem_singleton.mp hx; exact Safe.exa hZ.alike A7 (by decide) (by decide)) hR.1
  have hR := hR.trans hRs9
  have Zh := Nat.le_trans Zh Kd.1
  have hk := Nat.le_trans hk Kd.1
  have Nf := Fr.app Nf Nd
  have hKp := hKp.trans Kd (fun x hx => by cases List.mem_singleton.mp hx; exact Or.inr zo)
  have Sv := Sv.keep1 Kd A7 (by decide) (hw _ (List.mem_of_getElem? (i := 38) rfl))
  have So := So.keep1 Kd A7 (by decide) (hw _ (List.mem_of_getElem? (i := 38) rfl))
  have c10 : Steps p.tables e below S0 (T9.setTop (mkF m 41 #[.val (.int i0), .val (.int i1), .val (.int i2), .val (.int (Int32.ofNat csv.length)), .val (.int (Int32.ofNat cso.length)), .val (.ref rv), .val (.ref ro), .val (.ref b7), .unset] [(.ref b7)])) := by
    refine c9.trans ?_
    show Steps p.tables e below (T9.setTop (mkF m 37 #[.val (.int i0), .val (.int i1), .val (.int i2), .val (.int (Int32.ofNat csv.length)), .val (.int (Int32.ofNat cso.length)), .val (.ref rv), .val (.ref ro), .unset, .unset] [(.ref b7)])) _
    refine XS.astore X9.here hx rfl (hb hby at_37) rfl rfl (l' := #[.val (.int i0), .val (.int i1), .val (.int i2), .val (.int (Int32.ofNat csv.length)), .val (.int (Int32.ofNat cso.length)), .val (.ref rv), .val (.ref ro), .val (.ref b7), .unset]) rfl ?_
    show Steps p.tables e below (T9.setTop (mkF m 39 #[.val (.int i0), .val (.int i1), .val (.int i2), .val (.int (Int32.ofNat csv.length)), .val (.int (Int32.ofNat cso.length)), .val (.ref rv), .val (.ref ro), .val (.ref b7), .unset] [])) _
    refine XS.aload X9.here hx rfl (hb hby at_39) rfl rfl ?_
    exact Steps.refl _
  obtain ⟨cq11, kq11, q11a, q11b, q11c⟩ := isOf hZ rfl Eo
  obtain ⟨_, _, ⟨T11, L11, k11, n11⟩, -, X11, hS11, hge11, ⟨Lc11, hQ11, l11, y11, z11, hCr11⟩, st11⟩ := X9.virtualBackS hx (y := (⟨"implicitwiring/internal/SettingSources$Setting", "described", "()Ljava/lang/String;"⟩ : MethodName)) (z := (⟨"implicitwiring/internal/SettingSources$Setting", "described", "()Ljava/lang/String;"⟩ : MethodName)) hown (mvT hZ (hw _ (List.mem_of_getElem? (i := 53) rfl))) (mvT hZ (hw _ (List.mem_of_getElem? (i := 54) rfl))) (notFace_of_selects (args := #[]) (mvT hZ (hw _ (List.mem_of_getElem? (i := 56) rfl)))) (mvT hZ (hw _ (List.mem_of_getElem? (i := 56) rfl))) (mvT hZ (hw _ (List.mem_of_getElem? (i := 55) rfl))) (by decide) (backOfSX (W := 0) (rmDe l Z a0 hw [] b7 rv tv ro to csv cso G1 T9.heap n0 Zh O2 P5 (X00.keep hKp (fun x hx => by cases hx)) Fv Fo Sv So llv llo) hZ (hw _ (List.mem_of_getElem? (i := 57) rfl)) (hw _ (List.mem_of_getElem? (i := 39) rfl)) (by decide) (by decide) hEL hR.1 (fun x hx => by cases hx)) q11a q11c (g := (mkF m 41 #[.val (.int i0), .val (.int i1), .val (.int i2), .val (.int (Int32.ofNat csv.length)), .val (.int (Int32.ofNat cso.length)), .val (.ref rv), .val (.ref ro), .val (.ref b7), .unset] [(.ref b7)])) rfl (by rw [hml]; rfl) (Steps.refl _) (argsL := []) (rest := []) (lenOf pd21 rfl) rfl (by show 2 * 0 + _ ≤ _; exact Nat.le_of_eq rfl) (hb hby at_41) (fun _ _ => ⟨rfl, rfl, (by decide : 13 + 12 ≤ _), (by decide : 26 + 1024 ≤ _)⟩)
  dsimp only [Pt.U, Pt.locs, Pt.cells, Pt.slots] at X11 l11 y11 z11 st11 hQ11 hS11 hge11 hCr11
  subst l11 y11 z11
  obtain ⟨X11, hS, hZ, hown⟩ := rebS hS hk X11 hS11 hge11 hZ hown
  have hk : T11.heap.size ≤ T11.heap.size := Nat.le_refl _
  have hR := hR.trans hCr11
  obtain ⟨⟨rr, tr, rfl, Sr⟩, Nd, Kd⟩ := hQ11
  have c11 : Steps p.tables e below S0 (T11.setTop (mkF m 44 #[.val (.int i0), .val (.int i1), .val (.int i2), .val (.int (Int32.ofNat csv.length)), .val (.int (Int32.ofNat cso.length)), .val (.ref rv), .val (.ref ro), .val (.ref b7), .unset] [(.ref rr)])) := by
    refine c10.trans ?_
    show Steps p.tables e below (T9.setTop (mkF m 41 #[.val (.int i0), .val (.int i1), .val (.int i2), .val (.int (Int32.ofNat csv.length)), .val (.int (Int32.ofNat cso.length)), .val (.ref rv), .val (.ref ro), .val (.ref b7), .unset] [(.ref b7)])) _
    refine st11.trans ?_
    exact Steps.refl _
  have Zh := Nat.le_trans Zh Kd.1
  have Nf := Fr.app Nf Nd
  have hKp := hKp.trans Kd (fun x hx => by cases hx)
  have Sv := Sv.keep0 Kd
  have So := So.keep0 Kd
  have hres : ((((([] : List Int32) ++ ([34] : List Int32)) ++ csv) ++ ([34, 44, 32, 103, 105, 118, 101, 110, 32, 98, 121, 32] : List Int32)) ++ cso).length = csv.length + cso.length + 13 := by simp; omega
  have hat : ∀ j, j < csv.length → ((((([] : List Int32) ++ ([34] : List Int32)) ++ csv) ++ ([34, 44, 32, 103, 105, 118, 101, 110, 32, 98, 121, 32] : List Int32)) ++ cso).getD (1 + j) 0 = csv.getD j 0 := own_at1 csv ([34, 44, 32, 103, 105, 118, 101, 110, 32, 98, 121, 32] : List Int32) cso
  have hat2 : ∀ j, j < ([34, 44, 32, 103, 105, 118, 101, 110, 32, 98, 121, 32] : List Int32).length → ((((([] : List Int32) ++ ([34] : List Int32)) ++ csv) ++ ([34, 44, 32, 103, 105, 118, 101, 110, 32, 98, 121, 32] : List Int32)) ++ cso).getD ((1 + csv.length) + j) 0 = ([34, 44, 32, 103, 105, 118, 101, 110, 32, 98, 121, 32] : List Int32).getD j 0 := own_at2 csv ([34, 44, 32, 103, 105, 118, 101, 110, 32, 98, 121, 32] : List Int32) cso
  have hat3 : ∀ j, j < cso.length → ((((([] : List Int32) ++ ([34] : List Int32)) ++ csv) ++ ([34, 44, 32, 103, 105, 118, 101, 110, 32, 98, 121, 32] : List Int32)) ++ cso).getD ((13 + csv.length) + j) 0 = cso.getD j 0 := own_at3 csv ([34, 44, 32, 103, 105, 118, 101, 110, 32, 98, 121, 32] : List Int32) cso rfl
  have h0c : ((((([] : List Int32) ++ ([34] : List Int32)) ++ csv) ++ ([34, 44, 32, 103, 105, 118, 101, 110, 32, 98, 121, 32] : List Int32)) ++ cso).getD 0 0 = 34 := by simp
  generalize ((((([] : List Int32) ++ ([34] : List Int32)) ++ csv) ++ ([34, 44, 32, 103, 105, 118, 101, 110, 32, 98, 121, 32] : List Int32)) ++ cso) = res at Sr hres hat hat2 hat3 h0c
  have c12 : Steps p.tables e below S0 (T11.setTop (mkF m 51 #[.val (.int i0), .val (.int i1), .val (.int i2), .val (.int (Int32.ofNat csv.length)), .val (.int (Int32.ofNat cso.length)), .val (.ref rv), .val (.ref ro), .val (.ref b7), .val (.ref rr)] [])) := by
    refine c11.trans ?_
    show Steps p.tables e below (T11.setTop (mkF m 44 #[.val (.int i0), .val (.int i1), .val (.int i2), .val (.int (Int32.ofNat csv.length)), .val (.int (Int32.ofNat cso.length)), .val (.ref rv), .val (.ref ro), .val (.ref b7), .unset] [(.ref rr)])) _
    refine XS.astore X11.here hx rfl (hb hby at_44) rfl rfl (l' := #[.val (.int i0), .val (.int i1), .val (.int i2), .val (.int (Int32.ofNat csv.length)), .val (.int (Int32.ofNat cso.length)), .val (.ref rv), .val (.ref ro), .val (.ref b7), .val (.ref rr)]) rfl ?_
    show Steps p.tables e below (T11.setTop (mkF m 46 #[.val (.int i0), .val (.int i1), .val (.int i2), .val (.int (Int32.ofNat csv.length)), .val (.int (Int32.ofNat cso.length)), .val (.ref rv), .val (.ref ro), .val (.ref b7), .val (.ref rr)] [])) _
    refine XS.aload X11.here hx rfl (hb hby at_46) rfl rfl ?_
    show Steps p.tables e below (T11.setTop (mkF m 48 #[.val (.int i0), .val (.int i1), .val (.int i2), .val (.int (Int32.ofNat csv.length)), .val (.int (Int32.ofNat cso.length)), .val (.ref rv), .val (.ref ro), .val (.ref b7), .val (.ref rr)] [(.ref rr)])) _
    refine XS.ifnullNo X11.here hx rfl (hb hby at_48) rfl ?_
    exact Steps.refl _
  have c13 : Steps p.tables e below S0 (T11.setTop (mkF m 53 #[.val (.int i0), .val (.int i1), .val (.int i2), .val (.int (Int32.ofNat csv.length)), .val (.int (Int32.ofNat cso.length)), .val (.ref rv), .val (.ref ro), .val (.ref b7), .val (.ref rr)] [(.ref rr)])) := by
    refine c12.trans ?_
    show Steps p.tables e below (T11.setTop (mkF m 51 #[.val (.int i0), .val (.int i1), .val (.int i2), .val (.int (Int32.ofNat csv.length)), .val (.int (Int32.ofNat cso.length)), .val (.ref rv), .val (.ref ro), .val (.ref b7), .val (.ref rr)] [])) _
    refine XS.aload X11.here hx rfl (hb hby at_51) rfl rfl ?_
    exact Steps.refl _
  obtain ⟨cq14, kq14, q14a, q14b, q14c⟩ := isOf hZ rfl Sr.1
  obtain ⟨_, _, ⟨T14, L14, k14, n14⟩, -, X14, ⟨Lc14, hQ14, l14, y14, z14⟩, st14⟩ := X11.virtualBack hx (y := (⟨"java/lang/String", "length", "()I"⟩ : MethodName)) (z := (⟨"java/lang/String", "length", "()I"⟩ : MethodName)) hown (mvT hZ (hw _ (List.mem_of_getElem? (i := 170) rfl))) (mvT hZ (hw _ (List.mem_of_getElem? (i := 88) rfl))) (notFace_of_selects (args := #[]) (mvT hZ (hw _ (List.mem_of_getElem? (i := 90) rfl)))) (mvT hZ (hw _ (List.mem_of_getElem? (i := 90) rfl))) (mvT hZ (hw _ (List.mem_of_getElem? (i := 89) rfl))) (by decide) (backOf (W := 0) (rmLe l Z a0 hw [] rr tr res G1 T11.heap n0 Zh O2 P5 (X00.keep hKp (fun x hx => by cases hx)) Sr (by omega)) hZ (hw _ (List.mem_of_getElem? (i := 91) rfl)) (hw _ (List.mem_of_getElem? (i := 6) rfl)) (by decide) (by decide)) q14a q14c (g := (mkF m 53 #[.val (.int i0), .val (.int i1), .val (.int i2), .val (.int (Int32.ofNat csv.length)), .val (.int (Int32.ofNat cso.length)), .val (.ref rv), .val (.ref ro), .val (.ref b7), .val (.ref rr)] [(.ref rr)])) rfl (by rw [hml]; rfl) (Steps.refl _) (argsL := []) (rest := []) (lenOf pd7 rfl) rfl (by show 2 * 0 + _ ≤ _; exact Nat.le_of_eq rfl) (hb hby at_53) (fun _ _ => ⟨rfl, rfl, (by decide : 25 + 0 ≤ _), (by decide : 1050 + 0 ≤ _)⟩)
  dsimp only [Pt.U, Pt.locs, Pt.cells, Pt.slots] at X14 l14 y14 z14 st14 hQ14
  subst l14 y14 z14
  obtain ⟨rfl, Nd, eL⟩ := hQ14
  have c14 : Steps p.tables e below S0 (T14.setTop (mkF m 56 #[.val (.int i0), .val (.int i1), .val (.int i2), .val (.int (Int32.ofNat csv.length)), .val (.int (Int32.ofNat cso.length)), .val (.ref rv), .val (.ref ro), .val (.ref b7), .val (.ref rr)] [(.int (Int32.ofNat res.length))])) := by
    refine c13.trans ?_
    show Steps p.tables e below (T11.setTop (mkF m 53 #[.val (.int i0), .val (.int i1), .val (.int i2), .val (.int (Int32.ofNat csv.length)), .val (.int (Int32.ofNat cso.length)), .val (.ref rv), .val (.ref ro), .val (.ref b7), .val (.ref rr)] [(.ref rr)])) _
    refine st14.trans ?_
    exact Steps.refl _
  have Nf := Fr.app Nf Nd
  have c15 : Steps p.tables e below S0 (T14.setTop (mkF m 68 #[.val (.int i0), .val (.int i1), .val (.int i2), .val (.int (Int32.ofNat csv.length)), .val (.int (Int32.ofNat cso.length)), .val (.ref rv), .val (.ref ro), .val (.ref b7), .val (.ref rr)] [])) := by
    refine c14.trans ?_
    show Steps p.tables e below (T14.setTop (mkF m 56 #[.val (.int i0), .val (.int i1), .val (.int i2), .val (.int (Int32.ofNat csv.length)), .val (.int (Int32.ofNat cso.length)), .val (.ref rv), .val (.ref ro), .val (.ref b7), .val (.ref rr)] [(.int (Int32.ofNat res.length))])) _
    refine XS.iloadN X14.here hx rfl (hb hby at_56) rfl ?_
    show Steps p.tables e below (T14.setTop (mkF m 57 #[.val (.int i0), .val (.int i1), .val (.int i2), .val (.int (Int32.ofNat csv.length)), .val (.int (Int32.ofNat cso.length)), .val (.ref rv), .val (.ref ro), .val (.ref b7), .val (.ref rr)] [(.int (Int32.ofNat csv.length)), (.int (Int32.ofNat res.length))])) _
    refine XS.iload X14.here hx rfl (hb hby at_57) rfl ?_
    show Steps p.tables e below (T14.setTop (mkF m 59 #[.val (.int i0), .val (.int i1), .val (.int i2), .val (.int (Int32.ofNat csv.length)), .val (.int (Int32.ofNat cso.length)), .val (.ref rv), .val (.ref ro), .val (.ref b7), .val (.ref rr)] [(.int (Int32.ofNat cso.length)), (.int (Int32.ofNat csv.length)), (.int (Int32.ofNat res.length))])) _
    refine XS.iadd X14.here hx rfl (hb hby at_59) rfl ?_
    show Steps p.tables e below (T14.setTop (mkF m 60 #[.val (.int i0), .val (.int i1), .val (.int i2), .val (.int (Int32.ofNat csv.length)), .val (.int (Int32.ofNat cso.length)), .val (.ref rv), .val (.ref ro), .val (.ref b7), .val (.ref rr)] [(.int ((Int32.ofNat csv.length) + (Int32.ofNat cso.length))), (.int (Int32.ofNat res.length))])) _
    refine XS.bipush X14.here hx rfl (hb hby at_60) ?_
    show Steps p.tables e below (T14.setTop (mkF m 62 #[.val (.int i0), .val (.int i1), .val (.int i2), .val (.int (Int32.ofNat csv.length)), .val (.int (Int32.ofNat cso.length)), .val (.ref rv), .val (.ref ro), .val (.ref b7), .val (.ref rr)] [(.int (13 : Int32)), (.int ((Int32.ofNat csv.length) + (Int32.ofNat cso.length))), (.int (Int32.ofNat res.length))])) _
    refine XS.iadd X14.here hx rfl (hb hby at_62) rfl ?_
    show Steps p.tables e below (T14.setTop (mkF m 63 #[.val (.int i0), .val (.int i1), .val (.int i2), .val (.int (Int32.ofNat csv.length)), .val (.int (Int32.ofNat cso.length)), .val (.ref rv), .val (.ref ro), .val (.ref b7), .val (.ref rr)] [(.int (((Int32.ofNat csv.length) + (Int32.ofNat cso.length)) + (13 : Int32))), (.int (Int32.ofNat res.length))])) _
    refine XS.icmpYes X14.here hx rfl (pc0 := 63) (pc' := 68) rfl (hb hby at_63) rfl (teq (by rw [own_addn (by omega), show Int32.ofNat (csv.length + cso.length) + (13 : Int32) = Int32.ofNat (csv.length + cso.length + 13) from own_addn (b := 13) (by omega), hres])).1 (by decide) (by decide) ?_
    exact Steps.refl _
  have c16 : Steps p.tables e below S0 (T14.setTop (mkF m 71 #[.val (.int i0), .val (.int i1), .val (.int i2), .val (.int (Int32.ofNat csv.length)), .val (.int (Int32.ofNat cso.length)), .val (.ref rv), .val (.ref ro), .val (.ref b7), .val (.ref rr)] [(.int (0 : Int32)), (.ref rr)])) := by
    refine c15.trans ?_
    show Steps p.tables e below (T14.setTop (mkF m 68 #[.val (.int i0), .val (.int i1), .val (.int i2), .val (.int (Int32.ofNat csv.length)), .val (.int (Int32.ofNat cso.length)), .val (.ref rv), .val (.ref ro), .val (.ref b7), .val (.ref rr)] [])) _
    refine XS.aload X14.here hx rfl (hb hby at_68) rfl rfl ?_
    show Steps p.tables e below (T14.setTop (mkF m 70 #[.val (.int i0), .val (.int i1), .val (.int i2), .val (.int (Int32.ofNat csv.length)), .val (.int (Int32.ofNat cso.length)), .val (.ref rv), .val (.ref ro), .val (.ref b7), .val (.ref rr)] [(.ref rr)])) _
    refine XS.iconst X14.here hx rfl (hb hby at_70) ?_
    exact Steps.refl _
  obtain ⟨cq17, kq17, q17a, q17b, q17c⟩ := isOf hZ eL Sr.1
  obtain ⟨_, _, ⟨T17, L17, k17, n17⟩, -, X17, ⟨Lc17, hQ17, l17, y17, z17⟩, st17⟩ := X14.virtualBack hx (y := (⟨"java/lang/String", "charAt", "(I)C"⟩ : MethodName)) (z := (⟨"java/lang/String", "charAt", "(I)C"⟩ : MethodName)) hown (mvT hZ (hw _ (List.mem_of_getElem? (i := 171) rfl))) (mvT hZ (hw _ (List.mem_of_getElem? (i := 172) rfl))) (notFace_of_selects (args := #[]) (mvT hZ (hw _ (List.mem_of_getElem? (i := 174) rfl)))) (mvT hZ (hw _ (List.mem_of_getElem? (i := 174) rfl))) (mvT hZ (hw _ (List.mem_of_getElem? (i := 173) rfl))) (by decide) (StrChars.Road.chN (W := 0) (i := 0) hZ (fun d hd => hw d ((by decide +kernel : ∀ d ∈ StrChars.Road.wordsChN, d ∈ tables_1) d hd)) (kI := 4) (hw _ (List.mem_of_getElem? (i := 5) rfl)) Sr.1 Sr.2.2.1 Sr.2.1 Sr.2.2.2.1.choose_spec Sr.cod Sr.wide (O2.ext (X00.keep hKp (fun x hx => by cases hx)).2) P5 (Sf.ext (X00.keep hKp (fun x hx => by cases hx)).2) rf Sr.2.2.2.2.2 (by omega) rfl (by decide) (by decide)) q17a q17c (g := (mkF m 71 #[.val (.int i0), .val (.int i1), .val (.int i2), .val (.int (Int32.ofNat csv.length)), .val (.int (Int32.ofNat cso.length)), .val (.ref rv), .val (.ref ro), .val (.ref b7), .val (.ref rr)] [(.int (0 : Int32)), (.ref rr)])) rfl (by rw [hml]; rfl) (Steps.refl _) (argsL := [(.int (0 : Int32))]) (rest := []) (lenOf pd22 rfl) rfl (by show 2 * 0 + _ ≤ _; exact Nat.le_of_eq rfl) (hb hby at_71) (fun _ _ => ⟨rfl, eL, (by decide : 25 + 0 ≤ _), (by decide : 1050 + 0 ≤ _)⟩)
  dsimp only [Pt.U, Pt.locs, Pt.cells, Pt.slots] at X17 l17 y17 z17 st17 hQ17
  subst l17 y17 z17
  obtain ⟨rfl, rfl, ec17⟩ := hQ17
  have c17 : Steps p.tables e below S0 (T17.setTop (mkF m 74 #[.val (.int i0), .val (.int i1), .val (.int i2), .val (.int (Int32.ofNat csv.length)), .val (.int (Int32.ofNat cso.length)), .val (.ref rv), .val (.ref ro), .val (.ref b7), .val (.ref rr)] [(.int (res.getD 0 0))])) := by
    refine c16.trans ?_
    show Steps p.tables e below (T14.setTop (mkF m 71 #[.val (.int i0), .val (.int i1), .val (.int i2), .val (.int (Int32.ofNat csv.length)), .val (.int (Int32.ofNat cso.length)), .val (.ref rv), .val (.ref ro), .val (.ref b7), .val (.ref rr)] [(.int (0 : Int32)), (.ref rr)])) _
    refine st17.trans ?_
    exact Steps.refl _
  have Nf := Fr.app Nf (Fr.nil n0)
  have c18 : Steps p.tables e below S0 (T17.setTop (mkF m 81 #[.val (.int i0), .val (.int i1), .val (.int i2), .val (.int (Int32.ofNat csv.length)), .val (.int (Int32.ofNat cso.length)), .val (.ref rv), .val (.ref ro), .val (.ref b7), .val (.ref rr)] [])) := by
    refine c17.trans ?_
    show Steps p.tables e below (T17.setTop (mkF m 74 #[.val (.int i0), .val (.int i1), .val (.int i2), .val (.int (Int32.ofNat csv.length)), .val (.int (Int32.ofNat cso.length)), .val (.ref rv), .val (.ref ro), .val (.ref b7), .val (.ref rr)] [(.int (res.getD 0 0))])) _
    refine XS.bipush X17.here hx rfl (hb hby at_74) ?_
    show Steps p.tables e below (T17.setTop (mkF m 76 #[.val (.int i0), .val (.int i1), .val (.int i2), .val (.int (Int32.ofNat csv.length)), .val (.int (Int32.ofNat cso.length)), .val (.ref rv), .val (.ref ro), .val (.ref b7), .val (.ref rr)] [(.int (34 : Int32)), (.int (res.getD 0 0))])) _
    refine XS.icmpYes X17.here hx rfl (pc0 := 76) (pc' := 81) rfl (hb hby at_76) rfl (teq h0c).1 (by decide) (by decide) ?_
    exact Steps.refl _
  have c19 : Steps p.tables e below S0 (T17.setTop (mkF m 86 #[.val (.int i0), .val (.int i1), .val (.int i2), .val (.int (Int32.ofNat csv.length)), .val (.int (Int32.ofNat cso.length)), .val (.ref rv), .val (.ref ro), .val (.ref b7), .val (.ref rr)] [(.ref rv), (.int (1 : Int32)), (.ref rr)])) := by
    refine c18.trans ?_
    show Steps p.tables e below (T17.setTop (mkF m 81 #[.val (.int i0), .val (.int i1), .val (.int i2), .val (.int (Int32.ofNat csv.length)), .val (.int (Int32.ofNat cso.length)), .val (.ref rv), .val (.ref ro), .val (.ref b7), .val (.ref rr)] [])) _
    refine XS.aload X17.here hx rfl (hb hby at_81) rfl rfl ?_
    show Steps p.tables e below (T17.setTop (mkF m 83 #[.val (.int i0), .val (.int i1), .val (.int i2), .val (.int (Int32.ofNat csv.length)), .val (.int (Int32.ofNat cso.length)), .val (.ref rv), .val (.ref ro), .val (.ref b7), .val (.ref rr)] [(.ref rr)])) _
    refine XS.iconst X17.here hx rfl (hb hby at_83) ?_
    show Steps p.tables e below (T17.setTop (mkF m 84 #[.val (.int i0), .val (.int i1), .val (.int i2), .val (.int (Int32.ofNat csv.length)), .val (.int (Int32.ofNat cso.length)), .val (.ref rv), .val (.ref ro), .val (.ref b7), .val (.ref rr)] [(.int (1 : Int32)), (.ref rr)])) _
    refine XS.aload X17.here hx rfl (hb hby at_84) rfl rfl ?_
    exact Steps.refl _
  obtain ⟨_, _, ⟨T20, L20, k20, n20⟩, -, X20, ⟨Lc20, hQ20, l20, y20, z20⟩, st20⟩ := Jvm.LawKit.callS X17 hx (y := (⟨"implicitwiring/internal/SettingDescribedPinLaw", "sameAt", "(Ljava/lang/String;ILjava/lang/String;)Z"⟩ : MethodName)) hown (mvT hZ (hw _ (List.mem_of_getElem? (i := 193) rfl))) (mvT hZ (hw _ (List.mem_of_getElem? (i := 194) rfl))) (mvT hZ (hw _ (List.mem_of_getElem? (i := 2) rfl))) (mvT hZ (hw _ (List.mem_of_getElem? (i := 195) rfl))) (by decide) (backOf (W := 0) (rmSm l Z a0 hw [] rr tr res 1 rv tv csv G1 fm T11.heap n0 Zh O2 P5 (X00.keep hKp (fun x hx => by cases hx)) Sf rf Sr Sv (by omega) (by omega) (by omega) hat) hZ (hw _ (List.mem_of_getElem? (i := 195) rfl)) (hw _ (List.mem_of_getElem? (i := 2) rfl)) (by decide) (by decide)) (g := (mkF m 86 #[.val (.int i0), .val (.int i1), .val (.int i2), .val (.int (Int32.ofNat csv.length)), .val (.int (Int32.ofNat cso.length)), .val (.ref rv), .val (.ref ro), .val (.ref b7), .val (.ref rr)] [(.ref rv), (.int (1 : Int32)), (.ref rr)])) rfl (by rw [hml]; rfl) (argsL := [(.ref rr), (.int (1 : Int32)), (.ref rv)]) (rest := []) (lenOf pd25 rfl) rfl (by show 2 * 0 + _ ≤ _; exact Nat.le_of_eq rfl) (hb hby at_86) (fun _ _ => ⟨rfl, ec17, (by decide : 25 + 0 ≤ _), (by decide : 1050 + 0 ≤ _)⟩)
  dsimp only [Pt.U, Pt.locs, Pt.cells, Pt.slots] at X20 l20 y20 z20 st20 hQ20
  subst l20 y20 z20
  obtain ⟨rfl, Nd, eA⟩ := hQ20
  have c20 : Steps p.tables e below S0 (T20.setTop (mkF m 89 #[.val (.int i0), .val (.int i1), .val (.int i2), .val (.int (Int32.ofNat csv.length)), .val (.int (Int32.ofNat cso.length)), .val (.ref rv), .val (.ref ro), .val (.ref b7), .val (.ref rr)] [(.int (1 : Int32))])) := by
    refine c19.trans ?_
    show Steps p.tables e below (T17.setTop (mkF m 86 #[.val (.int i0), .val (.int i1), .val (.int i2), .val (.int (Int32.ofNat csv.length)), .val (.int (Int32.ofNat cso.length)), .val (.ref rv), .val (.ref ro), .val (.ref b7), .val (.ref rr)] [(.ref rv), (.int (1 : Int32)), (.ref rr)])) _
    refine st20 _ ?_
    exact Steps.refl _
  have Nf := Fr.app Nf Nd
  have c21 : Steps p.tables e below S0 (T20.setTop (mkF m 92 #[.val (.int i0), .val (.int i1), .val (.int i2), .val (.int (Int32.ofNat csv.length)), .val (.int (Int32.ofNat cso.length)), .val (.ref rv), .val (.ref ro), .val (.ref b7), .val (.ref rr)] [])) := by
    refine c20.trans ?_
    show Steps p.tables e below (T20.setTop (mkF m 89 #[.val (.int i0), .val (.int i1), .val (.int i2), .val (.int (Int32.ofNat csv.length)), .val (.int (Int32.ofNat cso.length)), .val (.ref rv), .val (.ref ro), .val (.ref b7), .val (.ref rr)] [(.int (1 : Int32))])) _
    refine XS.ifNo X20.here hx rfl (hb hby at_89) rfl ((if0 _ _).trans (feq (by decide)).1) ?_
    exact Steps.refl _
  have c22 : Steps p.tables e below S0 (T20.setTop (mkF m 97 #[.val (.int i0), .val (.int i1), .val (.int i2), .val (.int (Int32.ofNat csv.length)), .val (.int (Int32.ofNat cso.length)), .val (.ref rv), .val (.ref ro), .val (.ref b7), .val (.ref rr)] [(.int ((1 : Int32) + (Int32.ofNat csv.length))), (.ref rr)])) := by
    refine c21.trans ?_
    show Steps p.tables e below (T20.setTop (mkF m 92 #[.val (.int i0), .val (.int i1), .val (.int i2), .val (.int (Int32.ofNat csv.length)), .val (.int (Int32.ofNat cso.length)), .val (.ref rv), .val (.ref ro), .val (.ref b7), .val (.ref rr)] [])) _
    refine XS.aload X20.here hx rfl (hb hby at_92) rfl rfl ?_
    show Steps p.tables e below (T20.setTop (mkF m 94 #[.val (.int i0), .val (.int i1), .val (.int i2), .val (.int (Int32.ofNat csv.length)), .val (.int (Int32.ofNat cso.length)), .val (.ref rv), .val (.ref ro), .val (.ref b7), .val (.ref rr)] [(.ref rr)])) _
    refine XS.iconst X20.here hx rfl (hb hby at_94) ?_
    show Steps p.tables e below (T20.setTop (mkF m 95 #[.val (.int i0), .val (.int i1), .val (.int i2), .val (.int (Int32.ofNat csv.length)), .val (.int (Int32.ofNat cso.length)), .val (.ref rv), .val (.ref ro), .val (.ref b7), .val (.ref rr)] [(.int (1 : Int32)), (.ref rr)])) _
    refine XS.iloadN X20.here hx rfl (hb hby at_95) rfl ?_
    show Steps p.tables e below (T20.setTop (mkF m 96 #[.val (.int i0), .val (.int i1), .val (.int i2), .val (.int (Int32.ofNat csv.length)), .val (.int (Int32.ofNat cso.length)), .val (.ref rv), .val (.ref ro), .val (.ref b7), .val (.ref rr)] [(.int (Int32.ofNat csv.length)), (.int (1 : Int32)), (.ref rr)])) _
    refine XS.iadd X20.here hx rfl (hb hby at_96) rfl ?_
    exact Steps.refl _
  obtain ⟨q23, T23, h23, k23, r23, kq23, X23, e23, E23, hS, hk, hZ, hown, Xq23, Fc23, Fv23, Vq23, ql23, rl23, hCs23, -, -, st23⟩ := ldcCH X20 hx hZ hown (hw _ (List.mem_of_getElem? (i := 196) rfl)) (own_wS hw) eA hS hk hEL (by decide) hR.1 (vs := [(.int (34)), (.int (44)), (.int (32)), (.int (103)), (.int (105)), (.int (118)), (.int (101)), (.int (110)), (.int (32)), (.int (98)), (.int (121)), (.int (32))]) (z := 12) (by decide +kernel) (by decide) (by decide) (g := (mkF m 97 #[.val (.int i0), .val (.int i1), .val (.int i2), .val (.int (Int32.ofNat csv.length)), .val (.int (Int32.ofNat cso.length)), .val (.ref rv), .val (.ref ro), .val (.ref b7), .val (.ref rr)] [(.int ((1 : Int32) + (Int32.ofNat csv.length))), (.ref rr)])) rfl (hb hby at_97) (n := 48) (by decide) (by decide) (by decide) (by decide)
  have hR := hR.trans hCs23
  have c23 : Steps p.tables e below S0 (T23.setTop (mkF m 99 #[.val (.int i0), .val (.int i1), .val (.int i2), .val (.int (Int32.ofNat csv.length)), .val (.int (Int32.ofNat cso.length)), .val (.ref rv), .val (.ref ro), .val (.ref b7), .val (.ref rr)] [(.ref q23), (.int ((1 : Int32) + (Int32.ofNat csv.length))), (.ref rr)])) := by
    refine c22.trans ?_
    show Steps p.tables e below (T20.setTop (mkF m 97 #[.val (.int i0), .val (.int i1), .val (.int i2), .val (.int (Int32.ofNat csv.length)), .val (.int (Int32.ofNat cso.length)), .val (.ref rv), .val (.ref ro), .val (.ref b7), .val (.ref rr)] [(.int ((1 : Int32) + (Int32.ofNat csv.length))), (.ref rr)])) _
    refine st23 _ ?_
    exact Steps.refl _
  have Zh := Nat.le_trans Zh E23.1
  have hKp := hKp.ext E23
  have Sr := Sr.ext E23
  have So := So.ext E23
  have Sl : own_Str Z h23 q23 r23 ([34, 44, 32, 103, 105, 118, 101, 110, 32, 98, 121, 32] : List Int32) := ⟨Xq23, Fc23, Fv23, ⟨_, Vq23⟩, by decide, by decide⟩
  rw [show (1 : Int32) + Int32.ofNat csv.length = Int32.ofNat (1 + csv.length) from own_addn (a := 1) (by omega)] at c23
  obtain ⟨_, _, ⟨T24, L24, k24, n24⟩, -, X24, ⟨Lc24, hQ24, l24, y24, z24⟩, st24⟩ := Jvm.LawKit.callS X23 hx (y := (⟨"implicitwiring/internal/SettingDescribedPinLaw", "sameAt", "(Ljava/lang/String;ILjava/lang/String;)Z"⟩ : MethodName)) hown (mvT hZ (hw _ (List.mem_of_getElem? (i := 193) rfl))) (mvT hZ (hw _ (List.mem_of_getElem? (i := 194) rfl))) (mvT hZ (hw _ (List.mem_of_getElem? (i := 2) rfl))) (mvT hZ (hw _ (List.mem_of_getElem? (i := 195) rfl))) (by decide) (backOf (W := 0) (rmSm l Z a0 hw [] rr tr res (1 + csv.length) q23 r23 ([34, 44, 32, 103, 105, 118, 101, 110, 32, 98, 121, 32] : List Int32) G1 fm h23 n0 Zh O2 P5 (X00.keep hKp (fun x hx => by cases hx)) Sf rf Sr Sl (by decide) (by omega) (by rw [hres]; show 1 + csv.length + 12 ≤ _; omega) hat2) hZ (hw _ (List.mem_of_getElem? (i := 195) rfl)) (hw _ (List.mem_of_getElem? (i := 2) rfl)) (by decide) (by decide)) (g := (mkF m 99 #[.val (.int i0), .val (.int i1), .val (.int i2), .val (.int (Int32.ofNat csv.length)), .val (.int (Int32.ofNat cso.length)), .val (.ref rv), .val (.ref ro), .val (.ref b7), .val (.ref rr)] [(.ref q23), (.int (Int32.ofNat (1 + csv.length))), (.ref rr)])) rfl (by rw [hml]; rfl) (argsL := [(.ref rr), (.int (Int32.ofNat (1 + csv.length))), (.ref q23)]) (rest := []) (lenOf pd25 rfl) rfl (by show 2 * 0 + _ ≤ _; exact Nat.le_of_eq rfl) (hb hby at_99) (fun _ _ => ⟨rfl, e23, (by decide : 27 + 0 ≤ _), (by decide : 1102 + 0 ≤ _)⟩)
  dsimp only [Pt.U, Pt.locs, Pt.cells, Pt.slots] at X24 l24 y24 z24 st24 hQ24
  subst l24 y24 z24
  obtain ⟨rfl, Nd, eB⟩ := hQ24
  have c24 : Steps p.tables e below S0 (T24.setTop (mkF m 102 #[.val (.int i0), .val (.int i1), .val (.int i2), .val (.int (Int32.ofNat csv.length)), .val (.int (Int32.ofNat cso.length)), .val (.ref rv), .val (.ref ro), .val (.ref b7), .val (.ref rr)] [(.int (1 : Int32))])) := by
    refine c23.trans ?_
    show Steps p.tables e below (T23.setTop (mkF m 99 #[.val (.int i0), .val (.int i1), .val (.int i2), .val (.int (Int32.ofNat csv.length)), .val (.int (Int32.ofNat cso.length)), .val (.ref rv), .val (.ref ro), .val (.ref b7), .val (.ref rr)] [(.ref q23), (.int (Int32.ofNat (1 + csv.length))), (.ref rr)])) _
    refine st24 _ ?_
    exact Steps.refl _
  have Nf := Fr.app Nf Nd
  have c25 : Steps p.tables e below S0 (T24.setTop (mkF m 105 #[.val (.int i0), .val (.int i1), .val (.int i2), .val (.int (Int32.ofNat csv.length)), .val (.int (Int32.ofNat cso.length)), .val (.ref rv), .val (.ref ro), .val (.ref b7), .val (.ref rr)] [])) := by
    refine c24.trans ?_
    show Steps p.tables e below (T24.setTop (mkF m 102 #[.val (.int i0), .val (.int i1), .val (.int i2), .val (.int (Int32.ofNat csv.length)), .val (.int (Int32.ofNat cso.length)), .val (.ref rv), .val (.ref ro), .val (.ref b7), .val (.ref rr)] [(.int (1 : Int32))])) _
    refine XS.ifNo X24.here hx rfl (hb hby at_102) rfl ((if0 _ _).trans (feq (by decide)).1) ?_
    exact Steps.refl _
  have c26 : Steps p.tables e below S0 (T24.setTop (mkF m 113 #[.val (.int i0), .val (.int i1), .val (.int i2), .val (.int (Int32.ofNat csv.length)), .val (.int (Int32.ofNat cso.length)), .val (.ref rv), .val (.ref ro), .val (.ref b7), .val (.ref rr)] [(.ref ro), (.int ((13 : Int32) + (Int32.ofNat csv.length))), (.ref rr)])) := by
    refine c25.trans ?_
    show Steps p.tables e below (T24.setTop (mkF m 105 #[.val (.int i0), .val (.int i1), .val (.int i2), .val (.int (Int32.ofNat csv.length)), .val (.int (Int32.ofNat cso.length)), .val (.ref rv), .val (.ref ro), .val (.ref b7), .val (.ref rr)] [])) _
    refine XS.aload X24.here hx rfl (hb hby at_105) rfl rfl ?_
    show Steps p.tables e below (T24.setTop (mkF m 107 #[.val (.int i0), .val (.int i1), .val (.int i2), .val (.int (Int32.ofNat csv.length)), .val (.int (Int32.ofNat cso.length)), .val (.ref rv), .val (.ref ro), .val (.ref b7), .val (.ref rr)] [(.ref rr)])) _
    refine XS.bipush X24.here hx rfl (hb hby at_107) ?_
    show Steps p.tables e below (T24.setTop (mkF m 109 #[.val (.int i0), .val (.int i1), .val (.int i2), .val (.int (Int32.ofNat csv.length)), .val (.int (Int32.ofNat cso.length)), .val (.ref rv), .val (.ref ro), .val (.ref b7), .val (.ref rr)] [(.int (13 : Int32)), (.ref rr)])) _
    refine XS.iloadN X24.here hx rfl (hb hby at_109) rfl ?_
    show Steps p.tables e below (T24.setTop (mkF m 110 #[.val (.int i0), .val (.int i1), .val (.int i2), .val (.int (Int32.ofNat csv.length)), .val (.int (Int32.ofNat cso.length)), .val (.ref rv), .val (.ref ro), .val (.ref b7), .val (.ref rr)] [(.int (Int32.ofNat csv.length)), (.int (13 : Int32)), (.ref rr)])) _
    refine XS.iadd X24.here hx rfl (hb hby at_110) rfl ?_
    show Steps p.tables e below (T24.setTop (mkF m 111 #[.val (.int i0), .val (.int i1), .val (.int i2), .val (.int (Int32.ofNat csv.length)), .val (.int (Int32.ofNat cso.length)), .val (.ref rv), .val (.ref ro), .val (.ref b7), .val (.ref rr)] [(.int ((13 : Int32) + (Int32.ofNat csv.length))), (.ref rr)])) _
    refine XS.aload X24.here hx rfl (hb hby at_111) rfl rfl ?_
    exact Steps.refl _
  rw [show (13 : Int32) + Int32.ofNat csv.length = Int32.ofNat (13 + csv.length) from own_addn (a := 13) (by omega)] at c26
  obtain ⟨_, _, ⟨T27, L27, k27, n27⟩, -, X27, ⟨Lc27, hQ27, l27, y27, z27⟩, st27⟩ := Jvm.LawKit.callS X24 hx (y := (⟨"implicitwiring/internal/SettingDescribedPinLaw", "sameAt", "(Ljava/lang/String;ILjava/lang/String;)Z"⟩ : MethodName)) hown (mvT hZ (hw _ (List.mem_of_getElem? (i := 193) rfl))) (mvT hZ (hw _ (List.mem_of_getElem? (i := 194) rfl))) (mvT hZ (hw _ (List.mem_of_getElem? (i := 2) rfl))) (mvT hZ (hw _ (List.mem_of_getElem? (i := 195) rfl))) (by decide) (backOf (W := 0) (rmSm l Z a0 hw [] rr tr res (13 + csv.length) ro to cso G1 fm h23 n0 Zh O2 P5 (X00.keep hKp (fun x hx => by cases hx)) Sf rf Sr So (by omega) (by omega) (by omega) hat3) hZ (hw _ (List.mem_of_getElem? (i := 195) rfl)) (hw _ (List.mem_of_getElem? (i := 2) rfl)) (by decide) (by decide)) (g := (mkF m 113 #[.val (.int i0), .val (.int i1), .val (.int i2), .val (.int (Int32.ofNat csv.length)), .val (.int (Int32.ofNat cso.length)), .val (.ref rv), .val (.ref ro), .val (.ref b7), .val (.ref rr)] [(.ref ro), (.int (Int32.ofNat (13 + csv.length))), (.ref rr)])) rfl (by rw [hml]; rfl) (argsL := [(.ref rr), (.int (Int32.ofNat (13 + csv.length))), (.ref ro)]) (rest := []) (lenOf pd25 rfl) rfl (by show 2 * 0 + _ ≤ _; exact Nat.le_of_eq rfl) (hb hby at_113) (fun _ _ => ⟨rfl, eB, (by decide : 27 + 0 ≤ _), (by decide : 1102 + 0 ≤ _)⟩)
  dsimp only [Pt.U, Pt.locs, Pt.cells, Pt.slots] at X27 l27 y27 z27 st27 hQ27
  subst l27 y27 z27
  obtain ⟨rfl, Nd, eC⟩ := hQ27
  have c27 : Steps p.tables e below S0 (T27.setTop (mkF m 116 #[.val (.int i0), .val (.int i1), .val (.int i2), .val (.int (Int32.ofNat csv.length)), .val (.int (Int32.ofNat cso.length)), .val (.ref rv), .val (.ref ro), .val (.ref b7), .val (.ref rr)] [(.int (1 : Int32))])) := by
    refine c26.trans ?_
    show Steps p.tables e below (T24.setTop (mkF m 113 #[.val (.int i0), .val (.int i1), .val (.int i2), .val (.int (Int32.ofNat csv.length)), .val (.int (Int32.ofNat cso.length)), .val (.ref rv), .val (.ref ro), .val (.ref b7), .val (.ref rr)] [(.ref ro), (.int (Int32.ofNat (13 + csv.length))), (.ref rr)])) _
    refine st27 _ ?_
    exact Steps.refl _
  have Nf := Fr.app Nf Nd
  have c28 : Steps p.tables e below S0 (T27.setTop (mkF m 124 #[.val (.int i0), .val (.int i1), .val (.int i2), .val (.int (Int32.ofNat csv.length)), .val (.int (Int32.ofNat cso.length)), .val (.ref rv), .val (.ref ro), .val (.ref b7), .val (.ref rr)] [(.int (1 : Int32))])) := by
    refine c27.trans ?_
    show Steps p.tables e below (T27.setTop (mkF m 116 #[.val (.int i0), .val (.int i1), .val (.int i2), .val (.int (Int32.ofNat csv.length)), .val (.int (Int32.ofNat cso.length)), .val (.ref rv), .val (.ref ro), .val (.ref b7), .val (.ref rr)] [(.int (1 : Int32))])) _
    refine XS.ifNo X27.here hx rfl (hb hby at_116) rfl ((if0 _ _).trans (feq (by decide)).1) ?_
    show Steps p.tables e below (T27.setTop (mkF m 119 #[.val (.int i0), .val (.int i1), .val (.int i2), .val (.int (Int32.ofNat csv.length)), .val (.int (Int32.ofNat cso.length)), .val (.ref rv), .val (.ref ro), .val (.ref b7), .val (.ref rr)] [])) _
    refine XS.iconst X27.here hx rfl (hb hby at_119) ?_
    show Steps p.tables e below (T27.setTop (mkF m 120 #[.val (.int i0), .val (.int i1), .val (.int i2), .val (.int (Int32.ofNat csv.length)), .val (.int (Int32.ofNat cso.length)), .val (.ref rv), .val (.ref ro), .val (.ref b7), .val (.ref rr)] [(.int (1 : Int32))])) _
    refine XS.goto X27.here hx rfl (pc0 := 120) (pc' := 124) rfl (hb hby at_120) (by decide) (by decide) ?_
    exact Steps.refl _
  obtain ⟨fs, hr, hrun, hended, hW⟩ := X27.leaveW hS (by rw [eC]; exact hk) (v := some (.int 1)) (fun h => by rw [Bd.returns] at h; cases h)
  refine ⟨_, _, c28.trans ?_, hrun, hended, _, _, rfl, ?_, ?_, hW.1, hW.2.1, hW.2.2.1, hW.2.2.2.mono (by decide) (by decide)⟩
  · show Steps p.tables e below (T27.setTop (mkF m 124 #[.val (.int i0), .val (.int i1), .val (.int i2), .val (.int (Int32.ofNat csv.length)), .val (.int (Int32.ofNat cso.length)), .val (.ref rv), .val (.ref ro), .val (.ref b7), .val (.ref rr)] [(.int (1 : Int32))])) _
    exact retN X27 hx (t := .boolean) Bd.returns (by simp) (hb hby at_124) hr
  · show Q0 Z i0 i1 i2 G1 fm h0 n0 _ T27.heap _
    rw [eC]
    exact ⟨rfl, Nf⟩
  · show CHr Z consts_1 s.vm s.heap T27.vm T27.heap
    rw [hh, eC, ← hV0]
    exact hR.trans (CHv.at X27 hZ hEL hR.1)
set_option maxRecDepth 65536 in
set_option maxHeartbeats 40000000 in
theorem comes_1 {Post : Tables → Env → Array Value → State → Outcome → State → Prop} (hpost : ∀ tb e args s v u, (limb_1_1.after args s (.returned v) u = true ∧ limb_1_2.after args s (.returned v) u = true ∧ True) → ReturnedEndW s (.returned v) u (Jvm.fieldLocs frame_1_writes args s ++ Jvm.arrayLocs frame_1_arrays args s ++ Jvm.staticLocs frame_1_statics s) 40 4416 → Post tb e args s (.returned v) u) :
    ArmFor flags0 classFile x code maxLocals ret World_1 tables_1 room_1 Calls_1 rest_1 Pre_1 Post := by
  intro l hfl _ _ p e ha hc hk s m args below hf hA hF happ hP
  obtain ⟨hcalls, hrest, hpre⟩ := hP
  obtain ⟨-, -, -, hnamed, -, -, -, hat⟩ := (Spec.applies_iff hf).mp happ
  obtain ⟨hg, hn⟩ := and_e (Cond.before_iff.mp (show (Jvm.Cond.and given_1 narrow_1).before args s = true from hpre))
  obtain ⟨h1, g0⟩ := and_e hg
  obtain ⟨a0, g1⟩ := and_e g0
  obtain ⟨a1, g2⟩ := and_e g1
  have a2 := g2
  obtain ⟨w0, w1, w2, rfl⟩ : ∃ w0 w1 w2 : Value, args = #[w0, w1, w2] := by
    have hs : args.size = 3 := by simpa [Cond.value, given_1] using h1
    obtain ⟨L⟩ := args
    match L, hs with
    | [w0, w1, w2], _ => exact ⟨w0, w1, w2, rfl⟩
  have hw := fun d (hd : d ∈ tables_1) => atoms_spec (ws := Jvm.Cond.code x code maxLocals ret :: tables_1) hat d (List.mem_cons_of_mem _ hd)
  obtain ⟨hsets, hown0⟩ := atoms_of _ (rest_1_c_eq ▸ (show rest_1_c.before _ s = true from hrest))
  have hr0 := Cond.before_iff.mp hown0
  have hfit : Fit s := fun {y c} hc i hi => by
    obtain ⟨ha, rfl⟩ := Array.getElem?_eq_some_iff.mp hc
    have q := List.all_eq_true.mp ((Array.all_eq_true_iff_forall_mem.mp hF) _ (Array.getElem_mem ha)) i (List.mem_range.mpr hi)
    simpa [Array.getElem?_eq_getElem hi] using q
  obtain ⟨i0, e0⟩ := is_v a0
  obtain rfl : w0 = (.int i0) := Option.some.inj e0
  obtain ⟨i1, e1⟩ := is_v a1
  obtain rfl : w1 = (.int i1) := Option.some.inj e1
  obtain ⟨i2, e2⟩ := is_v a2
  obtain rfl : w2 = (.int i2) := Option.some.inj e2
  have n5 := not_v (Cond.before_iff.mp (hsets _ (List.mem_of_getElem? (i := 2) rfl)))
  obtain ⟨G1, eG⟩ := is_v (Cond.before_iff.mp (hsets _ (List.mem_of_getElem? (i := 1) rfl)))
  have O2 : Sta s s.heap "java/lang/String" "COMPACT_STRINGS" "Z" (.int G1) := Sta.start eG (Or.inl (hsets _ (List.mem_of_getElem? (i := 0) rfl)))
  have P5 : ¬ (G1 = (0 : Int32)) := gotF (Cond.eq_ints eG (Term.int_eval (0))) n5
  have hC0 : CHv s consts_1 s.vm s.heap := CHv.start (own_EW hw) hcalls.1 (hsets _ (List.mem_of_getElem? (i := 2) rfl)) (hw _ (List.mem_of_getElem? (i := 23) rfl)) (hw _ (List.mem_of_getElem? (i := 5) rfl))
  obtain ⟨fm, eF, rf⟩ := isR_v (Cond.before_iff.mp (hsets _ (List.mem_of_getElem? (i := 8) rfl)))
  have Sf : Sta s s.heap "jdk/internal/util/Preconditions" "SIOOBE_FORMATTER" "Ljava/util/function/BiFunction;" fm := Sta.start eF (Or.inl (hsets _ (List.mem_of_getElem? (i := 7) rfl)))
  obtain ⟨n, o, h1, h2, h3, _, L, rfl, ⟨rfl, N⟩, -, hq⟩ := rm0 l s _ hw tables_1 i0 i1 i2 G1 fm s.heap s.heap.size (Nat.le_refl _) O2 P5 (Old.start s) Sf rf p e ha hc hk s m _ below hf ((Spec.applies_iff_loose hf).mp happ).1 ⟨rfl, State.Warmed39.refl s, rfl, hC0, fun x hx => by cases hx⟩ trivial
  refine ⟨n, _, h1, h2, h3, hpost _ _ _ _ _ _ ⟨Cond.after_iff.mpr rfl, Cond.after_iff.mpr (eq_i res_at (Term.int_eval (1)) rfl), trivial⟩ ⟨hq.1, hq.2.1, hq.2.2.1, (hq.2.2.2.sift fun y hy => Or.inr (N y hy)).mono (by decide) (by decide)⟩⟩
theorem main_1_1 : Claimed_1_1 := comes_1 fun _ _ _ _ _ _ h hF => ⟨h.1, hF⟩
theorem main_1_2 : Claimed_1_2 := comes_1 fun _ _ _ _ _ _ h hF => ⟨h.2.1, hF⟩
end Jvm.Pilot.@@N@@
namespace Jvm.Pilot.@@N@@
open Jvm Jvm.ClassFile Sem Op Lib Jvm.Free Jvm.Stand Jvm.Pilot.@@N@@.Jvm.D
/-! MADE BY PROGRAM (witnessworld.py) out of the Statement's table words and the real class files: 27 classes; the members and pool entries that the words name. The judged class is class 1, her method 1. -/
namespace start1
open Jvm.ClassFile
def u (s : String) : CpInfo := .utf8 (stringToUtf16 s)
/-- a pool by its gaps: so many unusable entries, then the entry; so many at the end -/
def gap : Nat → List CpInfo → List CpInfo
  | 0, r => r
  | n + 1, r => .unusable :: gap n r
def poolList (es : List (Nat × CpInfo)) (last : Nat) : List CpInfo := es.foldr (fun e r => gap e.1 (e.2 :: r)) (gap last [])
def pool (es : List (Nat × CpInfo)) (last : Nat) : Array CpInfo := ⟨poolList es last⟩
def fileOf (pool : Array CpInfo) (this : Nat) (attrs : Array Attribute := #[]) (ms : Array MethodInfo := #[]) (fl : Nat := 33) (sup : Nat := 0) (ifs : Array Nat := #[]) (fds : Array FieldInfo := #[]) : ClassFile where
  minorVersion := 0
  majorVersion := 65
  constantPool := pool
  accessFlags := fl
  thisClass := this
  superClass := sup
  interfaces := ifs
  fields := fds
  methods := ms
  attributes := attrs
def plain (name : String) (sup : Option ClassId) : Class where
  name := name
  kind := .ordinary
  loader := none
  accessFlags := 33
  super := sup
  interfaces := #[]
  cf := none
  fields := #[]
  methods := #[]
  instanceTypes := #[]
  staticTypes := #[]
  resolved := #[]
  callSites := []
  init := .initialized
  statics := none
  mirror := none

def pool0 : Array CpInfo := pool [(5, u "<init>"), (0, u "()V"), (1, .class_ 10), (1, u "java/lang/Object"), (85, u "clone"), (0, u "()Ljava/lang/Object;")] 26

def k0c0 : Code := { maxStack := 0, maxLocals := 1, code := object_method_1_code, exceptionTable := #[], attributes := #[] }
def k0m0 : Method := { name := "<init>", desc := "()V", sig := { parameters := [], returnType := none }, accessFlags := 1, code := some k0c0 }
def k0m1 : Method := { name := "clone", desc := "()Ljava/lang/Object;", sig := { parameters := [], returnType := some (.object "java/lang/Object") }, accessFlags := 260, code := none }
/-- java/lang/Object -/
def k0 : Class := { plain "java/lang/Object" none with
  accessFlags := 33
  interfaces := #[]
  cf := some (fileOf pool0 8 #[] #[{ accessFlags := 1, nameIndex := 5, descriptorIndex := 6, attributes := #[] }, { accessFlags := 260, nameIndex := 96, descriptorIndex := 97, attributes := #[] }] 33 0 #[] #[])
  fields := #[]
  methods := #[k0m0, k0m1]
  instanceTypes := #[]
  staticTypes := #[]
  resolved := Array.replicate 124 none
  statics := none }

def pool1 : Array CpInfo := pool [(2, .class_ 4), (1, u "java/lang/Object"), (0, u "<init>"), (0, u "()V"), (0, .methodref 8 9), (0, .class_ 10), (0, .nameAndType 11 12), (0, u "implicitwiring/internal/SettingDescribedPinLaw"), (0, u "mk"), (0, u "(II)Ljava/lang/String;"), (0, .class_ 14), (0, u "implicitwiring/internal/SettingSources$Setting"), (0, .methodref 13 16), (0, .nameAndType 5 17), (0, u "(Ljava/lang/String;Ljava/lang/String;)V"), (0, .methodref 13 19), (0, .nameAndType 20 21), (0, u "described"), (0, u "()Ljava/lang/String;"), (0, .methodref 23 24), (0, .class_ 25), (0, .nameAndType 26 27), (0, u "java/lang/String"), (0, u "length"), (0, u "()I"), (0, .methodref 23 29), (0, .nameAndType 30 31), (0, u "charAt"), (0, u "(I)C"), (0, .methodref 8 33), (0, .nameAndType 34 35), (0, u "sameAt"), (0, u "(Ljava/lang/String;ILjava/lang/String;)Z"), (0, .string 37), (0, u "\", given by "), (0, .methodref 23 39), (0, .nameAndType 5 40), (0, u "([C)V"), (2, u "law"), (0, u "(III)Z")] 7

def k1m0 : Method := { name := "<init>", desc := "()V", sig := { parameters := [], returnType := none }, accessFlags := 1, code := none }
def k1c1 : Code := { maxStack := 4, maxLocals := 9, code := code, exceptionTable := #[], attributes := #[] }
def k1m1 : Method := { name := "law", desc := "(III)Z", sig := { parameters := [.int, .int, .int], returnType := some .boolean }, accessFlags := 9, code := some k1c1 }
def k1c2 : Code := { maxStack := 6, maxLocals := 5, code := method_3_code, exceptionTable := #[], attributes := #[] }
def k1m2 : Method := { name := "mk", desc := "(II)Ljava/lang/String;", sig := { parameters := [.int, .int], returnType := some (.object "java/lang/String") }, accessFlags := 10, code := some k1c2 }
def k1c3 : Code := { maxStack := 3, maxLocals := 4, code := method_4_code, exceptionTable := #[], attributes := #[] }
def k1m3 : Method := { name := "sameAt", desc := "(Ljava/lang/String;ILjava/lang/String;)Z", sig := { parameters := [(.object "java/lang/String"), .int, (.object "java/lang/String")], returnType := some .boolean }, accessFlags := 10, code := some k1c3 }
/-- implicitwiring/internal/SettingDescribedPinLaw -/
def k1 : Class := { plain "implicitwiring/internal/SettingDescribedPinLaw" (some 0) with
  accessFlags := 49
  interfaces := #[]
  cf := some (fileOf pool1 8 #[] #[{ accessFlags := 1, nameIndex := 5, descriptorIndex := 6, attributes := #[] }, { accessFlags := 9, nameIndex := 43, descriptorIndex := 44, attributes := #[] }, { accessFlags := 10, nameIndex := 11, descriptorIndex := 12, attributes := #[] }, { accessFlags := 10, nameIndex := 34, descriptorIndex := 35, attributes := #[] }] 49 2 #[] #[])
  fields := #[]
  methods := #[k1m0, k1m1, k1m2, k1m3]
  instanceTypes := #[]
  staticTypes := #[]
  resolved := Array.replicate 52 none
  statics := none }

def pool2 : Array CpInfo := pool [(1, .class_ 2), (0, u "java/io/Serializable"), (0, .class_ 4), (0, u "java/lang/Object")] 2

/-- java/io/Serializable -/
def k2 : Class := { plain "java/io/Serializable" (some 0) with
  accessFlags := 1537
  interfaces := #[]
  cf := some (fileOf pool2 1 #[] #[] 1537 3 #[] #[])
  fields := #[]
  methods := #[]
  instanceTypes := #[]
  staticTypes := #[]
  resolved := Array.replicate 7 none
  statics := none }

def pool3 : Array CpInfo := pool [(1, .class_ 2), (0, u "java/lang/Comparable"), (0, .class_ 4), (0, u "java/lang/Object")] 7

/-- java/lang/Comparable -/
def k3 : Class := { plain "java/lang/Comparable" (some 0) with
  accessFlags := 1537
  interfaces := #[]
  cf := some (fileOf pool3 1 #[] #[] 1537 3 #[] #[])
  fields := #[]
  methods := #[]
  instanceTypes := #[]
  staticTypes := #[]
  resolved := Array.replicate 12 none
  statics := none }

def pool4 : Array CpInfo := pool [(2, .class_ 4), (1, u "java/lang/CharSequence"), (42, .class_ 48), (0, u "java/lang/CharSequence$1CodePointIterator"), (10, .class_ 60), (0, u "java/lang/CharSequence$1CharIterator"), (5, .class_ 67), (0, u "java/lang/Object")] 63

/-- java/lang/CharSequence -/
def k4 : Class := { plain "java/lang/CharSequence" (some 0) with
  accessFlags := 1537
  interfaces := #[]
  cf := some (fileOf pool4 2 #[.nestMembers #[47, 59]] #[] 1537 66 #[] #[])
  fields := #[]
  methods := #[]
  instanceTypes := #[]
  staticTypes := #[]
  resolved := Array.replicate 131 none
  statics := none }

def pool5 : Array CpInfo := pool [(1, .class_ 2), (0, u "java/lang/constant/Constable"), (0, .class_ 4), (0, u "java/lang/Object")] 6

/-- java/lang/constant/Constable -/
def k5 : Class := { plain "java/lang/constant/Constable" (some 0) with
  accessFlags := 1537
  interfaces := #[]
  cf := some (fileOf pool5 1 #[] #[] 1537 3 #[] #[])
  fields := #[]
  methods := #[]
  instanceTypes := #[]
  staticTypes := #[]
  resolved := Array.replicate 11 none
  statics := none }

def pool6 : Array CpInfo := pool [(1, .class_ 2), (0, u "java/lang/constant/ConstantDesc"), (0, .class_ 4), (0, u "java/lang/Object")] 32

/-- java/lang/constant/ConstantDesc -/
def k6 : Class := { plain "java/lang/constant/ConstantDesc" (some 0) with
  accessFlags := 1537
  interfaces := #[]
  cf := some (fileOf pool6 1 #[] #[] 1537 3 #[] #[])
  fields := #[]
  methods := #[]
  instanceTypes := #[]
  staticTypes := #[]
  resolved := Array.replicate 37 none
  statics := none }

def pool7 : Array CpInfo := pool [(1, .methodref 2 3), (0, .class_ 4), (0, .nameAndType 5 6), (0, u "java/lang/Object"), (0, u "<init>"), (0, u "()V"), (0, .string 8), (0, u ""), (0, .fieldref 10 11), (0, .class_ 12), (0, .nameAndType 13 14), (0, u "java/lang/String"), (0, u "value"), (0, u "[B"), (0, .fieldref 10 16), (0, .nameAndType 17 18), (0, u "coder"), (0, u "B"), (2, u "hash"), (0, u "I"), (2, u "hashIsZero"), (0, u "Z"), (0, .methodref 10 28), (0, .nameAndType 5 29), (0, u "([CIILjava/lang/Void;)V"), (8, .fieldref 10 39), (0, .nameAndType 40 26), (0, u "COMPACT_STRINGS"), (1, .class_ 44), (1, u "java/lang/StringUTF16"), (0, u "compress"), (1, .methodref 42 48), (0, .nameAndType 49 50), (0, u "coderFromArrayLen"), (0, u "([BI)B"), (3, .methodref 55 56), (0, .class_ 57), (0, .nameAndType 58 59), (0, u "java/util/Arrays"), (0, u "copyOfRange"), (0, u "([BII)[B"), (47, .class_ 109), (1, u "java/lang/StringLatin1"), (32, u "()Z"), (34, .methodref 42 178), (0, .nameAndType 45 179), (0, u "([CII)[B"), (13, .class_ 195), (1, u "java/lang/System"), (16, .methodref 193 213), (0, .nameAndType 214 215), (0, u "arraycopy"), (0, u "(Ljava/lang/Object;ILjava/lang/Object;II)V"), (118, u "()I"), (0, .methodref 10 336), (0, .nameAndType 17 337), (0, u "()B"), (2, u "()[B"), (22, u "([BI)C"), (27, u "(II)V"), (35, u "(I)C"), (61, .methodref 10 490), (0, .nameAndType 5 491), (0, u "(Ljava/lang/AbstractStringBuilder;Ljava/lang/Void;)V"), (0, .methodref 10 493), (0, .nameAndType 494 142), (0, u "isLatin1"), (0, .methodref 107 496), (0, .nameAndType 497 363), (0, u "charAt"), (3, u "checkIndex"), (4, .nameAndType 507 334), (0, u "length"), (24, u "getBytes"), (16, .methodref 550 506), (0, .class_ 551), (0, u "java/lang/AbstractStringBuilder"), (0, .methodref 550 553), (0, .nameAndType 554 340), (0, u "getValue"), (20, .class_ 576), (0, u "java/lang/CharSequence"), (22, u "CASE_INSENSITIVE_ORDER"), (0, u "Ljava/util/Comparator;"), (220, u "([BIB)V"), (188, u "([C)V"), (36, .methodref 550 493), (5, .fieldref 1054 1055), (0, .class_ 1056), (0, .nameAndType 1057 1058), (0, u "jdk/internal/util/Preconditions"), (0, u "SIOOBE_FORMATTER"), (0, u "Ljava/util/function/BiFunction;"), (0, .methodref 1054 1060), (0, .nameAndType 501 1061), (0, u "(IILjava/util/function/BiFunction;)I"), (39, u "serialPersistentFields"), (0, u "[Ljava/io/ObjectStreamField;"), (0, .class_ 1104), (0, u "java/lang/String$CaseInsensitiveComparator"), (1, .class_ 1107), (0, u "java/io/Serializable"), (0, .class_ 1109), (0, u "java/lang/Comparable"), (0, .class_ 1111), (0, u "java/lang/constant/Constable"), (0, .class_ 1113), (0, u "java/lang/constant/ConstantDesc"), (2, u "serialVersionUID"), (0, u "J"), (3, u "REPL"), (0, u "C"), (2, u "LATIN1"), (1, u "UTF16"), (105, u "(Ljava/lang/StringBuilder;)V")] 217

def k7m0 : Method := { name := "<init>", desc := "()V", sig := { parameters := [], returnType := none }, accessFlags := 1, code := none }
def k7c1 : Code := { maxStack := 5, maxLocals := 2, code := jdk_42_method_3_code, exceptionTable := #[], attributes := #[] }
def k7m1 : Method := { name := "<init>", desc := "([C)V", sig := { parameters := [(.array .char)], returnType := none }, accessFlags := 1, code := some k7c1 }
def k7c2 : Code := { maxStack := 3, maxLocals := 2, code := jdk_42_method_53_code, exceptionTable := #[], attributes := #[] }
def k7m2 : Method := { name := "<init>", desc := "(Ljava/lang/StringBuilder;)V", sig := { parameters := [(.object "java/lang/StringBuilder")], returnType := none }, accessFlags := 1, code := some k7c2 }
def k7c3 : Code := { maxStack := 2, maxLocals := 1, code := jdk_42_method_54_code, exceptionTable := #[], attributes := #[] }
def k7m3 : Method := { name := "length", desc := "()I", sig := { parameters := [], returnType := some .int }, accessFlags := 1, code := some k7c3 }
def k7c4 : Code := { maxStack := 2, maxLocals := 2, code := jdk_42_method_56_code, exceptionTable := #[], attributes := #[] }
def k7m4 : Method := { name := "charAt", desc := "(I)C", sig := { parameters := [.int], returnType := some .char }, accessFlags := 1, code := some k7c4 }
def k7c5 : Code := { maxStack := 5, maxLocals := 4, code := jdk_42_method_147_code, exceptionTable := #[], attributes := #[] }
def k7m5 : Method := { name := "getBytes", desc := "([BIB)V", sig := { parameters := [(.array .byte), .int, .byte], returnType := none }, accessFlags := 0, code := some k7c5 }
def k7c6 : Code := { maxStack := 4, maxLocals := 6, code := jdk_42_method_149_code, exceptionTable := #[], attributes := #[] }
def k7m6 : Method := { name := "<init>", desc := "([CIILjava/lang/Void;)V", sig := { parameters := [(.array .char), .int, .int, (.object "java/lang/Void")], returnType := none }, accessFlags := 2, code := some k7c6 }
def k7c7 : Code := { maxStack := 5, maxLocals := 5, code := jdk_42_method_150_code, exceptionTable := #[], attributes := #[] }
def k7m7 : Method := { name := "<init>", desc := "(Ljava/lang/AbstractStringBuilder;Ljava/lang/Void;)V", sig := { parameters := [(.object "java/lang/AbstractStringBuilder"), (.object "java/lang/Void")], returnType := none }, accessFlags := 0, code := some k7c7 }
def k7c8 : Code := { maxStack := 1, maxLocals := 1, code := jdk_42_method_152_code, exceptionTable := #[], attributes := #[] }
def k7m8 : Method := { name := "coder", desc := "()B", sig := { parameters := [], returnType := some .byte }, accessFlags := 0, code := some k7c8 }
def k7c9 : Code := { maxStack := 1, maxLocals := 1, code := jdk_42_method_154_code, exceptionTable := #[], attributes := #[] }
def k7m9 : Method := { name := "isLatin1", desc := "()Z", sig := { parameters := [], returnType := some .boolean }, accessFlags := 0, code := some k7c9 }
def k7c10 : Code := { maxStack := 3, maxLocals := 2, code := jdk_42_method_155_code, exceptionTable := #[], attributes := #[] }
def k7m10 : Method := { name := "checkIndex", desc := "(II)V", sig := { parameters := [.int, .int], returnType := none }, accessFlags := 8, code := some k7c10 }
/-- java/lang/String -/
def k7 : Class := { plain "java/lang/String" (some 0) with
  accessFlags := 49
  interfaces := #[2, 3, 4, 5, 6]
  cf := some (fileOf pool7 10 #[.nestMembers #[1103]] #[{ accessFlags := 1, nameIndex := 5, descriptorIndex := 6, attributes := #[] }, { accessFlags := 1, nameIndex := 5, descriptorIndex := 1010, attributes := #[] }, { accessFlags := 1, nameIndex := 5, descriptorIndex := 1233, attributes := #[] }, { accessFlags := 1, nameIndex := 507, descriptorIndex := 334, attributes := #[] }, { accessFlags := 1, nameIndex := 497, descriptorIndex := 427, attributes := #[] }, { accessFlags := 0, nameIndex := 532, descriptorIndex := 821, attributes := #[] }, { accessFlags := 2, nameIndex := 5, descriptorIndex := 29, attributes := #[] }, { accessFlags := 0, nameIndex := 5, descriptorIndex := 491, attributes := #[] }, { accessFlags := 0, nameIndex := 17, descriptorIndex := 337, attributes := #[] }, { accessFlags := 0, nameIndex := 494, descriptorIndex := 142, attributes := #[] }, { accessFlags := 8, nameIndex := 501, descriptorIndex := 391, attributes := #[] }] 49 2 #[1106, 1108, 575, 1110, 1112] #[{ accessFlags := 18, nameIndex := 13, descriptorIndex := 14, attributes := #[] }, { accessFlags := 18, nameIndex := 17, descriptorIndex := 18, attributes := #[] }, { accessFlags := 2, nameIndex := 21, descriptorIndex := 22, attributes := #[] }, { accessFlags := 2, nameIndex := 25, descriptorIndex := 26, attributes := #[] }, { accessFlags := 26, nameIndex := 1116, descriptorIndex := 1117, attributes := #[] }, { accessFlags := 24, nameIndex := 40, descriptorIndex := 26, attributes := #[] }, { accessFlags := 26, nameIndex := 1101, descriptorIndex := 1102, attributes := #[] }, { accessFlags := 26, nameIndex := 1121, descriptorIndex := 1122, attributes := #[] }, { accessFlags := 25, nameIndex := 599, descriptorIndex := 600, attributes := #[] }, { accessFlags := 24, nameIndex := 1125, descriptorIndex := 18, attributes := #[] }, { accessFlags := 24, nameIndex := 1127, descriptorIndex := 18, attributes := #[] }])
  fields := #[{ name := "value", type := (.array .byte), accessFlags := 18, slot := 0, constantValue := 0 }, { name := "coder", type := .byte, accessFlags := 18, slot := 1, constantValue := 0 }, { name := "hash", type := .int, accessFlags := 2, slot := 2, constantValue := 0 }, { name := "hashIsZero", type := .boolean, accessFlags := 2, slot := 3, constantValue := 0 }, { name := "serialVersionUID", type := .long, accessFlags := 26, slot := 0, constantValue := 0 }, { name := "COMPACT_STRINGS", type := .boolean, accessFlags := 24, slot := 1, constantValue := 0 }, { name := "serialPersistentFields", type := (.array (.object "java/io/ObjectStreamField")), accessFlags := 26, slot := 2, constantValue := 0 }, { name := "REPL", type := .char, accessFlags := 26, slot := 3, constantValue := 0 }, { name := "CASE_INSENSITIVE_ORDER", type := (.object "java/util/Comparator"), accessFlags := 25, slot := 4, constantValue := 0 }, { name := "LATIN1", type := .byte, accessFlags := 24, slot := 5, constantValue := 0 }, { name := "UTF16", type := .byte, accessFlags := 24, slot := 6, constantValue := 0 }]
  methods := #[k7m0, k7m1, k7m2, k7m3, k7m4, k7m5, k7m6, k7m7, k7m8, k7m9, k7m10]
  instanceTypes := #[(.array .byte), .byte, .int, .boolean]
  staticTypes := #[.long, .boolean, (.array (.object "java/io/ObjectStreamField")), .char, (.object "java/util/Comparator"), .byte, .byte]
  resolved := Array.replicate 1451 none
  statics := some 0 }

def pool8 : Array CpInfo := pool [(6, .class_ 8), (1, u "java/lang/Object"), (0, u "<init>"), (0, u "()V"), (1, .class_ 14), (1, u "java/lang/StringUTF16"), (31, u "$assertionsDisabled"), (0, u "Z"), (13, u "HI_BYTE_SHIFT"), (0, u "I"), (2, u "LO_BYTE_SHIFT"), (49, .methodref 12 116), (0, .nameAndType 117 118), (0, u "compress"), (0, u "([CI[BII)I"), (3, u "([CII)[B"), (138, u "coderFromArrayLen"), (0, u "([BI)B"), (106, .class_ 371), (1, u "java/lang/StringUTF16$LinesSpliterator"), (58, u "MAX_LENGTH"), (196, .class_ 628), (0, u "java/lang/StringUTF16$CodePointsSpliterator"), (0, .class_ 630), (0, u "java/lang/StringUTF16$CharsSpliterator")] 4

def k8m0 : Method := { name := "<init>", desc := "()V", sig := { parameters := [], returnType := none }, accessFlags := 0, code := none }
def k8c1 : Code := { maxStack := 2, maxLocals := 2, code := jdk_52_method_15_code, exceptionTable := #[], attributes := #[] }
def k8m1 : Method := { name := "coderFromArrayLen", desc := "([BI)B", sig := { parameters := [(.array .byte), .int], returnType := some .byte }, accessFlags := 8, code := some k8c1 }
def k8c2 : Code := { maxStack := 5, maxLocals := 6, code := jdk_52_method_16_code, exceptionTable := #[], attributes := #[] }
def k8m2 : Method := { name := "compress", desc := "([CII)[B", sig := { parameters := [(.array .char), .int, .int], returnType := some (.array .byte) }, accessFlags := 9, code := some k8c2 }
def k8c3 : Code := { maxStack := 3, maxLocals := 7, code := jdk_52_method_21_code, exceptionTable := #[], attributes := #[] }
def k8m3 : Method := { name := "compress", desc := "([CI[BII)I", sig := { parameters := [(.array .char), .int, (.array .byte), .int, .int], returnType := some .int }, accessFlags := 9, code := some k8c3 }
/-- java/lang/StringUTF16 -/
def k8 : Class := { plain "java/lang/StringUTF16" (some 0) with
  accessFlags := 48
  interfaces := #[]
  cf := some (fileOf pool8 12 #[.nestMembers #[627, 629, 369]] #[{ accessFlags := 0, nameIndex := 9, descriptorIndex := 10, attributes := #[] }, { accessFlags := 8, nameIndex := 261, descriptorIndex := 262, attributes := #[] }, { accessFlags := 9, nameIndex := 117, descriptorIndex := 122, attributes := #[] }, { accessFlags := 9, nameIndex := 117, descriptorIndex := 118, attributes := #[] }] 48 6 #[] #[{ accessFlags := 26, nameIndex := 61, descriptorIndex := 62, attributes := #[] }, { accessFlags := 26, nameIndex := 65, descriptorIndex := 62, attributes := #[] }, { accessFlags := 24, nameIndex := 430, descriptorIndex := 62, attributes := #[] }, { accessFlags := 4120, nameIndex := 46, descriptorIndex := 47, attributes := #[] }])
  fields := #[{ name := "HI_BYTE_SHIFT", type := .int, accessFlags := 26, slot := 0, constantValue := 0 }, { name := "LO_BYTE_SHIFT", type := .int, accessFlags := 26, slot := 1, constantValue := 0 }, { name := "MAX_LENGTH", type := .int, accessFlags := 24, slot := 2, constantValue := 0 }, { name := "$assertionsDisabled", type := .boolean, accessFlags := 4120, slot := 3, constantValue := 0 }]
  methods := #[k8m0, k8m1, k8m2, k8m3]
  instanceTypes := #[]
  staticTypes := #[.int, .int, .int, .boolean]
  resolved := Array.replicate 635 none
  statics := none }

def pool9 : Array CpInfo := pool [(1, .methodref 2 3), (0, .class_ 4), (0, .nameAndType 5 6), (0, u "java/lang/Object"), (0, u "<init>"), (0, u "()V"), (0, .class_ 8), (0, u "java/lang/Record")] 13

def k9c0 : Code := { maxStack := 1, maxLocals := 1, code := jdk_30_method_1_code, exceptionTable := #[], attributes := #[] }
def k9m0 : Method := { name := "<init>", desc := "()V", sig := { parameters := [], returnType := none }, accessFlags := 4, code := some k9c0 }
/-- java/lang/Record -/
def k9 : Class := { plain "java/lang/Record" (some 0) with
  accessFlags := 1057
  interfaces := #[]
  cf := some (fileOf pool9 7 #[] #[{ accessFlags := 4, nameIndex := 5, descriptorIndex := 6, attributes := #[] }] 1057 2 #[] #[])
  fields := #[]
  methods := #[k9m0]
  instanceTypes := #[]
  staticTypes := #[]
  resolved := Array.replicate 22 none
  statics := none }

def pool10 : Array CpInfo := pool [(1, .methodref 2 3), (0, .class_ 4), (0, .nameAndType 5 6), (0, u "java/lang/Record"), (0, u "<init>"), (0, u "()V"), (0, .fieldref 8 9), (0, .class_ 10), (0, .nameAndType 11 12), (0, u "implicitwiring/internal/SettingSources$Setting"), (0, u "value"), (0, u "Ljava/lang/String;"), (0, .fieldref 8 14), (0, .nameAndType 15 12), (0, u "origin"), (0, .class_ 17), (0, u "java/lang/StringBuilder"), (0, .methodref 16 3), (0, .string 20), (0, u "\""), (0, .methodref 16 22), (0, .nameAndType 23 24), (0, u "append"), (0, u "(Ljava/lang/String;)Ljava/lang/StringBuilder;"), (0, .string 26), (0, u "\", given by "), (0, .methodref 16 28), (0, .nameAndType 29 30), (0, u "toString"), (0, u "()Ljava/lang/String;"), (11, u "(Ljava/lang/String;Ljava/lang/String;)V"), (3, u "described"), (5, .class_ 53), (0, u "implicitwiring/internal/SettingSources")] 20

def k10c0 : Code := { maxStack := 2, maxLocals := 3, code := prog_31_method_1_code, exceptionTable := #[], attributes := #[] }
def k10m0 : Method := { name := "<init>", desc := "(Ljava/lang/String;Ljava/lang/String;)V", sig := { parameters := [(.object "java/lang/String"), (.object "java/lang/String")], returnType := none }, accessFlags := 0, code := some k10c0 }
def k10c1 : Code := { maxStack := 2, maxLocals := 1, code := prog_31_method_2_code, exceptionTable := #[], attributes := #[] }
def k10m1 : Method := { name := "described", desc := "()Ljava/lang/String;", sig := { parameters := [], returnType := some (.object "java/lang/String") }, accessFlags := 0, code := some k10c1 }
/-- implicitwiring/internal/SettingSources$Setting -/
def k10 : Class := { plain "implicitwiring/internal/SettingSources$Setting" (some 9) with
  accessFlags := 48
  interfaces := #[]
  cf := some (fileOf pool10 8 #[.nestHost 52] #[{ accessFlags := 0, nameIndex := 5, descriptorIndex := 42, attributes := #[] }, { accessFlags := 0, nameIndex := 46, descriptorIndex := 30, attributes := #[] }] 48 2 #[] #[{ accessFlags := 18, nameIndex := 11, descriptorIndex := 12, attributes := #[] }, { accessFlags := 18, nameIndex := 15, descriptorIndex := 12, attributes := #[] }])
  fields := #[{ name := "value", type := (.object "java/lang/String"), accessFlags := 18, slot := 0, constantValue := 0 }, { name := "origin", type := (.object "java/lang/String"), accessFlags := 18, slot := 1, constantValue := 0 }]
  methods := #[k10m0, k10m1]
  instanceTypes := #[(.object "java/lang/String"), (.object "java/lang/String")]
  staticTypes := #[]
  resolved := Array.replicate 74 none
  statics := none }

def pool11 : Array CpInfo := pool [(1, .class_ 2), (0, u "java/lang/Appendable"), (0, .class_ 4), (0, u "java/lang/Object")] 9

/-- java/lang/Appendable -/
def k11 : Class := { plain "java/lang/Appendable" (some 0) with
  accessFlags := 1537
  interfaces := #[]
  cf := some (fileOf pool11 1 #[] #[] 1537 3 #[] #[])
  fields := #[]
  methods := #[]
  instanceTypes := #[]
  staticTypes := #[]
  resolved := Array.replicate 14 none
  statics := none }

def pool12 : Array CpInfo := pool [(1, .class_ 2), (0, u "java/lang/String"), (0, .methodref 4 5), (0, .class_ 6), (0, .nameAndType 7 8), (0, u "java/lang/Object"), (0, u "<init>"), (0, u "()V"), (1, .class_ 12), (1, u "java/lang/AbstractStringBuilder"), (0, u "EMPTYVALUE"), (0, u "[B"), (0, .fieldref 10 16), (0, .nameAndType 17 14), (0, u "value"), (0, .fieldref 1 19), (0, .nameAndType 20 21), (0, u "COMPACT_STRINGS"), (0, u "Z"), (0, .fieldref 10 23), (0, .nameAndType 24 25), (0, u "coder"), (0, u "B"), (6, .methodref 1 33), (0, .nameAndType 34 35), (0, u "length"), (0, u "()I"), (3, .integer 2147483647), (0, .methodref 1 41), (0, .nameAndType 24 42), (0, u "()B"), (2, u "append"), (0, u "(Ljava/lang/String;)Ljava/lang/AbstractStringBuilder;"), (1, .class_ 49), (0, u "java/lang/CharSequence"), (19, u "(Ljava/lang/String;)V"), (5, u "maybeLatin1"), (3, .fieldref 10 80), (0, .nameAndType 81 82), (0, u "count"), (0, u "I"), (2, u "isLatin1"), (0, u "()Z"), (13, .methodref 10 101), (0, .nameAndType 102 103), (0, u "ensureCapacityInternal"), (0, u "(I)V"), (0, .methodref 10 105), (0, .nameAndType 106 107), (0, u "newCapacity"), (0, u "(I)I"), (0, .methodref 109 110), (0, .class_ 111), (0, .nameAndType 112 113), (0, u "java/util/Arrays"), (0, u "copyOf"), (0, u "([BI)[B"), (0, .methodref 115 116), (0, .class_ 117), (0, .nameAndType 118 119), (0, u "jdk/internal/util/ArraysSupport"), (0, u "newLength"), (0, u "(III)I"), (88, .methodref 10 209), (0, .nameAndType 210 211), (0, u "putStringAt"), (0, u "(ILjava/lang/String;)V"), (5, u "inflateIfNeededFor"), (2, .nameAndType 221 222), (0, u "getBytes"), (0, u "([BIB)V"), (174, .methodref 10 398), (0, .nameAndType 217 69), (0, .methodref 1 220), (3, u "()[B"), (40, .class_ 445), (0, u "java/lang/Appendable"), (106, u "getValue")] 56

def k12m0 : Method := { name := "<init>", desc := "()V", sig := { parameters := [], returnType := none }, accessFlags := 0, code := none }
def k12c1 : Code := { maxStack := 2, maxLocals := 2, code := jdk_68_method_2_code, exceptionTable := #[], attributes := #[] }
def k12m1 : Method := { name := "<init>", desc := "(I)V", sig := { parameters := [.int], returnType := none }, accessFlags := 0, code := some k12c1 }
def k12c2 : Code := { maxStack := 1, maxLocals := 1, code := jdk_68_method_6_code, exceptionTable := #[], attributes := #[] }
def k12m2 : Method := { name := "length", desc := "()I", sig := { parameters := [], returnType := some .int }, accessFlags := 1, code := some k12c2 }
def k12c3 : Code := { maxStack := 4, maxLocals := 3, code := jdk_68_method_9_code, exceptionTable := #[], attributes := #[] }
def k12m3 : Method := { name := "ensureCapacityInternal", desc := "(I)V", sig := { parameters := [.int], returnType := none }, accessFlags := 2, code := some k12c3 }
def k12c4 : Code := { maxStack := 5, maxLocals := 6, code := jdk_68_method_10_code, exceptionTable := #[], attributes := #[] }
def k12m4 : Method := { name := "newCapacity", desc := "(I)I", sig := { parameters := [.int], returnType := some .int }, accessFlags := 2, code := some k12c4 }
def k12c5 : Code := { maxStack := 3, maxLocals := 3, code := jdk_68_method_22_code, exceptionTable := #[], attributes := #[] }
def k12m5 : Method := { name := "append", desc := "(Ljava/lang/String;)Ljava/lang/AbstractStringBuilder;", sig := { parameters := [(.object "java/lang/String")], returnType := some (.object "java/lang/AbstractStringBuilder") }, accessFlags := 1, code := some k12c5 }
def k12c6 : Code := { maxStack := 1, maxLocals := 1, code := jdk_68_method_64_code, exceptionTable := #[], attributes := #[] }
def k12m6 : Method := { name := "getValue", desc := "()[B", sig := { parameters := [], returnType := some (.array .byte) }, accessFlags := 16, code := some k12c6 }
def k12c7 : Code := { maxStack := 1, maxLocals := 1, code := jdk_68_method_68_code, exceptionTable := #[], attributes := #[] }
def k12m7 : Method := { name := "isLatin1", desc := "()Z", sig := { parameters := [], returnType := some .boolean }, accessFlags := 16, code := some k12c7 }
def k12c8 : Code := { maxStack := 2, maxLocals := 2, code := jdk_68_method_71_code, exceptionTable := #[], attributes := #[] }
def k12m8 : Method := { name := "inflateIfNeededFor", desc := "(Ljava/lang/String;)V", sig := { parameters := [(.object "java/lang/String")], returnType := none }, accessFlags := 2, code := some k12c8 }
def k12c9 : Code := { maxStack := 4, maxLocals := 3, code := jdk_68_method_73_code, exceptionTable := #[], attributes := #[] }
def k12m9 : Method := { name := "putStringAt", desc := "(ILjava/lang/String;)V", sig := { parameters := [.int, (.object "java/lang/String")], returnType := none }, accessFlags := 2, code := some k12c9 }
/-- java/lang/AbstractStringBuilder -/
def k12 : Class := { plain "java/lang/AbstractStringBuilder" (some 0) with
  accessFlags := 1056
  interfaces := #[11, 4]
  cf := some (fileOf pool12 10 #[] #[{ accessFlags := 0, nameIndex := 7, descriptorIndex := 8, attributes := #[] }, { accessFlags := 0, nameIndex := 7, descriptorIndex := 103, attributes := #[] }, { accessFlags := 1, nameIndex := 34, descriptorIndex := 35, attributes := #[] }, { accessFlags := 2, nameIndex := 102, descriptorIndex := 103, attributes := #[] }, { accessFlags := 2, nameIndex := 106, descriptorIndex := 107, attributes := #[] }, { accessFlags := 1, nameIndex := 45, descriptorIndex := 46, attributes := #[] }, { accessFlags := 16, nameIndex := 552, descriptorIndex := 403, attributes := #[] }, { accessFlags := 16, nameIndex := 85, descriptorIndex := 86, attributes := #[] }, { accessFlags := 2, nameIndex := 217, descriptorIndex := 69, attributes := #[] }, { accessFlags := 2, nameIndex := 210, descriptorIndex := 211, attributes := #[] }] 1056 4 #[444, 48] #[{ accessFlags := 0, nameIndex := 17, descriptorIndex := 14, attributes := #[] }, { accessFlags := 0, nameIndex := 24, descriptorIndex := 25, attributes := #[] }, { accessFlags := 0, nameIndex := 75, descriptorIndex := 21, attributes := #[] }, { accessFlags := 0, nameIndex := 81, descriptorIndex := 82, attributes := #[] }, { accessFlags := 26, nameIndex := 13, descriptorIndex := 14, attributes := #[] }])
  fields := #[{ name := "value", type := (.array .byte), accessFlags := 0, slot := 0, constantValue := 0 }, { name := "coder", type := .byte, accessFlags := 0, slot := 1, constantValue := 0 }, { name := "maybeLatin1", type := .boolean, accessFlags := 0, slot := 2, constantValue := 0 }, { name := "count", type := .int, accessFlags := 0, slot := 3, constantValue := 0 }, { name := "EMPTYVALUE", type := (.array .byte), accessFlags := 26, slot := 0, constantValue := 0 }]
  methods := #[k12m0, k12m1, k12m2, k12m3, k12m4, k12m5, k12m6, k12m7, k12m8, k12m9]
  instanceTypes := #[(.array .byte), .byte, .boolean, .int]
  staticTypes := #[(.array .byte)]
  resolved := Array.replicate 609 none
  statics := none }

def pool13 : Array CpInfo := pool [(1, .methodref 2 3), (0, .class_ 4), (0, .nameAndType 5 6), (0, u "java/lang/AbstractStringBuilder"), (0, u "<init>"), (0, u "(I)V"), (11, .class_ 20), (1, u "java/lang/String"), (3, .class_ 26), (1, u "java/lang/StringBuilder"), (0, u "append"), (0, u "(Ljava/lang/String;)Ljava/lang/StringBuilder;"), (0, .methodref 2 30), (0, .nameAndType 27 31), (0, u "(Ljava/lang/String;)Ljava/lang/AbstractStringBuilder;"), (105, .methodref 18 138), (0, .nameAndType 5 139), (0, u "(Ljava/lang/StringBuilder;)V"), (5, u "()V"), (10, u "()I"), (186, .methodref 2 344), (0, .nameAndType 345 156), (0, u "length"), (3, .class_ 350), (0, u "java/lang/Appendable"), (0, .class_ 352), (0, u "java/io/Serializable"), (0, .class_ 354), (0, u "java/lang/Comparable"), (0, .class_ 356), (0, u "java/lang/CharSequence"), (0, u "serialVersionUID"), (0, u "J"), (40, u "toString"), (0, u "()Ljava/lang/String;")] 21

def k13c0 : Code := { maxStack := 2, maxLocals := 1, code := jdk_67_method_1_code, exceptionTable := #[], attributes := #[] }
def k13m0 : Method := { name := "<init>", desc := "()V", sig := { parameters := [], returnType := none }, accessFlags := 1, code := some k13c0 }
def k13c1 : Code := { maxStack := 2, maxLocals := 2, code := jdk_67_method_7_code, exceptionTable := #[], attributes := #[] }
def k13m1 : Method := { name := "append", desc := "(Ljava/lang/String;)Ljava/lang/StringBuilder;", sig := { parameters := [(.object "java/lang/String")], returnType := some (.object "java/lang/StringBuilder") }, accessFlags := 1, code := some k13c1 }
def k13c2 : Code := { maxStack := 3, maxLocals := 1, code := jdk_67_method_42_code, exceptionTable := #[], attributes := #[] }
def k13m2 : Method := { name := "toString", desc := "()Ljava/lang/String;", sig := { parameters := [], returnType := some (.object "java/lang/String") }, accessFlags := 1, code := some k13c2 }
def k13c3 : Code := { maxStack := 1, maxLocals := 1, code := jdk_67_method_93_code, exceptionTable := #[], attributes := #[] }
def k13m3 : Method := { name := "length", desc := "()I", sig := { parameters := [], returnType := some .int }, accessFlags := 4161, code := some k13c3 }
/-- java/lang/StringBuilder -/
def k13 : Class := { plain "java/lang/StringBuilder" (some 12) with
  accessFlags := 49
  interfaces := #[11, 2, 3, 4]
  cf := some (fileOf pool13 24 #[] #[{ accessFlags := 1, nameIndex := 5, descriptorIndex := 145, attributes := #[] }, { accessFlags := 1, nameIndex := 27, descriptorIndex := 28, attributes := #[] }, { accessFlags := 1, nameIndex := 399, descriptorIndex := 400, attributes := #[] }, { accessFlags := 4161, nameIndex := 345, descriptorIndex := 156, attributes := #[] }] 49 2 #[349, 351, 353, 355] #[{ accessFlags := 24, nameIndex := 357, descriptorIndex := 358, attributes := #[] }])
  fields := #[{ name := "serialVersionUID", type := .long, accessFlags := 24, slot := 0, constantValue := 0 }]
  methods := #[k13m0, k13m1, k13m2, k13m3]
  instanceTypes := #[(.array .byte), .byte, .boolean, .int]
  staticTypes := #[.long]
  resolved := Array.replicate 422 none
  statics := none }

def pool14 : Array CpInfo := pool [(2, .class_ 4), (1, u "java/lang/Object"), (0, u "<init>"), (0, u "()V"), (1, .class_ 10), (1, u "java/lang/System"), (0, u "allowSecurityManager"), (0, u "I"), (16, u "cons"), (0, u "Ljava/io/Console;"), (77, .class_ 110), (1, u "java/lang/System$CallersHolder"), (43, u "initialErrStream"), (0, u "Ljava/io/PrintStream;"), (19, u "security"), (0, u "Ljava/lang/SecurityManager;"), (31, .class_ 209), (0, u "java/lang/System$1"), (7, u "props"), (0, u "Ljava/util/Properties;"), (2, u "lineSeparator"), (0, u "Ljava/lang/String;"), (96, .class_ 321), (1, u "java/lang/System$LoggerFinder"), (5, .class_ 328), (0, u "java/lang/System$Logger"), (67, u "err"), (2, u "out"), (91, u "notSupportedJnuEncoding"), (15, u "in"), (17, u "initialIn"), (0, u "Ljava/io/InputStream;"), (35, u "bootLayer"), (0, u "Ljava/lang/ModuleLayer;"), (99, .class_ 664), (0, u "java/lang/System$2"), (9, u "NEVER"), (2, u "MAYBE"), (49, u "arraycopy"), (0, u "(Ljava/lang/Object;ILjava/lang/Object;II)V"), (72, .class_ 802), (0, u "java/lang/System$Logger$Level")] 31

def k14m0 : Method := { name := "<init>", desc := "()V", sig := { parameters := [], returnType := none }, accessFlags := 2, code := none }
def k14m1 : Method := { name := "arraycopy", desc := "(Ljava/lang/Object;ILjava/lang/Object;II)V", sig := { parameters := [(.object "java/lang/Object"), .int, (.object "java/lang/Object"), .int, .int], returnType := none }, accessFlags := 265, code := none }
/-- java/lang/System -/
def k14 : Class := { plain "java/lang/System" (some 0) with
  accessFlags := 49
  interfaces := #[]
  cf := some (fileOf pool14 8 #[.nestMembers #[319, 327, 801, 108, 663, 208]] #[{ accessFlags := 2, nameIndex := 5, descriptorIndex := 6, attributes := #[] }, { accessFlags := 265, nameIndex := 727, descriptorIndex := 728, attributes := #[] }] 49 2 #[] #[{ accessFlags := 25, nameIndex := 507, descriptorIndex := 526, attributes := #[] }, { accessFlags := 25, nameIndex := 399, descriptorIndex := 155, attributes := #[] }, { accessFlags := 25, nameIndex := 396, descriptorIndex := 155, attributes := #[] }, { accessFlags := 10, nameIndex := 525, descriptorIndex := 526, attributes := #[] }, { accessFlags := 26, nameIndex := 674, descriptorIndex := 12, attributes := #[] }, { accessFlags := 26, nameIndex := 677, descriptorIndex := 12, attributes := #[] }, { accessFlags := 10, nameIndex := 11, descriptorIndex := 12, attributes := #[] }, { accessFlags := 74, nameIndex := 175, descriptorIndex := 176, attributes := #[] }, { accessFlags := 10, nameIndex := 491, descriptorIndex := 222, attributes := #[] }, { accessFlags := 74, nameIndex := 29, descriptorIndex := 30, attributes := #[] }, { accessFlags := 74, nameIndex := 154, descriptorIndex := 155, attributes := #[] }, { accessFlags := 10, nameIndex := 217, descriptorIndex := 218, attributes := #[] }, { accessFlags := 10, nameIndex := 221, descriptorIndex := 222, attributes := #[] }, { accessFlags := 8, nameIndex := 562, descriptorIndex := 563, attributes := #[] }])
  fields := #[{ name := "in", type := (.object "java/io/InputStream"), accessFlags := 25, slot := 0, constantValue := 0 }, { name := "out", type := (.object "java/io/PrintStream"), accessFlags := 25, slot := 1, constantValue := 0 }, { name := "err", type := (.object "java/io/PrintStream"), accessFlags := 25, slot := 2, constantValue := 0 }, { name := "initialIn", type := (.object "java/io/InputStream"), accessFlags := 10, slot := 3, constantValue := 0 }, { name := "NEVER", type := .int, accessFlags := 26, slot := 4, constantValue := 0 }, { name := "MAYBE", type := .int, accessFlags := 26, slot := 5, constantValue := 0 }, { name := "allowSecurityManager", type := .int, accessFlags := 10, slot := 6, constantValue := 0 }, { name := "security", type := (.object "java/lang/SecurityManager"), accessFlags := 74, slot := 7, constantValue := 0 }, { name := "notSupportedJnuEncoding", type := (.object "java/lang/String"), accessFlags := 10, slot := 8, constantValue := 0 }, { name := "cons", type := (.object "java/io/Console"), accessFlags := 74, slot := 9, constantValue := 0 }, { name := "initialErrStream", type := (.object "java/io/PrintStream"), accessFlags := 74, slot := 10, constantValue := 0 }, { name := "props", type := (.object "java/util/Properties"), accessFlags := 10, slot := 11, constantValue := 0 }, { name := "lineSeparator", type := (.object "java/lang/String"), accessFlags := 10, slot := 12, constantValue := 0 }, { name := "bootLayer", type := (.object "java/lang/ModuleLayer"), accessFlags := 8, slot := 13, constantValue := 0 }]
  methods := #[k14m0, k14m1]
  instanceTypes := #[]
  staticTypes := #[(.object "java/io/InputStream"), (.object "java/io/PrintStream"), (.object "java/io/PrintStream"), (.object "java/io/InputStream"), .int, .int, .int, (.object "java/lang/SecurityManager"), (.object "java/lang/String"), (.object "java/io/Console"), (.object "java/io/PrintStream"), (.object "java/util/Properties"), (.object "java/lang/String"), (.object "java/lang/ModuleLayer")]
  resolved := Array.replicate 834 none
  statics := none }

def pool15 : Array CpInfo := pool [(2, .class_ 4), (1, u "java/lang/Object"), (0, u "<init>"), (0, u "()V"), (7, .class_ 16), (1, u "java/util/Arrays"), (57, .class_ 76), (1, u "java/util/Arrays$NaturalOrder"), (32, u "()Ljava/lang/Object;"), (3, .class_ 115), (1, u "java/util/Arrays$LegacyMergeSort"), (1, u "Z"), (10, .nameAndType 129 109), (0, u "clone"), (9, u "copyOfRange"), (10, .methodref 151 152), (0, .class_ 153), (0, .nameAndType 154 155), (0, u "java/lang/System"), (0, u "arraycopy"), (0, u "(Ljava/lang/Object;ILjava/lang/Object;II)V"), (146, u "copyOf"), (1, .methodref 305 306), (0, .class_ 307), (0, .nameAndType 308 309), (0, u "java/lang/Math"), (0, u "min"), (0, u "(II)I"), (0, .methodref 311 128), (0, .class_ 312), (0, u "[B"), (26, .methodref 14 340), (0, .nameAndType 341 342), (0, u "copyOfRangeByte"), (0, u "([BII)[B"), (0, .methodref 14 344), (0, .nameAndType 345 346), (0, u "checkLength"), (0, u "(II)V"), (28, .class_ 376), (0, u "java/util/Arrays$ArrayList"), (68, u "$assertionsDisabled"), (269, u "MIN_ARRAY_SORT_GRAN"), (0, u "I"), (2, u "INSERTIONSORT_THRESHOLD"), (149, u "([BI)[B"), (105, .class_ 976), (0, u "java/util/Arrays$ArrayItr")] 52

def k15m0 : Method := { name := "<init>", desc := "()V", sig := { parameters := [], returnType := none }, accessFlags := 2, code := none }
def k15c1 : Code := { maxStack := 6, maxLocals := 3, code := jdk_65_method_121_code, exceptionTable := #[], attributes := #[] }
def k15m1 : Method := { name := "copyOf", desc := "([BI)[B", sig := { parameters := [(.array .byte), .int], returnType := some (.array .byte) }, accessFlags := 9, code := some k15c1 }
def k15c2 : Code := { maxStack := 4, maxLocals := 2, code := jdk_65_method_131_code, exceptionTable := #[], attributes := #[] }
def k15m2 : Method := { name := "checkLength", desc := "(II)V", sig := { parameters := [.int, .int], returnType := none }, accessFlags := 10, code := some k15c2 }
def k15c3 : Code := { maxStack := 3, maxLocals := 3, code := jdk_65_method_132_code, exceptionTable := #[], attributes := #[] }
def k15m3 : Method := { name := "copyOfRange", desc := "([BII)[B", sig := { parameters := [(.array .byte), .int, .int], returnType := some (.array .byte) }, accessFlags := 9, code := some k15c3 }
def k15c4 : Code := { maxStack := 6, maxLocals := 5, code := jdk_65_method_133_code, exceptionTable := #[], attributes := #[] }
def k15m4 : Method := { name := "copyOfRangeByte", desc := "([BII)[B", sig := { parameters := [(.array .byte), .int, .int], returnType := some (.array .byte) }, accessFlags := 10, code := some k15c4 }
/-- java/util/Arrays -/
def k15 : Class := { plain "java/util/Arrays" (some 0) with
  accessFlags := 49
  interfaces := #[]
  cf := some (fileOf pool15 14 #[.nestMembers #[975, 375, 113, 74]] #[{ accessFlags := 2, nameIndex := 5, descriptorIndex := 6, attributes := #[] }, { accessFlags := 9, nameIndex := 302, descriptorIndex := 869, attributes := #[] }, { accessFlags := 10, nameIndex := 345, descriptorIndex := 346, attributes := #[] }, { accessFlags := 9, nameIndex := 139, descriptorIndex := 342, attributes := #[] }, { accessFlags := 10, nameIndex := 341, descriptorIndex := 342, attributes := #[] }] 49 2 #[] #[{ accessFlags := 26, nameIndex := 715, descriptorIndex := 716, attributes := #[] }, { accessFlags := 26, nameIndex := 719, descriptorIndex := 716, attributes := #[] }, { accessFlags := 4120, nameIndex := 445, descriptorIndex := 117, attributes := #[] }])
  fields := #[{ name := "MIN_ARRAY_SORT_GRAN", type := .int, accessFlags := 26, slot := 0, constantValue := 0 }, { name := "INSERTIONSORT_THRESHOLD", type := .int, accessFlags := 26, slot := 1, constantValue := 0 }, { name := "$assertionsDisabled", type := .boolean, accessFlags := 4120, slot := 2, constantValue := 0 }]
  methods := #[k15m0, k15m1, k15m2, k15m3, k15m4]
  instanceTypes := #[]
  staticTypes := #[.int, .int, .boolean]
  resolved := Array.replicate 1029 none
  statics := none }

def pool16 : Array CpInfo := pool [(1, .class_ 2), (0, u "java/lang/Math"), (1, .class_ 6), (1, u "java/lang/Object"), (0, u "<init>"), (0, u "()V"), (89, .class_ 100), (1, u "java/lang/Math$RandomNumberGeneratorHolder"), (71, u "negativeZeroFloatBits"), (0, u "J"), (2, u "negativeZeroDoubleBits"), (21, u "max"), (2, u "min"), (43, u "$assertionsDisabled"), (0, u "Z"), (88, u "(II)I"), (2, u "twoToTheDoubleScaleDown"), (0, u "D"), (4, u "twoToTheDoubleScaleUp"), (9, u "E"), (3, u "PI"), (2, u "TAU"), (2, u "DEGREES_TO_RADIANS"), (0, u "RADIANS_TO_DEGREES")] 94

def k16m0 : Method := { name := "<init>", desc := "()V", sig := { parameters := [], returnType := none }, accessFlags := 2, code := none }
def k16c1 : Code := { maxStack := 2, maxLocals := 2, code := jdk_29_method_65_code, exceptionTable := #[], attributes := #[] }
def k16m1 : Method := { name := "max", desc := "(II)I", sig := { parameters := [.int, .int], returnType := some .int }, accessFlags := 9, code := some k16c1 }
def k16c2 : Code := { maxStack := 2, maxLocals := 2, code := jdk_29_method_69_code, exceptionTable := #[], attributes := #[] }
def k16m2 : Method := { name := "min", desc := "(II)I", sig := { parameters := [.int, .int], returnType := some .int }, accessFlags := 9, code := some k16c2 }
/-- java/lang/Math -/
def k16 : Class := { plain "java/lang/Math" (some 0) with
  accessFlags := 49
  interfaces := #[]
  cf := some (fileOf pool16 1 #[.nestMembers #[98]] #[{ accessFlags := 2, nameIndex := 7, descriptorIndex := 8, attributes := #[] }, { accessFlags := 9, nameIndex := 198, descriptorIndex := 335, attributes := #[] }, { accessFlags := 9, nameIndex := 201, descriptorIndex := 335, attributes := #[] }] 49 4 #[] #[{ accessFlags := 25, nameIndex := 354, descriptorIndex := 339, attributes := #[] }, { accessFlags := 25, nameIndex := 358, descriptorIndex := 339, attributes := #[] }, { accessFlags := 25, nameIndex := 361, descriptorIndex := 339, attributes := #[] }, { accessFlags := 26, nameIndex := 364, descriptorIndex := 339, attributes := #[] }, { accessFlags := 26, nameIndex := 365, descriptorIndex := 339, attributes := #[] }, { accessFlags := 26, nameIndex := 172, descriptorIndex := 173, attributes := #[] }, { accessFlags := 26, nameIndex := 176, descriptorIndex := 173, attributes := #[] }, { accessFlags := 8, nameIndex := 344, descriptorIndex := 339, attributes := #[] }, { accessFlags := 8, nameIndex := 338, descriptorIndex := 339, attributes := #[] }, { accessFlags := 4120, nameIndex := 245, descriptorIndex := 246, attributes := #[] }])
  fields := #[{ name := "E", type := .double, accessFlags := 25, slot := 0, constantValue := 0 }, { name := "PI", type := .double, accessFlags := 25, slot := 1, constantValue := 0 }, { name := "TAU", type := .double, accessFlags := 25, slot := 2, constantValue := 0 }, { name := "DEGREES_TO_RADIANS", type := .double, accessFlags := 26, slot := 3, constantValue := 0 }, { name := "RADIANS_TO_DEGREES", type := .double, accessFlags := 26, slot := 4, constantValue := 0 }, { name := "negativeZeroFloatBits", type := .long, accessFlags := 26, slot := 5, constantValue := 0 }, { name := "negativeZeroDoubleBits", type := .long, accessFlags := 26, slot := 6, constantValue := 0 }, { name := "twoToTheDoubleScaleUp", type := .double, accessFlags := 8, slot := 7, constantValue := 0 }, { name := "twoToTheDoubleScaleDown", type := .double, accessFlags := 8, slot := 8, constantValue := 0 }, { name := "$assertionsDisabled", type := .boolean, accessFlags := 4120, slot := 9, constantValue := 0 }]
  methods := #[k16m0, k16m1, k16m2]
  instanceTypes := #[]
  staticTypes := #[.double, .double, .double, .double, .double, .long, .long, .double, .double, .boolean]
  resolved := Array.replicate 460 none
  statics := none }

def pool17 : Array CpInfo := pool [(1, .class_ 2), (0, u "java/lang/String"), (1, .class_ 6), (1, u "java/lang/Object"), (0, u "<init>"), (0, u "()V"), (0, .methodref 1 10), (0, .nameAndType 11 12), (0, u "checkIndex"), (0, u "(II)V"), (1, .class_ 16), (1, u "java/lang/StringLatin1"), (36, u "([BI)C"), (67, u "$assertionsDisabled"), (0, u "Z"), (98, .class_ 223), (1, u "java/lang/StringLatin1$LinesSpliterator"), (28, u "charAt"), (137, .class_ 391), (0, u "java/lang/StringLatin1$CharsSpliterator")] 3

def k17m0 : Method := { name := "<init>", desc := "()V", sig := { parameters := [], returnType := none }, accessFlags := 0, code := none }
def k17c1 : Code := { maxStack := 2, maxLocals := 2, code := jdk_43_method_2_code, exceptionTable := #[], attributes := #[] }
def k17m1 : Method := { name := "charAt", desc := "([BI)C", sig := { parameters := [(.array .byte), .int], returnType := some .char }, accessFlags := 9, code := some k17c1 }
/-- java/lang/StringLatin1 -/
def k17 : Class := { plain "java/lang/StringLatin1" (some 0) with
  accessFlags := 48
  interfaces := #[]
  cf := some (fileOf pool17 14 #[.nestMembers #[390, 221]] #[{ accessFlags := 0, nameIndex := 7, descriptorIndex := 8, attributes := #[] }, { accessFlags := 9, nameIndex := 252, descriptorIndex := 53, attributes := #[] }] 48 4 #[] #[{ accessFlags := 4120, nameIndex := 121, descriptorIndex := 122, attributes := #[] }])
  fields := #[{ name := "$assertionsDisabled", type := .boolean, accessFlags := 4120, slot := 0, constantValue := 0 }]
  methods := #[k17m0, k17m1]
  instanceTypes := #[]
  staticTypes := #[.boolean]
  resolved := Array.replicate 395 none
  statics := none }

def pool18 : Array CpInfo := pool [(2, .class_ 4), (1, u "java/lang/Object"), (0, u "<init>"), (0, u "()V"), (17, .class_ 26), (1, u "jdk/internal/util/Preconditions"), (6, u "checkIndex"), (21, .class_ 56), (0, u "jdk/internal/util/Preconditions$4"), (57, .class_ 115), (0, u "jdk/internal/util/Preconditions$1"), (7, u "SIOOBE_FORMATTER"), (0, u "Ljava/util/function/BiFunction;"), (0, .class_ 126), (0, u "jdk/internal/util/Preconditions$2"), (3, u "AIOOBE_FORMATTER"), (0, .class_ 132), (0, u "jdk/internal/util/Preconditions$3"), (3, u "IOOBE_FORMATTER"), (41, u "(IILjava/util/function/BiFunction;)I")] 15

def k18m0 : Method := { name := "<init>", desc := "()V", sig := { parameters := [], returnType := none }, accessFlags := 1, code := none }
def k18c1 : Code := { maxStack := 3, maxLocals := 3, code := jdk_41_method_11_code, exceptionTable := #[], attributes := #[] }
def k18m1 : Method := { name := "checkIndex", desc := "(IILjava/util/function/BiFunction;)I", sig := { parameters := [.int, .int, (.object "java/util/function/BiFunction")], returnType := some .int }, accessFlags := 9, code := some k18c1 }
/-- jdk/internal/util/Preconditions -/
def k18 : Class := { plain "jdk/internal/util/Preconditions" (some 0) with
  accessFlags := 33
  interfaces := #[]
  cf := some (fileOf pool18 24 #[.nestMembers #[55, 131, 125, 114]] #[{ accessFlags := 1, nameIndex := 5, descriptorIndex := 6, attributes := #[] }, { accessFlags := 9, nameIndex := 33, descriptorIndex := 178, attributes := #[] }] 33 2 #[] #[{ accessFlags := 25, nameIndex := 123, descriptorIndex := 124, attributes := #[] }, { accessFlags := 25, nameIndex := 130, descriptorIndex := 124, attributes := #[] }, { accessFlags := 25, nameIndex := 136, descriptorIndex := 124, attributes := #[] }])
  fields := #[{ name := "SIOOBE_FORMATTER", type := (.object "java/util/function/BiFunction"), accessFlags := 25, slot := 0, constantValue := 0 }, { name := "AIOOBE_FORMATTER", type := (.object "java/util/function/BiFunction"), accessFlags := 25, slot := 1, constantValue := 0 }, { name := "IOOBE_FORMATTER", type := (.object "java/util/function/BiFunction"), accessFlags := 25, slot := 2, constantValue := 0 }]
  methods := #[k18m0, k18m1]
  instanceTypes := #[]
  staticTypes := #[(.object "java/util/function/BiFunction"), (.object "java/util/function/BiFunction"), (.object "java/util/function/BiFunction")]
  resolved := Array.replicate 194 none
  statics := some 1 }

def pool19 : Array CpInfo := pool [(1, .class_ 2), (0, u "java/lang/Cloneable"), (0, .class_ 4), (0, u "java/lang/Object")] 2

/-- java/lang/Cloneable -/
def k19 : Class := { plain "java/lang/Cloneable" (some 0) with
  accessFlags := 1537
  interfaces := #[]
  cf := some (fileOf pool19 1 #[] #[] 1537 3 #[] #[])
  fields := #[]
  methods := #[]
  instanceTypes := #[]
  staticTypes := #[]
  resolved := Array.replicate 7 none
  statics := none }

def pool20 : Array CpInfo := pool [(9, u "<init>"), (6, .class_ 18), (1, u "java/lang/Object"), (0, u "()V"), (1, .class_ 23), (1, u "jdk/internal/util/ArraysSupport"), (0, u "LOG2_ARRAY_LONG_INDEX_SCALE"), (0, u "I"), (2, u "U"), (0, u "Ljdk/internal/misc/Unsafe;"), (8, u "BIG_ENDIAN"), (0, u "Z"), (8, u "LOG2_BYTE_BIT_SIZE"), (4, u "LOG2_ARRAY_INT_INDEX_SCALE"), (54, u "JLA"), (0, u "Ljdk/internal/access/JavaLangAccess;"), (11, u "LOG2_ARRAY_BOOLEAN_INDEX_SCALE"), (9, u "LOG2_ARRAY_BYTE_INDEX_SCALE"), (5, u "LOG2_ARRAY_CHAR_INDEX_SCALE"), (5, u "LOG2_ARRAY_SHORT_INDEX_SCALE"), (18, u "LOG2_ARRAY_FLOAT_INDEX_SCALE"), (24, u "LOG2_ARRAY_DOUBLE_INDEX_SCALE"), (6, .methodref 195 196), (0, .class_ 197), (0, .nameAndType 198 199), (0, u "java/lang/Math"), (0, u "max"), (0, u "(II)I"), (0, .integer 2147483639), (76, u "T_BOOLEAN"), (2, u "T_CHAR"), (1, u "T_FLOAT"), (1, u "T_DOUBLE"), (1, u "T_BYTE"), (1, u "T_SHORT"), (1, u "T_INT"), (1, u "T_LONG"), (1, u "SOFT_MAX_ARRAY_LENGTH"), (56, u "newLength"), (0, u "(III)I")] 25

def k20m0 : Method := { name := "<init>", desc := "()V", sig := { parameters := [], returnType := none }, accessFlags := 2, code := none }
def k20c1 : Code := { maxStack := 3, maxLocals := 4, code := jdk_48_method_27_code, exceptionTable := #[], attributes := #[] }
def k20m1 : Method := { name := "newLength", desc := "(III)I", sig := { parameters := [.int, .int, .int], returnType := some .int }, accessFlags := 9, code := some k20c1 }
/-- jdk/internal/util/ArraysSupport -/
def k20 : Class := { plain "jdk/internal/util/ArraysSupport" (some 0) with
  accessFlags := 33
  interfaces := #[]
  cf := some (fileOf pool20 21 #[] #[{ accessFlags := 2, nameIndex := 9, descriptorIndex := 19, attributes := #[] }, { accessFlags := 9, nameIndex := 351, descriptorIndex := 352, attributes := #[] }] 33 16 #[] #[{ accessFlags := 24, nameIndex := 28, descriptorIndex := 29, attributes := #[] }, { accessFlags := 26, nameIndex := 38, descriptorIndex := 39, attributes := #[] }, { accessFlags := 25, nameIndex := 121, descriptorIndex := 25, attributes := #[] }, { accessFlags := 25, nameIndex := 131, descriptorIndex := 25, attributes := #[] }, { accessFlags := 25, nameIndex := 137, descriptorIndex := 25, attributes := #[] }, { accessFlags := 25, nameIndex := 143, descriptorIndex := 25, attributes := #[] }, { accessFlags := 25, nameIndex := 53, descriptorIndex := 25, attributes := #[] }, { accessFlags := 25, nameIndex := 24, descriptorIndex := 25, attributes := #[] }, { accessFlags := 25, nameIndex := 162, descriptorIndex := 25, attributes := #[] }, { accessFlags := 25, nameIndex := 187, descriptorIndex := 25, attributes := #[] }, { accessFlags := 26, nameIndex := 48, descriptorIndex := 25, attributes := #[] }, { accessFlags := 25, nameIndex := 277, descriptorIndex := 25, attributes := #[] }, { accessFlags := 25, nameIndex := 280, descriptorIndex := 25, attributes := #[] }, { accessFlags := 25, nameIndex := 282, descriptorIndex := 25, attributes := #[] }, { accessFlags := 25, nameIndex := 284, descriptorIndex := 25, attributes := #[] }, { accessFlags := 25, nameIndex := 286, descriptorIndex := 25, attributes := #[] }, { accessFlags := 25, nameIndex := 288, descriptorIndex := 25, attributes := #[] }, { accessFlags := 25, nameIndex := 290, descriptorIndex := 25, attributes := #[] }, { accessFlags := 25, nameIndex := 292, descriptorIndex := 25, attributes := #[] }, { accessFlags := 26, nameIndex := 108, descriptorIndex := 109, attributes := #[] }, { accessFlags := 25, nameIndex := 294, descriptorIndex := 25, attributes := #[] }])
  fields := #[{ name := "U", type := (.object "jdk/internal/misc/Unsafe"), accessFlags := 24, slot := 0, constantValue := 0 }, { name := "BIG_ENDIAN", type := .boolean, accessFlags := 26, slot := 1, constantValue := 0 }, { name := "LOG2_ARRAY_BOOLEAN_INDEX_SCALE", type := .int, accessFlags := 25, slot := 2, constantValue := 0 }, { name := "LOG2_ARRAY_BYTE_INDEX_SCALE", type := .int, accessFlags := 25, slot := 3, constantValue := 0 }, { name := "LOG2_ARRAY_CHAR_INDEX_SCALE", type := .int, accessFlags := 25, slot := 4, constantValue := 0 }, { name := "LOG2_ARRAY_SHORT_INDEX_SCALE", type := .int, accessFlags := 25, slot := 5, constantValue := 0 }, { name := "LOG2_ARRAY_INT_INDEX_SCALE", type := .int, accessFlags := 25, slot := 6, constantValue := 0 }, { name := "LOG2_ARRAY_LONG_INDEX_SCALE", type := .int, accessFlags := 25, slot := 7, constantValue := 0 }, { name := "LOG2_ARRAY_FLOAT_INDEX_SCALE", type := .int, accessFlags := 25, slot := 8, constantValue := 0 }, { name := "LOG2_ARRAY_DOUBLE_INDEX_SCALE", type := .int, accessFlags := 25, slot := 9, constantValue := 0 }, { name := "LOG2_BYTE_BIT_SIZE", type := .int, accessFlags := 26, slot := 10, constantValue := 0 }, { name := "T_BOOLEAN", type := .int, accessFlags := 25, slot := 11, constantValue := 0 }, { name := "T_CHAR", type := .int, accessFlags := 25, slot := 12, constantValue := 0 }, { name := "T_FLOAT", type := .int, accessFlags := 25, slot := 13, constantValue := 0 }, { name := "T_DOUBLE", type := .int, accessFlags := 25, slot := 14, constantValue := 0 }, { name := "T_BYTE", type := .int, accessFlags := 25, slot := 15, constantValue := 0 }, { name := "T_SHORT", type := .int, accessFlags := 25, slot := 16, constantValue := 0 }, { name := "T_INT", type := .int, accessFlags := 25, slot := 17, constantValue := 0 }, { name := "T_LONG", type := .int, accessFlags := 25, slot := 18, constantValue := 0 }, { name := "JLA", type := (.object "jdk/internal/access/JavaLangAccess"), accessFlags := 26, slot := 19, constantValue := 0 }, { name := "SOFT_MAX_ARRAY_LENGTH", type := .int, accessFlags := 25, slot := 20, constantValue := 0 }]
  methods := #[k20m0, k20m1]
  instanceTypes := #[]
  staticTypes := #[(.object "jdk/internal/misc/Unsafe"), .boolean, .int, .int, .int, .int, .int, .int, .int, .int, .int, .int, .int, .int, .int, .int, .int, .int, .int, (.object "jdk/internal/access/JavaLangAccess"), .int]
  resolved := Array.replicate 378 none
  statics := none }

/-- the primitive byte -/
def k21 : Class := { plain "byte" none with kind := .primitive 'B', accessFlags := 0x411 }
/-- [B -/
def k22 : Class := { plain "[B" (some 0) with kind := .array 21 .byte, interfaces := #[19, 2], accessFlags := 1041 }

/-- the primitive char -/
def k23 : Class := { plain "char" none with kind := .primitive 'C', accessFlags := 0x411 }
/-- [C -/
def k24 : Class := { plain "[C" (some 0) with kind := .array 23 .char, interfaces := #[19, 2], accessFlags := 1041 }

/-- the primitive int -/
def k25 : Class := { plain "int" none with kind := .primitive 'I', accessFlags := 0x411 }
/-- [I -/
def k26 : Class := { plain "[I" (some 0) with kind := .array 25 .int, interfaces := #[19, 2], accessFlags := 1041 }

def heap : Heap := #[{ cls := 7, slots := #[.long 0, .int 1, .null, .int 0, .null, .int 0, .int 0], vm := .statics 7 },
  { cls := 18, slots := #[.null, .null, .null], vm := .statics 18 }]
def classes : Array Class := #[k0, k1, k2, k3, k4, k5, k6, k7, k8, k9, k10, k11, k12, k13, k14, k15, k16, k17, k18, k19, k20, k21, k22, k23, k24, k25, k26]
def interned : List (Array UInt16 × Addr) := []
def slotsUsed : Nat := 10
def theMethod : MethodId := ⟨1, 1⟩
def args0 : Array Value := #[.int 5, .int 6, .int 7]
def aboutOver (below : List Frame) : State where
  vm := { classes := classes, interned := interned.toArray }
  heap := heap
  slotsUsed := slotsUsed
  threads := #[{ frames := .invoking theMethod args0 :: below }]
def below0 : List Frame := [.native { method := ⟨0, 0⟩, args := #[] }]
def about1 : State := aboutOver below0
def p0 : Program := .bare "" "" ""
def e0 : Env := launch0.env 0 0 0
theorem w_frames : about1.frames = Frame.invoking theMethod args0 :: below0 := rfl
set_option maxRecDepth 65536 in
theorem w_args : argsFit about1.vm theMethod args0 = true := by decide +kernel
set_option maxRecDepth 65536 in
theorem w_heap : heapFits about1 = true := by decide +kernel
set_option maxRecDepth 65536 in
theorem w_runnable : about1.curStatus? = some .runnable := by decide +kernel
set_option maxRecDepth 65536 in
theorem w_alone : about1.alone = true := by decide +kernel
set_option maxRecDepth 65536 in
theorem w_named : about1.methodNamed? x = some theMethod := by decide +kernel
set_option maxRecDepth 65536 in
theorem w_hears : about1.hears theMethod below0 = true := by decide +kernel
set_option maxRecDepth 65536 in
theorem w_ripe : about1.ripe theMethod args0 below0 = true := by decide +kernel
theorem w_running : about1.status = .running := rfl
set_option maxRecDepth 65536 in
theorem w_room : about1.hasRoom e0.platform room_1 = true :=
  launch0.hasRoom_least _ room_1 (by decide +kernel) (by decide +kernel) (by decide +kernel) (by decide +kernel) (by decide +kernel) (by decide +kernel)
theorem allAtoms_all (ts : List Jvm.Cond) (a : Array Jvm.Value) (st : Jvm.State) : (allAtoms ts).before a st = ts.all (fun c => c.before a st) := by
  induction ts with
  | nil => rfl
  | cons c t ih =>
    show (Jvm.Cond.and c (allAtoms t)).before a st = _
    rw [Jvm.Cond.before_and, ih, List.all_cons]
def words1 : List Jvm.Cond := Jvm.Cond.code x code maxLocals ret :: tables_1
/-- a 'code' word, met by the world's own term for the bytes: nothing is compared byte by byte -/
theorem code_word {y : MethodName} {bytes : ByteArray} {mx : Nat} {rt : Option FieldType} {a : Array Value} {s : State} {m : MethodId} {meth : Method} {c : Code} (h1 : s.methodNamed? y = some m) (h2 : s.vm.method? m = some meth) (h3 : meth.code = some c) (h4 : c.code = bytes)
    (h5 : (c.maxLocals == mx && c.exceptionTable.isEmpty && decide (c.maxStack ≤ mostOperands) && decide (meth.sig.returnType = rt) && !meth.locks && decide (parseMethodDescriptor y.desc = some meth.sig)) = true) : (Jvm.Cond.code y bytes mx rt).before a s = true := by
  simp only [Bool.and_eq_true, beq_iff_eq, Bool.not_eq_true', decide_eq_true_eq] at h5
  obtain ⟨⟨⟨⟨⟨g1, g2⟩, g3⟩, g4⟩, g5⟩, g6⟩ := h5
  simp [Cond.before, Cond.holds, Cond.value, h1, h2, h3, h4, g1, g2, g3, g4, g5, g6]
def isCode : Jvm.Cond → Bool
  | .code _ _ _ _ => true
  | _ => false
theorem all_split {L : List Jvm.Cond} {P : Jvm.Cond → Bool} (h1 : L.all (fun c => isCode c || P c) = true) (h2 : ∀ c ∈ L.filter isCode, P c = true) : L.all P = true := by
  refine List.all_eq_true.mpr fun c hc => ?_
  have h := List.all_eq_true.mp h1 c hc
  rcases Bool.eq_false_or_eq_true (isCode c) with hi | hi
  · exact h2 c (List.mem_filter.mpr ⟨hc, hi⟩)
  · simpa [hi] using h
set_option maxRecDepth 65536 in
theorem w_c0 : (Jvm.Cond.code x code maxLocals ret).before args0 about1 = true := code_word (m := ⟨1, 1⟩) (meth := k1m1) (c := k1c1) (by decide +kernel) rfl rfl rfl (by decide +kernel)
set_option maxRecDepth 65536 in
theorem w_c1 : (Jvm.Cond.code ({ cls := "implicitwiring/internal/SettingDescribedPinLaw", name := "mk", desc := "(II)Ljava/lang/String;" } : Jvm.MethodName) method_3_code (5 : Nat) (Option.some (Jvm.ClassFile.FieldType.object "java/lang/String"))).before args0 about1 = true := code_word (m := ⟨1, 2⟩) (meth := k1m2) (c := k1c2) (by decide +kernel) rfl rfl rfl (by decide +kernel)
set_option maxRecDepth 65536 in
theorem w_c2 : (Jvm.Cond.code ({ cls := "java/lang/String", name := "<init>", desc := "([C)V" } : Jvm.MethodName) jdk_42_method_3_code (2 : Nat) (Option.none : Option Jvm.ClassFile.FieldType)).before args0 about1 = true := code_word (m := ⟨7, 1⟩) (meth := k7m1) (c := k7c1) (by decide +kernel) rfl rfl rfl (by decide +kernel)
set_option maxRecDepth 65536 in
theorem w_c3 : (Jvm.Cond.code ({ cls := "java/lang/String", name := "<init>", desc := "([CIILjava/lang/Void;)V" } : Jvm.MethodName) jdk_42_method_149_code (6 : Nat) (Option.none : Option Jvm.ClassFile.FieldType)).before args0 about1 = true := code_word (m := ⟨7, 6⟩) (meth := k7m6) (c := k7c6) (by decide +kernel) rfl rfl rfl (by decide +kernel)
set_option maxRecDepth 65536 in
theorem w_c4 : (Jvm.Cond.code ({ cls := "java/lang/Object", name := "<init>", desc := "()V" } : Jvm.MethodName) object_method_1_code (1 : Nat) (Option.none : Option Jvm.ClassFile.FieldType)).before args0 about1 = true := code_word (m := ⟨0, 0⟩) (meth := k0m0) (c := k0c0) (by decide +kernel) rfl rfl rfl (by decide +kernel)
set_option maxRecDepth 65536 in
theorem w_c5 : (Jvm.Cond.code ({ cls := "java/lang/StringUTF16", name := "compress", desc := "([CII)[B" } : Jvm.MethodName) jdk_52_method_16_code (6 : Nat) (Option.some (Jvm.ClassFile.FieldType.array Jvm.ClassFile.FieldType.byte))).before args0 about1 = true := code_word (m := ⟨8, 2⟩) (meth := k8m2) (c := k8c2) (by decide +kernel) rfl rfl rfl (by decide +kernel)
set_option maxRecDepth 65536 in
theorem w_c6 : (Jvm.Cond.code ({ cls := "java/lang/StringUTF16", name := "compress", desc := "([CI[BII)I" } : Jvm.MethodName) jdk_52_method_21_code (7 : Nat) (Option.some Jvm.ClassFile.FieldType.int)).before args0 about1 = true := code_word (m := ⟨8, 3⟩) (meth := k8m3) (c := k8c3) (by decide +kernel) rfl rfl rfl (by decide +kernel)
set_option maxRecDepth 65536 in
theorem w_c7 : (Jvm.Cond.code ({ cls := "java/lang/StringUTF16", name := "coderFromArrayLen", desc := "([BI)B" } : Jvm.MethodName) jdk_52_method_15_code (2 : Nat) (Option.some Jvm.ClassFile.FieldType.byte)).before args0 about1 = true := code_word (m := ⟨8, 1⟩) (meth := k8m1) (c := k8c1) (by decide +kernel) rfl rfl rfl (by decide +kernel)
set_option maxRecDepth 65536 in
theorem w_c8 : (Jvm.Cond.code ({ cls := "implicitwiring/internal/SettingSources$Setting", name := "<init>", desc := "(Ljava/lang/String;Ljava/lang/String;)V" } : Jvm.MethodName) prog_31_method_1_code (3 : Nat) (Option.none : Option Jvm.ClassFile.FieldType)).before args0 about1 = true := code_word (m := ⟨10, 0⟩) (meth := k10m0) (c := k10c0) (by decide +kernel) rfl rfl rfl (by decide +kernel)
set_option maxRecDepth 65536 in
theorem w_c9 : (Jvm.Cond.code ({ cls := "java/lang/Record", name := "<init>", desc := "()V" } : Jvm.MethodName) jdk_30_method_1_code (1 : Nat) (Option.none : Option Jvm.ClassFile.FieldType)).before args0 about1 = true := code_word (m := ⟨9, 0⟩) (meth := k9m0) (c := k9c0) (by decide +kernel) rfl rfl rfl (by decide +kernel)
set_option maxRecDepth 65536 in
theorem w_c10 : (Jvm.Cond.code ({ cls := "implicitwiring/internal/SettingSources$Setting", name := "described", desc := "()Ljava/lang/String;" } : Jvm.MethodName) prog_31_method_2_code (1 : Nat) (Option.some (Jvm.ClassFile.FieldType.object "java/lang/String"))).before args0 about1 = true := code_word (m := ⟨10, 1⟩) (meth := k10m1) (c := k10c1) (by decide +kernel) rfl rfl rfl (by decide +kernel)
set_option maxRecDepth 65536 in
theorem w_c11 : (Jvm.Cond.code ({ cls := "java/lang/StringBuilder", name := "<init>", desc := "()V" } : Jvm.MethodName) jdk_67_method_1_code (1 : Nat) (Option.none : Option Jvm.ClassFile.FieldType)).before args0 about1 = true := code_word (m := ⟨13, 0⟩) (meth := k13m0) (c := k13c0) (by decide +kernel) rfl rfl rfl (by decide +kernel)
set_option maxRecDepth 65536 in
theorem w_c12 : (Jvm.Cond.code ({ cls := "java/lang/AbstractStringBuilder", name := "<init>", desc := "(I)V" } : Jvm.MethodName) jdk_68_method_2_code (2 : Nat) (Option.none : Option Jvm.ClassFile.FieldType)).before args0 about1 = true := code_word (m := ⟨12, 1⟩) (meth := k12m1) (c := k12c1) (by decide +kernel) rfl rfl rfl (by decide +kernel)
set_option maxRecDepth 65536 in
theorem w_c13 : (Jvm.Cond.code ({ cls := "java/lang/StringBuilder", name := "append", desc := "(Ljava/lang/String;)Ljava/lang/StringBuilder;" } : Jvm.MethodName) jdk_67_method_7_code (2 : Nat) (Option.some (Jvm.ClassFile.FieldType.object "java/lang/StringBuilder"))).before args0 about1 = true := code_word (m := ⟨13, 1⟩) (meth := k13m1) (c := k13c1) (by decide +kernel) rfl rfl rfl (by decide +kernel)
set_option maxRecDepth 65536 in
theorem w_c14 : (Jvm.Cond.code ({ cls := "java/lang/AbstractStringBuilder", name := "append", desc := "(Ljava/lang/String;)Ljava/lang/AbstractStringBuilder;" } : Jvm.MethodName) jdk_68_method_22_code (3 : Nat) (Option.some (Jvm.ClassFile.FieldType.object "java/lang/AbstractStringBuilder"))).before args0 about1 = true := code_word (m := ⟨12, 5⟩) (meth := k12m5) (c := k12c5) (by decide +kernel) rfl rfl rfl (by decide +kernel)
set_option maxRecDepth 65536 in
theorem w_c15 : (Jvm.Cond.code ({ cls := "java/lang/String", name := "length", desc := "()I" } : Jvm.MethodName) jdk_42_method_54_code (1 : Nat) (Option.some Jvm.ClassFile.FieldType.int)).before args0 about1 = true := code_word (m := ⟨7, 3⟩) (meth := k7m3) (c := k7c3) (by decide +kernel) rfl rfl rfl (by decide +kernel)
set_option maxRecDepth 65536 in
theorem w_c16 : (Jvm.Cond.code ({ cls := "java/lang/String", name := "coder", desc := "()B" } : Jvm.MethodName) jdk_42_method_152_code (1 : Nat) (Option.some Jvm.ClassFile.FieldType.byte)).before args0 about1 = true := code_word (m := ⟨7, 8⟩) (meth := k7m8) (c := k7c8) (by decide +kernel) rfl rfl rfl (by decide +kernel)
set_option maxRecDepth 65536 in
theorem w_c17 : (Jvm.Cond.code ({ cls := "java/lang/AbstractStringBuilder", name := "ensureCapacityInternal", desc := "(I)V" } : Jvm.MethodName) jdk_68_method_9_code (3 : Nat) (Option.none : Option Jvm.ClassFile.FieldType)).before args0 about1 = true := code_word (m := ⟨12, 3⟩) (meth := k12m3) (c := k12c3) (by decide +kernel) rfl rfl rfl (by decide +kernel)
set_option maxRecDepth 65536 in
theorem w_c18 : (Jvm.Cond.code ({ cls := "java/lang/AbstractStringBuilder", name := "putStringAt", desc := "(ILjava/lang/String;)V" } : Jvm.MethodName) jdk_68_method_73_code (3 : Nat) (Option.none : Option Jvm.ClassFile.FieldType)).before args0 about1 = true := code_word (m := ⟨12, 9⟩) (meth := k12m9) (c := k12c9) (by decide +kernel) rfl rfl rfl (by decide +kernel)
set_option maxRecDepth 65536 in
theorem w_c19 : (Jvm.Cond.code ({ cls := "java/lang/AbstractStringBuilder", name := "inflateIfNeededFor", desc := "(Ljava/lang/String;)V" } : Jvm.MethodName) jdk_68_method_71_code (2 : Nat) (Option.none : Option Jvm.ClassFile.FieldType)).before args0 about1 = true := code_word (m := ⟨12, 8⟩) (meth := k12m8) (c := k12c8) (by decide +kernel) rfl rfl rfl (by decide +kernel)
set_option maxRecDepth 65536 in
theorem w_c20 : (Jvm.Cond.code ({ cls := "java/lang/String", name := "getBytes", desc := "([BIB)V" } : Jvm.MethodName) jdk_42_method_147_code (4 : Nat) (Option.none : Option Jvm.ClassFile.FieldType)).before args0 about1 = true := code_word (m := ⟨7, 5⟩) (meth := k7m5) (c := k7c5) (by decide +kernel) rfl rfl rfl (by decide +kernel)
set_option maxRecDepth 65536 in
theorem w_c21 : (Jvm.Cond.code ({ cls := "java/lang/StringBuilder", name := "toString", desc := "()Ljava/lang/String;" } : Jvm.MethodName) jdk_67_method_42_code (1 : Nat) (Option.some (Jvm.ClassFile.FieldType.object "java/lang/String"))).before args0 about1 = true := code_word (m := ⟨13, 2⟩) (meth := k13m2) (c := k13c2) (by decide +kernel) rfl rfl rfl (by decide +kernel)
set_option maxRecDepth 65536 in
theorem w_c22 : (Jvm.Cond.code ({ cls := "java/lang/String", name := "<init>", desc := "(Ljava/lang/StringBuilder;)V" } : Jvm.MethodName) jdk_42_method_53_code (2 : Nat) (Option.none : Option Jvm.ClassFile.FieldType)).before args0 about1 = true := code_word (m := ⟨7, 2⟩) (meth := k7m2) (c := k7c2) (by decide +kernel) rfl rfl rfl (by decide +kernel)
set_option maxRecDepth 65536 in
theorem w_c23 : (Jvm.Cond.code ({ cls := "java/lang/String", name := "<init>", desc := "(Ljava/lang/AbstractStringBuilder;Ljava/lang/Void;)V" } : Jvm.MethodName) jdk_42_method_150_code (5 : Nat) (Option.none : Option Jvm.ClassFile.FieldType)).before args0 about1 = true := code_word (m := ⟨7, 7⟩) (meth := k7m7) (c := k7c7) (by decide +kernel) rfl rfl rfl (by decide +kernel)
set_option maxRecDepth 65536 in
theorem w_c24 : (Jvm.Cond.code ({ cls := "java/lang/AbstractStringBuilder", name := "getValue", desc := "()[B" } : Jvm.MethodName) jdk_68_method_64_code (1 : Nat) (Option.some (Jvm.ClassFile.FieldType.array Jvm.ClassFile.FieldType.byte))).before args0 about1 = true := code_word (m := ⟨12, 6⟩) (meth := k12m6) (c := k12c6) (by decide +kernel) rfl rfl rfl (by decide +kernel)
set_option maxRecDepth 65536 in
theorem w_c25 : (Jvm.Cond.code ({ cls := "java/lang/StringBuilder", name := "length", desc := "()I" } : Jvm.MethodName) jdk_67_method_93_code (1 : Nat) (Option.some Jvm.ClassFile.FieldType.int)).before args0 about1 = true := code_word (m := ⟨13, 3⟩) (meth := k13m3) (c := k13c3) (by decide +kernel) rfl rfl rfl (by decide +kernel)
set_option maxRecDepth 65536 in
theorem w_c26 : (Jvm.Cond.code ({ cls := "java/lang/AbstractStringBuilder", name := "length", desc := "()I" } : Jvm.MethodName) jdk_68_method_6_code (1 : Nat) (Option.some Jvm.ClassFile.FieldType.int)).before args0 about1 = true := code_word (m := ⟨12, 2⟩) (meth := k12m2) (c := k12c2) (by decide +kernel) rfl rfl rfl (by decide +kernel)
set_option maxRecDepth 65536 in
theorem w_c27 : (Jvm.Cond.code ({ cls := "java/lang/AbstractStringBuilder", name := "isLatin1", desc := "()Z" } : Jvm.MethodName) jdk_68_method_68_code (1 : Nat) (Option.some Jvm.ClassFile.FieldType.boolean)).before args0 about1 = true := code_word (m := ⟨12, 7⟩) (meth := k12m7) (c := k12c7) (by decide +kernel) rfl rfl rfl (by decide +kernel)
set_option maxRecDepth 65536 in
theorem w_c28 : (Jvm.Cond.code ({ cls := "java/util/Arrays", name := "copyOfRange", desc := "([BII)[B" } : Jvm.MethodName) jdk_65_method_132_code (3 : Nat) (Option.some (Jvm.ClassFile.FieldType.array Jvm.ClassFile.FieldType.byte))).before args0 about1 = true := code_word (m := ⟨15, 3⟩) (meth := k15m3) (c := k15c3) (by decide +kernel) rfl rfl rfl (by decide +kernel)
set_option maxRecDepth 65536 in
theorem w_c29 : (Jvm.Cond.code ({ cls := "java/util/Arrays", name := "copyOfRangeByte", desc := "([BII)[B" } : Jvm.MethodName) jdk_65_method_133_code (5 : Nat) (Option.some (Jvm.ClassFile.FieldType.array Jvm.ClassFile.FieldType.byte))).before args0 about1 = true := code_word (m := ⟨15, 4⟩) (meth := k15m4) (c := k15c4) (by decide +kernel) rfl rfl rfl (by decide +kernel)
set_option maxRecDepth 65536 in
theorem w_c30 : (Jvm.Cond.code ({ cls := "java/util/Arrays", name := "checkLength", desc := "(II)V" } : Jvm.MethodName) jdk_65_method_131_code (2 : Nat) (Option.none : Option Jvm.ClassFile.FieldType)).before args0 about1 = true := code_word (m := ⟨15, 2⟩) (meth := k15m2) (c := k15c2) (by decide +kernel) rfl rfl rfl (by decide +kernel)
set_option maxRecDepth 65536 in
theorem w_c31 : (Jvm.Cond.code ({ cls := "java/lang/Math", name := "min", desc := "(II)I" } : Jvm.MethodName) jdk_29_method_69_code (2 : Nat) (Option.some Jvm.ClassFile.FieldType.int)).before args0 about1 = true := code_word (m := ⟨16, 2⟩) (meth := k16m2) (c := k16c2) (by decide +kernel) rfl rfl rfl (by decide +kernel)
set_option maxRecDepth 65536 in
theorem w_c32 : (Jvm.Cond.code ({ cls := "java/lang/String", name := "charAt", desc := "(I)C" } : Jvm.MethodName) jdk_42_method_56_code (2 : Nat) (Option.some Jvm.ClassFile.FieldType.char)).before args0 about1 = true := code_word (m := ⟨7, 4⟩) (meth := k7m4) (c := k7c4) (by decide +kernel) rfl rfl rfl (by decide +kernel)
set_option maxRecDepth 65536 in
theorem w_c33 : (Jvm.Cond.code ({ cls := "java/lang/String", name := "isLatin1", desc := "()Z" } : Jvm.MethodName) jdk_42_method_154_code (1 : Nat) (Option.some Jvm.ClassFile.FieldType.boolean)).before args0 about1 = true := code_word (m := ⟨7, 9⟩) (meth := k7m9) (c := k7c9) (by decide +kernel) rfl rfl rfl (by decide +kernel)
set_option maxRecDepth 65536 in
theorem w_c34 : (Jvm.Cond.code ({ cls := "java/lang/StringLatin1", name := "charAt", desc := "([BI)C" } : Jvm.MethodName) jdk_43_method_2_code (2 : Nat) (Option.some Jvm.ClassFile.FieldType.char)).before args0 about1 = true := code_word (m := ⟨17, 1⟩) (meth := k17m1) (c := k17c1) (by decide +kernel) rfl rfl rfl (by decide +kernel)
set_option maxRecDepth 65536 in
theorem w_c35 : (Jvm.Cond.code ({ cls := "java/lang/String", name := "checkIndex", desc := "(II)V" } : Jvm.MethodName) jdk_42_method_155_code (2 : Nat) (Option.none : Option Jvm.ClassFile.FieldType)).before args0 about1 = true := code_word (m := ⟨7, 10⟩) (meth := k7m10) (c := k7c10) (by decide +kernel) rfl rfl rfl (by decide +kernel)
set_option maxRecDepth 65536 in
theorem w_c36 : (Jvm.Cond.code ({ cls := "jdk/internal/util/Preconditions", name := "checkIndex", desc := "(IILjava/util/function/BiFunction;)I" } : Jvm.MethodName) jdk_41_method_11_code (3 : Nat) (Option.some Jvm.ClassFile.FieldType.int)).before args0 about1 = true := code_word (m := ⟨18, 1⟩) (meth := k18m1) (c := k18c1) (by decide +kernel) rfl rfl rfl (by decide +kernel)
set_option maxRecDepth 65536 in
theorem w_c37 : (Jvm.Cond.code ({ cls := "implicitwiring/internal/SettingDescribedPinLaw", name := "sameAt", desc := "(Ljava/lang/String;ILjava/lang/String;)Z" } : Jvm.MethodName) method_4_code (4 : Nat) (Option.some Jvm.ClassFile.FieldType.boolean)).before args0 about1 = true := code_word (m := ⟨1, 3⟩) (meth := k1m3) (c := k1c3) (by decide +kernel) rfl rfl rfl (by decide +kernel)
set_option maxRecDepth 65536 in
theorem w_c38 : (Jvm.Cond.code ({ cls := "java/lang/AbstractStringBuilder", name := "newCapacity", desc := "(I)I" } : Jvm.MethodName) jdk_68_method_10_code (6 : Nat) (Option.some Jvm.ClassFile.FieldType.int)).before args0 about1 = true := code_word (m := ⟨12, 4⟩) (meth := k12m4) (c := k12c4) (by decide +kernel) rfl rfl rfl (by decide +kernel)
set_option maxRecDepth 65536 in
theorem w_c39 : (Jvm.Cond.code ({ cls := "jdk/internal/util/ArraysSupport", name := "newLength", desc := "(III)I" } : Jvm.MethodName) jdk_48_method_27_code (4 : Nat) (Option.some Jvm.ClassFile.FieldType.int)).before args0 about1 = true := code_word (m := ⟨20, 1⟩) (meth := k20m1) (c := k20c1) (by decide +kernel) rfl rfl rfl (by decide +kernel)
set_option maxRecDepth 65536 in
theorem w_c40 : (Jvm.Cond.code ({ cls := "java/lang/Math", name := "max", desc := "(II)I" } : Jvm.MethodName) jdk_29_method_65_code (2 : Nat) (Option.some Jvm.ClassFile.FieldType.int)).before args0 about1 = true := code_word (m := ⟨16, 1⟩) (meth := k16m1) (c := k16c1) (by decide +kernel) rfl rfl rfl (by decide +kernel)
set_option maxRecDepth 65536 in
theorem w_c41 : (Jvm.Cond.code ({ cls := "java/util/Arrays", name := "copyOf", desc := "([BI)[B" } : Jvm.MethodName) jdk_65_method_121_code (3 : Nat) (Option.some (Jvm.ClassFile.FieldType.array Jvm.ClassFile.FieldType.byte))).before args0 about1 = true := code_word (m := ⟨15, 1⟩) (meth := k15m1) (c := k15c1) (by decide +kernel) rfl rfl rfl (by decide +kernel)
def codes1 : List Jvm.Cond := [Jvm.Cond.code x code maxLocals ret, Jvm.Cond.code ({ cls := "implicitwiring/internal/SettingDescribedPinLaw", name := "mk", desc := "(II)Ljava/lang/String;" } : Jvm.MethodName) method_3_code (5 : Nat) (Option.some (Jvm.ClassFile.FieldType.object "java/lang/String")), Jvm.Cond.code ({ cls := "java/lang/String", name := "<init>", desc := "([C)V" } : Jvm.MethodName) jdk_42_method_3_code (2 : Nat) (Option.none : Option Jvm.ClassFile.FieldType), Jvm.Cond.code ({ cls := "java/lang/String", name := "<init>", desc := "([CIILjava/lang/Void;)V" } : Jvm.MethodName) jdk_42_method_149_code (6 : Nat) (Option.none : Option Jvm.ClassFile.FieldType), Jvm.Cond.code ({ cls := "java/lang/Object", name := "<init>", desc := "()V" } : Jvm.MethodName) object_method_1_code (1 : Nat) (Option.none : Option Jvm.ClassFile.FieldType), Jvm.Cond.code ({ cls := "java/lang/StringUTF16", name := "compress", desc := "([CII)[B" } : Jvm.MethodName) jdk_52_method_16_code (6 : Nat) (Option.some (Jvm.ClassFile.FieldType.array Jvm.ClassFile.FieldType.byte)), Jvm.Cond.code ({ cls := "java/lang/StringUTF16", name := "compress", desc := "([CI[BII)I" } : Jvm.MethodName) jdk_52_method_21_code (7 : Nat) (Option.some Jvm.ClassFile.FieldType.int), Jvm.Cond.code ({ cls := "java/lang/StringUTF16", name := "coderFromArrayLen", desc := "([BI)B" } : Jvm.MethodName) jdk_52_method_15_code (2 : Nat) (Option.some Jvm.ClassFile.FieldType.byte), Jvm.Cond.code ({ cls := "implicitwiring/internal/SettingSources$Setting", name := "<init>", desc := "(Ljava/lang/String;Ljava/lang/String;)V" } : Jvm.MethodName) prog_31_method_1_code (3 : Nat) (Option.none : Option Jvm.ClassFile.FieldType), Jvm.Cond.code ({ cls := "java/lang/Record", name := "<init>", desc := "()V" } : Jvm.MethodName) jdk_30_method_1_code (1 : Nat) (Option.none : Option Jvm.ClassFile.FieldType), Jvm.Cond.code ({ cls := "implicitwiring/internal/SettingSources$Setting", name := "described", desc := "()Ljava/lang/String;" } : Jvm.MethodName) prog_31_method_2_code (1 : Nat) (Option.some (Jvm.ClassFile.FieldType.object "java/lang/String")), Jvm.Cond.code ({ cls := "java/lang/StringBuilder", name := "<init>", desc := "()V" } : Jvm.MethodName) jdk_67_method_1_code (1 : Nat) (Option.none : Option Jvm.ClassFile.FieldType), Jvm.Cond.code ({ cls := "java/lang/AbstractStringBuilder", name := "<init>", desc := "(I)V" } : Jvm.MethodName) jdk_68_method_2_code (2 : Nat) (Option.none : Option Jvm.ClassFile.FieldType), Jvm.Cond.code ({ cls := "java/lang/StringBuilder", name := "append", desc := "(Ljava/lang/String;)Ljava/lang/StringBuilder;" } : Jvm.MethodName) jdk_67_method_7_code (2 : Nat) (Option.some (Jvm.ClassFile.FieldType.object "java/lang/StringBuilder")), Jvm.Cond.code ({ cls := "java/lang/AbstractStringBuilder", name := "append", desc := "(Ljava/lang/String;)Ljava/lang/AbstractStringBuilder;" } : Jvm.MethodName) jdk_68_method_22_code (3 : Nat) (Option.some (Jvm.ClassFile.FieldType.object "java/lang/AbstractStringBuilder")), Jvm.Cond.code ({ cls := "java/lang/String", name := "length", desc := "()I" } : Jvm.MethodName) jdk_42_method_54_code (1 : Nat) (Option.some Jvm.ClassFile.FieldType.int), Jvm.Cond.code ({ cls := "java/lang/String", name := "coder", desc := "()B" } : Jvm.MethodName) jdk_42_method_152_code (1 : Nat) (Option.some Jvm.ClassFile.FieldType.byte), Jvm.Cond.code ({ cls := "java/lang/AbstractStringBuilder", name := "ensureCapacityInternal", desc := "(I)V" } : Jvm.MethodName) jdk_68_method_9_code (3 : Nat) (Option.none : Option Jvm.ClassFile.FieldType), Jvm.Cond.code ({ cls := "java/lang/AbstractStringBuilder", name := "putStringAt", desc := "(ILjava/lang/String;)V" } : Jvm.MethodName) jdk_68_method_73_code (3 : Nat) (Option.none : Option Jvm.ClassFile.FieldType), Jvm.Cond.code ({ cls := "java/lang/AbstractStringBuilder", name := "inflateIfNeededFor", desc := "(Ljava/lang/String;)V" } : Jvm.MethodName) jdk_68_method_71_code (2 : Nat) (Option.none : Option Jvm.ClassFile.FieldType), Jvm.Cond.code ({ cls := "java/lang/String", name := "getBytes", desc := "([BIB)V" } : Jvm.MethodName) jdk_42_method_147_code (4 : Nat) (Option.none : Option Jvm.ClassFile.FieldType), Jvm.Cond.code ({ cls := "java/lang/StringBuilder", name := "toString", desc := "()Ljava/lang/String;" } : Jvm.MethodName) jdk_67_method_42_code (1 : Nat) (Option.some (Jvm.ClassFile.FieldType.object "java/lang/String")), Jvm.Cond.code ({ cls := "java/lang/String", name := "<init>", desc := "(Ljava/lang/StringBuilder;)V" } : Jvm.MethodName) jdk_42_method_53_code (2 : Nat) (Option.none : Option Jvm.ClassFile.FieldType), Jvm.Cond.code ({ cls := "java/lang/String", name := "<init>", desc := "(Ljava/lang/AbstractStringBuilder;Ljava/lang/Void;)V" } : Jvm.MethodName) jdk_42_method_150_code (5 : Nat) (Option.none : Option Jvm.ClassFile.FieldType), Jvm.Cond.code ({ cls := "java/lang/AbstractStringBuilder", name := "getValue", desc := "()[B" } : Jvm.MethodName) jdk_68_method_64_code (1 : Nat) (Option.some (Jvm.ClassFile.FieldType.array Jvm.ClassFile.FieldType.byte)), Jvm.Cond.code ({ cls := "java/lang/StringBuilder", name := "length", desc := "()I" } : Jvm.MethodName) jdk_67_method_93_code (1 : Nat) (Option.some Jvm.ClassFile.FieldType.int), Jvm.Cond.code ({ cls := "java/lang/AbstractStringBuilder", name := "length", desc := "()I" } : Jvm.MethodName) jdk_68_method_6_code (1 : Nat) (Option.some Jvm.ClassFile.FieldType.int), Jvm.Cond.code ({ cls := "java/lang/AbstractStringBuilder", name := "isLatin1", desc := "()Z" } : Jvm.MethodName) jdk_68_method_68_code (1 : Nat) (Option.some Jvm.ClassFile.FieldType.boolean), Jvm.Cond.code ({ cls := "java/util/Arrays", name := "copyOfRange", desc := "([BII)[B" } : Jvm.MethodName) jdk_65_method_132_code (3 : Nat) (Option.some (Jvm.ClassFile.FieldType.array Jvm.ClassFile.FieldType.byte)), Jvm.Cond.code ({ cls := "java/util/Arrays", name := "copyOfRangeByte", desc := "([BII)[B" } : Jvm.MethodName) jdk_65_method_133_code (5 : Nat) (Option.some (Jvm.ClassFile.FieldType.array Jvm.ClassFile.FieldType.byte)), Jvm.Cond.code ({ cls := "java/util/Arrays", name := "checkLength", desc := "(II)V" } : Jvm.MethodName) jdk_65_method_131_code (2 : Nat) (Option.none : Option Jvm.ClassFile.FieldType), Jvm.Cond.code ({ cls := "java/lang/Math", name := "min", desc := "(II)I" } : Jvm.MethodName) jdk_29_method_69_code (2 : Nat) (Option.some Jvm.ClassFile.FieldType.int), Jvm.Cond.code ({ cls := "java/lang/String", name := "charAt", desc := "(I)C" } : Jvm.MethodName) jdk_42_method_56_code (2 : Nat) (Option.some Jvm.ClassFile.FieldType.char), Jvm.Cond.code ({ cls := "java/lang/String", name := "isLatin1", desc := "()Z" } : Jvm.MethodName) jdk_42_method_154_code (1 : Nat) (Option.some Jvm.ClassFile.FieldType.boolean), Jvm.Cond.code ({ cls := "java/lang/StringLatin1", name := "charAt", desc := "([BI)C" } : Jvm.MethodName) jdk_43_method_2_code (2 : Nat) (Option.some Jvm.ClassFile.FieldType.char), Jvm.Cond.code ({ cls := "java/lang/String", name := "checkIndex", desc := "(II)V" } : Jvm.MethodName) jdk_42_method_155_code (2 : Nat) (Option.none : Option Jvm.ClassFile.FieldType), Jvm.Cond.code ({ cls := "jdk/internal/util/Preconditions", name := "checkIndex", desc := "(IILjava/util/function/BiFunction;)I" } : Jvm.MethodName) jdk_41_method_11_code (3 : Nat) (Option.some Jvm.ClassFile.FieldType.int), Jvm.Cond.code ({ cls := "implicitwiring/internal/SettingDescribedPinLaw", name := "sameAt", desc := "(Ljava/lang/String;ILjava/lang/String;)Z" } : Jvm.MethodName) method_4_code (4 : Nat) (Option.some Jvm.ClassFile.FieldType.boolean), Jvm.Cond.code ({ cls := "java/lang/AbstractStringBuilder", name := "newCapacity", desc := "(I)I" } : Jvm.MethodName) jdk_68_method_10_code (6 : Nat) (Option.some Jvm.ClassFile.FieldType.int), Jvm.Cond.code ({ cls := "jdk/internal/util/ArraysSupport", name := "newLength", desc := "(III)I" } : Jvm.MethodName) jdk_48_method_27_code (4 : Nat) (Option.some Jvm.ClassFile.FieldType.int), Jvm.Cond.code ({ cls := "java/lang/Math", name := "max", desc := "(II)I" } : Jvm.MethodName) jdk_29_method_65_code (2 : Nat) (Option.some Jvm.ClassFile.FieldType.int), Jvm.Cond.code ({ cls := "java/util/Arrays", name := "copyOf", desc := "([BI)[B" } : Jvm.MethodName) jdk_65_method_121_code (3 : Nat) (Option.some (Jvm.ClassFile.FieldType.array Jvm.ClassFile.FieldType.byte))]
set_option maxRecDepth 65536 in
theorem codes_eq : words1.filter isCode = codes1 := rfl
theorem w_codes : ∀ c ∈ words1.filter isCode, c.before args0 about1 = true := by
  rw [codes_eq]
  intro c hc
  simp only [codes1, List.mem_cons, List.not_mem_nil, or_false] at hc
  rcases hc with rfl | rfl | rfl | rfl | rfl | rfl | rfl | rfl | rfl | rfl | rfl | rfl | rfl | rfl | rfl | rfl | rfl | rfl | rfl | rfl | rfl | rfl | rfl | rfl | rfl | rfl | rfl | rfl | rfl | rfl | rfl | rfl | rfl | rfl | rfl | rfl | rfl | rfl | rfl | rfl | rfl | rfl
  · exact w_c0
  · exact w_c1
  · exact w_c2
  · exact w_c3
  · exact w_c4
  · exact w_c5
  · exact w_c6
  · exact w_c7
  · exact w_c8
  · exact w_c9
  · exact w_c10
  · exact w_c11
  · exact w_c12
  · exact w_c13
  · exact w_c14
  · exact w_c15
  · exact w_c16
  · exact w_c17
  · exact w_c18
  · exact w_c19
  · exact w_c20
  · exact w_c21
  · exact w_c22
  · exact w_c23
  · exact w_c24
  · exact w_c25
  · exact w_c26
  · exact w_c27
  · exact w_c28
  · exact w_c29
  · exact w_c30
  · exact w_c31
  · exact w_c32
  · exact w_c33
  · exact w_c34
  · exact w_c35
  · exact w_c36
  · exact w_c37
  · exact w_c38
  · exact w_c39
  · exact w_c40
  · exact w_c41
set_option maxRecDepth 65536 in
theorem w_t1 : (words1.take 24).all (fun c => isCode c || c.before args0 about1) = true := by decide +kernel
set_option maxRecDepth 65536 in
theorem w_t2 : ((words1.drop 24).take 24).all (fun c => isCode c || c.before args0 about1) = true := by decide +kernel
set_option maxRecDepth 65536 in
theorem w_t3 : (((words1.drop 24).drop 24).take 24).all (fun c => isCode c || c.before args0 about1) = true := by decide +kernel
set_option maxRecDepth 65536 in
theorem w_t4 : ((((words1.drop 24).drop 24).drop 24).take 24).all (fun c => isCode c || c.before args0 about1) = true := by decide +kernel
set_option maxRecDepth 65536 in
theorem w_t5 : (((((words1.drop 24).drop 24).drop 24).drop 24).take 24).all (fun c => isCode c || c.before args0 about1) = true := by decide +kernel
set_option maxRecDepth 65536 in
theorem w_t6 : ((((((words1.drop 24).drop 24).drop 24).drop 24).drop 24).take 24).all (fun c => isCode c || c.before args0 about1) = true := by decide +kernel
set_option maxRecDepth 65536 in
theorem w_t7 : (((((((words1.drop 24).drop 24).drop 24).drop 24).drop 24).drop 24).take 24).all (fun c => isCode c || c.before args0 about1) = true := by decide +kernel
set_option maxRecDepth 65536 in
theorem w_t8 : ((((((((words1.drop 24).drop 24).drop 24).drop 24).drop 24).drop 24).drop 24).take 24).all (fun c => isCode c || c.before args0 about1) = true := by decide +kernel
set_option maxRecDepth 65536 in
theorem w_t9 : (((((((((words1.drop 24).drop 24).drop 24).drop 24).drop 24).drop 24).drop 24).drop 24).take 24).all (fun c => isCode c || c.before args0 about1) = true := by decide +kernel
set_option maxRecDepth 65536 in
theorem w_t10 : (((((((((words1.drop 24).drop 24).drop 24).drop 24).drop 24).drop 24).drop 24).drop 24).drop 24).all (fun c => isCode c || c.before args0 about1) = true := by decide +kernel
theorem w_tables : (allAtoms (Jvm.Cond.code x code maxLocals ret :: tables_1)).before args0 about1 = true := by
  rw [allAtoms_all]
  show words1.all (fun c => c.before args0 about1) = true
  refine all_split ?_ w_codes
  rw [← List.take_append_drop 24 words1, List.all_append, w_t1, ← List.take_append_drop 24 (words1.drop 24), List.all_append, w_t2, ← List.take_append_drop 24 ((words1.drop 24).drop 24), List.all_append, w_t3, ← List.take_append_drop 24 (((words1.drop 24).drop 24).drop 24), List.all_append, w_t4, ← List.take_append_drop 24 ((((words1.drop 24).drop 24).drop 24).drop 24), List.all_append, w_t5, ← List.take_append_drop 24 (((((words1.drop 24).drop 24).drop 24).drop 24).drop 24), List.all_append, w_t6, ← List.take_append_drop 24 ((((((words1.drop 24).drop 24).drop 24).drop 24).drop 24).drop 24), List.all_append, w_t7, ← List.take_append_drop 24 (((((((words1.drop 24).drop 24).drop 24).drop 24).drop 24).drop 24).drop 24), List.all_append, w_t8, ← List.take_append_drop 24 ((((((((words1.drop 24).drop 24).drop 24).drop 24).drop 24).drop 24).drop 24).drop 24), List.all_append, w_t9, w_t10]
  rfl
set_option maxRecDepth 65536 in
theorem w_rest : rest_1_c.before args0 about1 = true := by decide +kernel
set_option maxRecDepth 65536 in
theorem w_case : (Jvm.Cond.and given_1 narrow_1).before args0 about1 = true := by decide +kernel
set_option maxRecDepth 65536 in
theorem w_consts : constsHeld consts_1 about1 := Jvm.Lit.constsHeldB_iff.mp (by decide +kernel)
theorem w_applies : (headSpec (Jvm.Cond.code x code maxLocals ret :: tables_1) room_1).applies x e0.platform about1 = true :=
  (Spec.applies_iff w_frames).mpr ⟨w_running, w_runnable, w_alone, w_named, w_hears, w_ripe, w_room, w_tables⟩
theorem atStart : AtStart classFile x code maxLocals ret World_1 tables_1 room_1 Calls_1 rest_1 Pre_1 launch0 p0 e0 about1 theMethod args0 below0 :=
  ⟨lists_1, trivial, launch0.admits_env _ _ _, launch0.least_env, fairChoices_fair.cas, fairChoices_fair.clock, w_frames, w_args, w_heap, w_applies, ⟨w_consts, trivial⟩, w_rest, w_case⟩
end start1
theorem witness_1 : WitnessClaimed_1 := ⟨start1.p0, start1.e0, start1.about1, start1.theMethod, start1.args0, start1.below0, start1.atStart⟩
end Jvm.Pilot.@@N@@
